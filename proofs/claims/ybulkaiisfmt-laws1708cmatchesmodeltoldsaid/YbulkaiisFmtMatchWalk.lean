/-
  'LawS1708CMatchesModel' (function 5): the walk. By the prover of seat 061 (an AI agent).
-/
import Derived.Test.YbulkaiisFmtMatchParts
namespace Go.Proofs.YbulkaiisFmt
open Go Go.MapKept Go.Maps Go.ChangeMaps Go.RowKit Go.Extern.Stop Go.Stop Go.Extern

set_option maxRecDepth 100000 in
theorem match_long (ad : Option Addr) (n c : Nat) (q at' : Int) (what : ByteArray) (w : World) (h : (1024 : Int) < n) :
    Calls Ybaf.prog 5 #[.slice ad n c, .int .u64 q, .int .i64 at', .string what] w fun e w' => e = .returned (.bool true) ∧ Below w.heap.size w w' := by
  go_enter Ybaf.func5, Ybaf.ntmps5
  go_wp2
  go_ret
  exact ⟨rfl, Below.refl _ _⟩

/-- Behind the reader: its variable's cells, old memory, the buffer. -/
theorem behind {w w1 w2 : World} {bd : Option Addr} {n bc : Nat} {D : List UInt8} {P0 at' : Int} {what : ByteArray} (hb1 : Below w.heap.size w w1) (hbuf : Buf w1 bd n bc D) (hblt : ∀ a, bd = some a → a.block < w1.heap.size) (hg2 : (w1.alloc (.cells #[.slice bd n bc, .int .i64 P0, .int .i64 at', .string what] 31)).grownBy w2 none) :
    w2.cell? ⟨w1.heap.size, 0, none⟩ = some (.slice bd n bc) ∧ w2.cell? ⟨w1.heap.size, 1, none⟩ = some (.int .i64 P0) ∧ w2.cell? ⟨w1.heap.size, 2, none⟩ = some (.int .i64 at') ∧ w2.cell? ⟨w1.heap.size, 3, none⟩ = some (.string what) ∧ Below w.heap.size w w2 ∧ Buf w2 bd n bc D := by
  have hs2 := hg2.size
  have hs1 := hb1.size
  simp at hs2
  have hkeep : ∀ k, k < w1.heap.size → w2.heap[k]? = w1.heap[k]? := fun k hk => (hg2.block k (by simp; omega) (by simp)).trans (Below.heap_alloc _ _ _ hk)
  refine ⟨?_, ?_, ?_, ?_, ⟨hg2.os.trans hb1.os, hg2.tape.trans hb1.tape, hg2.output.trans hb1.output, by omega, fun k hk => (hkeep k (by omega)).trans (hb1.block k hk)⟩, hbuf.kept fun a ha => hkeep _ (hblt a ha)⟩
  all_goals
    refine hg2.cell ?_ (by simp)
    rw [World.cell?_alloc_at _ _ _ _ rfl]
    rfl

set_option maxRecDepth 100000 in
set_option maxHeartbeats 1000000 in
theorem match_walk (F : Interp) (w : World) (hF : F.answers w.tape) (ad : Option Addr) (n c q : Nat) (at' : Int) (what : ByteArray) (D : List UInt8) (hn : n ≤ 1024) (hq : q < 18446744073709551616) (hd : Bytes w ad n D) :
    Calls Ybaf.prog 5 #[.slice ad n c, .int .u64 (q : Int), .int .i64 at', .string what] w fun e w' => e = .returned (.bool true) ∧ Below w.heap.size w w' := by
  have g1 : ¬ (1024 : Int) < (n : Int) := by omega
  obtain ⟨p, hpq⟩ : ∃ p, p = q % (n + 1) := ⟨_, rfl⟩
  have hp : p ≤ n := by
    have := Nat.mod_lt q (show 0 < n + 1 by omega)
    omega
  have hmod : (q : Int) % ((n : Int) + 1) = (p : Int) := by
    rw [hpq]
    exact (Int.natCast_emod q (n + 1)).symm
  have htmod : (q : Int).tmod ((n : Int) + 1) = (p : Int) := by
    rw [Int.tmod_eq_emod_of_nonneg (by omega), hmod]
  have hpqH : Hid (p = q % (n + 1)) := hpq
  clear hpq
  have hc9 := clone_any w ad n c D hd (fun a ha h0 => by
    have := hd.2.2 a ha 0 (by rw [hd.1]; exact h0)
    have := World.block_lt_of_cell? _ _ this
    simpa [Addr.add] using this) (by omega)
  go_enter Ybaf.func5, Ybaf.ntmps5
  go_wp2_with fail
  refine hc9.mono ?_
  rintro e w1 ⟨v, rfl, hv, hg1⟩
  clear hc9
  obtain ⟨bd, bc, rfl, hbuf, hblt⟩ := buf_own hv
  have hbufA := hbuf.alloc hblt (.cells #[.slice bd n bc, .int .i64 (p : Nat), .int .i64 at', .string what] 31)
  have hrA := (MapKept.heap_alloc w1 (.cells #[.slice bd n bc, .int .i64 (p : Nat), .int .i64 at', .string what] 31)).1
  have hb1 : Below w.heap.size w w1 := ⟨hg1.os, hg1.tape, hg1.output, hg1.size, fun k hk => hg1.block k hk (by simp)⟩
  have hFA : F.answers (w1.alloc (.cells #[.slice bd n bc, .int .i64 (p : Nat), .int .i64 at', .string what] 31)).tape := by
    show F.answers w1.tape
    rw [hg1.tape]
    exact hF
  cases hs : shortFrom 0 0 (D.drop p) with
  | some xk =>
    obtain ⟨x, k⟩ := xk
    have hgood := read_good (wh := ⟨#[97, 32, 99, 111, 117, 110, 116]⟩) hrA hbufA hn hs
    clear hF hFA hd hv hg1
    go_wp2_with fail
    refine hgood.mono ?_
    rintro e w2 ⟨rfl, hg2⟩
    have hsz : (w1.alloc (.cells #[.slice bd n bc, .int .i64 (p : Nat), .int .i64 at', .string what] 31)).setCell ⟨w1.heap.size, 1, none⟩ (.int .i64 ((p : Int) + (k : Int))) = w1.alloc (.cells #[.slice bd n bc, .int .i64 ((p : Int) + (k : Int)), .int .i64 at', .string what] 31) := by
      rw [World.setCell_alloc_at _ _ _ _ _ rfl]
      rfl
    rw [hsz] at hg2
    clear hgood hsz hrA hbufA
    obtain ⟨c0, c1, c2, c3, hb2, hbuf2⟩ := behind hb1 hbuf hblt hg2
    have hmodel := model_buf hbuf2 hn hp
    rw [hs] at hmodel
    simp only [modelOut] at hmodel
    have hsH : Hid (shortFrom 0 0 (D.drop p) = some (x, k)) := hs
    have hei := eql_nilErr
    clear hs hbuf2 hbuf hblt hg2 hb1
    go_wp2_with fail
    refine hmodel.mono ?_
    rintro e w3 ⟨rfl, rfl⟩
    clear hmodel
    go_wp2
    go_ret
    exact ⟨rfl, hb2⟩
  | none =>
    have hbad := read_bad F hFA (wh := ⟨#[97, 32, 99, 111, 117, 110, 116]⟩) hrA hbufA hn hp hs
    clear hF hFA hd hv hg1
    go_wp2_with fail
    refine hbad.mono ?_
    rintro e w2 ⟨⟨ev, rfl⟩, hg2⟩
    clear hbad hrA hbufA
    obtain ⟨c0, c1, c2, c3, hb2, hbuf2⟩ := behind hb1 hbuf hblt hg2
    have hmodel := model_buf hbuf2 hn hp
    rw [hs] at hmodel
    simp only [modelOut] at hmodel
    have hsH : Hid (shortFrom 0 0 (D.drop p) = none) := hs
    have hei := neq_err
    clear hs hbuf2 hbuf hblt hg2 hb1
    go_wp2_with fail
    refine hmodel.mono ?_
    rintro e w3 ⟨rfl, rfl⟩
    clear hmodel
    go_wp2
    go_ret
    exact ⟨rfl, hb2⟩
end Go.Proofs.YbulkaiisFmt
