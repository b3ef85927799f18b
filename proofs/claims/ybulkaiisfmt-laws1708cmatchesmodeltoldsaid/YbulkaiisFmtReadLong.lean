/-
  wireReader.uvarint (function 10): a varint not in its shortest form; and at the data's end. By the prover of seat 061 (an AI agent).
-/
import Derived.Test.YbulkaiisFmtReadBad
namespace Go.Proofs.YbulkaiisFmt
open Go Go.MapKept Go.Maps Go.ChangeMaps Go.RowKit Go.Extern.Stop Go.Stop Go.Extern

attribute [local go_sem ↓] Go.wp_at_zero Go.wp_at_succ

/-- The reader's variable, and the operands' row behind it. -/
theorem held_of {w u : World} {rb : Nat} {dv : Value} {p at' : Int} {what wh : ByteArray} (hr : w.heap[rb]? = some (.cells #[dv, .int .i64 p, .int .i64 at', .string what] 31 (0, 0))) (hu : (w.alloc (.cells #[.iface 9 (.string wh)] 20)).grownBy u none) : Held4 rb w.heap.size p at' what wh u := by
  have hrb : rb < w.heap.size := (Array.getElem?_eq_some_iff.1 hr).1
  have hb : (w.alloc (.cells #[.iface 9 (.string wh)] 20)).heap[rb]? = _ := (Below.heap_alloc w _ rb hrb).trans hr
  refine held_grown ⟨by simp [World.cell?, hb], by simp [World.cell?, hb], by simp [World.cell?, hb], ?_⟩ hu
  rw [World.cell?_alloc_at _ _ _ _ rfl]
  rfl

set_option maxRecDepth 100000 in
set_option maxHeartbeats 1000000 in
/-- Not in its shortest form. -/
theorem uvarint_long (F : Interp) {w : World} (hF : F.answers w.tape) {rb g n c p : Nat} {at' : Int} {what wh : ByteArray} {D : List UInt8} {x k : Nat} (hr : w.heap[rb]? = some (.cells #[.slice (some ⟨g, 0, none⟩) n c, .int .i64 (p : Nat), .int .i64 at', .string what] 31 (0, 0))) (hD : D.length = n) (hcell : ∀ j (hj : j < D.length), w.cell? ⟨g, j, none⟩ = some (.int .u8 (D[j]).toNat)) (hn : n ≤ 5000) (hc : n ≤ c) (hp : p < n)
    (hdec : Lib.uvarintDec (D.drop p) = (x, (k : Int))) (hk : 1 < k) (hkn : p + k ≤ n) (hlast : D[p + k - 1]? = some 0) :
    Calls Ybaf.prog 10 #[.pointer (some ⟨rb, 0, none⟩), .string wh] w fun e w' => (∃ v, e = .returned (.tuple #[.int .u64 0, .iface 50 v])) ∧ w.grownBy w' none := by
  have c0 : w.cell? ⟨rb, 0, none⟩ = some (.slice (some ⟨g, 0, none⟩) n c) := by simp [World.cell?, hr]
  have c1 : w.cell? ⟨rb, 1, none⟩ = some (.int .i64 (p : Nat)) := by simp [World.cell?, hr]
  have hHeld : Held4 rb w.heap.size p at' what wh (((w.alloc (.cells #[.iface 9 (.string wh)] 20)).drew).drew) := held_of hr (grownBy_trans (grownBy_dr _ none) (grownBy_dr _ none))
  have hcd := Ybaf.binary_Uvarint g p (n - p) (c - p) (D.drop p) w.drew (by rw [List.length_drop, hD]) (by
    intro j hj
    rw [List.length_drop] at hj
    show w.cell? _ = _
    rw [hcell (p + j) (by omega)]
    simp)
  rw [hdec] at hcd
  have hE := errorf_long F (((w.alloc (.cells #[.iface 9 (.string wh)] 20)).drew).drew) hF rb w.heap.size p at' what wh hHeld
  have hg1 : w.grownBy ((w.alloc (.cells #[.iface 9 (.string wh)] 20)).drew).drew none := grownBy_trans (World.grownBy_alloc w _ none) (grownBy_trans (grownBy_dr _ none) (grownBy_dr _ none))
  have hpI : (p : Int) ≤ (n : Int) := by omega
  have hcp : ¬ c = p := by omega
  have kS1 : w.drew.cell? ⟨rb, 0, none⟩ = some (.slice (some ⟨g, 0, none⟩) n c) ∧ w.drew.cell? ⟨rb, 1, none⟩ = some (.int .i64 (p : Nat)) := ⟨c0, c1⟩
  have hk0 : ((k : Int) == 0) = false := by simp; omega
  have hk1 : ¬ (k : Int) < 0 := by omega
  have hkI : (1 : Int) < (k : Int) := by omega
  have hw1 : IntKind.i64.wrap ((p : Int) + (k : Int)) = (p : Int) + (k : Int) := by rw [IntKind.wrap_i64]; omega
  have hw2 : IntKind.i64.wrap ((p : Int) + (k : Int) - 1) = (p : Int) + (k : Int) - 1 := by rw [IntKind.wrap_i64]; omega
  have hj : p + k - 1 < D.length := by omega
  have hq := hcell (p + k - 1) hj
  have hz : (D[p + k - 1]'hj).toNat = 0 := by
    rw [List.getElem?_eq_getElem hj] at hlast
    simp only [Option.some.injEq] at hlast
    rw [hlast]
    rfl
  rw [hz] at hq
  have hx := fun W => index_byte g n c (p + k - 1) W (by omega)
  rw [show ((p + k - 1 : Nat) : Int) = (p : Int) + (k : Int) - 1 by omega] at hx
  obtain ⟨o, ho⟩ : ∃ o, o = p + k - 1 := ⟨_, rfl⟩
  rw [← ho] at hq hx
  clear hr hHeld hF hcell hlast hz ho
  go_enter Ybaf.func10, Ybaf.ntmps10
  go_wp2
  go_region_held3 (fun u => u.cell? ⟨rb, 0, none⟩ = some (.slice (some ⟨g, 0, none⟩) n c) ∧ u.cell? ⟨rb, 1, none⟩ = some (.int .i64 (p : Nat)))
    (first
      | assumption
      | go_keep)
    (first | (go_at_call 14; refine hcd.mono ?_; rintro e w2 ⟨rfl, rfl⟩))
  clear hcd kS1
  go_wp2
  go_region
  go_wp2_with fail
  refine hE.mono ?_
  rintro e w2 ⟨v, rfl, hg⟩
  go_wp2
  refine bodyPost_ret (results_tmp2 rfl _ _ _) rfl ?_
  exact ⟨⟨v, rfl⟩, grownBy_trans hg1 hg⟩

set_option maxRecDepth 100000 in
set_option maxHeartbeats 1000000 in
/-- At the data's end. -/
theorem uvarint_end (F : Interp) {w : World} (hF : F.answers w.tape) {rb n c : Nat} {ad : Option Addr} {at' : Int} {what wh : ByteArray} (hr : w.heap[rb]? = some (.cells #[.slice ad n c, .int .i64 (n : Nat), .int .i64 at', .string what] 31 (0, 0))) (hn : n ≤ 5000) (hc : n ≤ c) (had : ad = none ∧ n = 0 ∧ c = 0 ∨ ∃ g, ad = some ⟨g, 0, none⟩) :
    Calls Ybaf.prog 10 #[.pointer (some ⟨rb, 0, none⟩), .string wh] w fun e w' => (∃ v, e = .returned (.tuple #[.int .u64 0, .iface 50 v])) ∧ w.grownBy w' none := by
  have hE := errorf_cut F ((w.alloc (.cells #[.iface 9 (.string wh)] 20)).drew) hF rb w.heap.size n at' what wh (held_of hr (grownBy_dr _ none))
  have hg1 : w.grownBy (w.alloc (.cells #[.iface 9 (.string wh)] 20)).drew none := grownBy_trans (World.grownBy_alloc w _ none) (grownBy_dr _ none)
  have hcd : ∀ (ao : Option Addr) (c' : Nat), Calls Ybaf.prog 14 #[.slice ao 0 c'] w.drew fun e w' => e = .returned (.tuple #[.int .u64 0, .int .i64 0]) ∧ w' = w.drew := fun ao c' => Ybaf.binary_Uvarint_empty ao c' w.drew
  have c0 : w.cell? ⟨rb, 0, none⟩ = some (.slice ad n c) := by simp [World.cell?, hr]
  have c1 : w.cell? ⟨rb, 1, none⟩ = some (.int .i64 (n : Nat)) := by simp [World.cell?, hr]
  have kS1 : w.drew.cell? ⟨rb, 0, none⟩ = some (.slice ad n c) ∧ w.drew.cell? ⟨rb, 1, none⟩ = some (.int .i64 (n : Nat)) := ⟨c0, c1⟩
  clear hr hF
  rcases had with ⟨rfl, rfl, rfl⟩ | ⟨g, rfl⟩
  · go_enter Ybaf.func10, Ybaf.ntmps10
    go_wp2
    go_region_held3 (fun u => u.cell? ⟨rb, 0, none⟩ = some (.slice none 0 0) ∧ u.cell? ⟨rb, 1, none⟩ = some (.int .i64 ((0 : Nat) : Int)))
      (first
        | assumption
        | go_keep)
      (first | (go_at_call 14; refine (hcd _ _).mono ?_; rintro e w2 ⟨rfl, rfl⟩))
    clear hcd kS1
    go_wp2_with fail
    refine hE.mono ?_
    rintro e w2 ⟨v, rfl, hg⟩
    go_wp2
    refine bodyPost_ret (results_tmp2 rfl _ _ _) rfl ?_
    exact ⟨⟨v, rfl⟩, grownBy_trans hg1 hg⟩
  · have hnn : n - n = 0 := Nat.sub_self n
    by_cases hcn : c = n
    · subst hcn
      go_enter Ybaf.func10, Ybaf.ntmps10
      go_wp2
      go_region_held3 (fun u => u.cell? ⟨rb, 0, none⟩ = some (.slice (some ⟨g, 0, none⟩) c c) ∧ u.cell? ⟨rb, 1, none⟩ = some (.int .i64 (c : Nat)))
        (first
          | assumption
          | go_keep)
        (first | (go_at_call 14; refine (hcd _ _).mono ?_; rintro e w2 ⟨rfl, rfl⟩))
      clear hcd kS1
      go_wp2_with fail
      refine hE.mono ?_
      rintro e w2 ⟨v, rfl, hg⟩
      go_wp2
      refine bodyPost_ret (results_tmp2 rfl _ _ _) rfl ?_
      exact ⟨⟨v, rfl⟩, grownBy_trans hg1 hg⟩
    · skip
      go_enter Ybaf.func10, Ybaf.ntmps10
      go_wp2
      go_region_held3 (fun u => u.cell? ⟨rb, 0, none⟩ = some (.slice (some ⟨g, 0, none⟩) n c) ∧ u.cell? ⟨rb, 1, none⟩ = some (.int .i64 (n : Nat)))
        (first
          | assumption
          | go_keep)
        (first | (go_at_call 14; refine (hcd _ _).mono ?_; rintro e w2 ⟨rfl, rfl⟩))
      clear hcd kS1
      go_wp2_with fail
      refine hE.mono ?_
      rintro e w2 ⟨v, rfl, hg⟩
      go_wp2
      refine bodyPost_ret (results_tmp2 rfl _ _ _) rfl ?_
      exact ⟨⟨v, rfl⟩, grownBy_trans hg1 hg⟩
end Go.Proofs.YbulkaiisFmt
