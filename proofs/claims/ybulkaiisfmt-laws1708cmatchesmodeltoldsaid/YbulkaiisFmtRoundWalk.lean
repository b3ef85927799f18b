/-
  'LawS1708CRoundTrip' (function 6): the walk. By the prover of seat 061 (an AI agent).
-/
import Derived.Test.YbulkaiisFmtBytes
namespace Go.Proofs.YbulkaiisFmt
open Go Go.MapKept Go.Maps Go.ChangeMaps Go.RowKit

theorem own_some {W : World} {base e z n : Nat} {v : Value} {xs : List Value} (h : W.ownsRow base e z v n xs) (hn : 0 < n) : ∃ g cap, v = .slice (some ⟨g, 0, none⟩) n cap := by
  rcases h.2 with ⟨_, h0⟩ | ⟨g, cap, cur, rfl, _⟩
  · omega
  · exact ⟨g, cap, rfl⟩
theorem own_bytes {w : World} {base g n c : Nat} {l : List UInt8} (h : w.ownsRow base 5 1 (.slice (some ⟨g, 0, none⟩) n c) n (Lib.byteCells l)) : Bytes w (some ⟨g, 0, none⟩) n l := by
  obtain ⟨h1, _, h2⟩ := own_byte h
  refine ⟨h1, by simp, fun a ha => ?_⟩
  cases ha
  intro j hj
  have e : (⟨g, 0, none⟩ : Addr).add j = ⟨g, j, none⟩ := by
    unfold Addr.add
    split
    · rename_i h; subst h; rfl
    · simp
  rw [e]
  exact h2 j hj
/-- An argument's bytes stay, where old memory does. -/
theorem Bytes.below {w w' : World} {B : Nat} {ad : Option Addr} {n : Nat} {l : List UInt8} (h : Bytes w ad n l) (hb : Below B w w') (hB : B = w.heap.size) : Bytes w' ad n l := by
  refine ⟨h.1, h.2.1, fun a ha j hj => ?_⟩
  have h2 := h.2.2 a ha j hj
  exact (hb.cell (p := a.add j) (by rw [hB]; exact World.block_lt_of_cell? _ _ h2)).trans h2

theorem eql_nilErr (W : World) : (binOp .eql 34 .nilIface .nilIface).run Ybaf.prog W = .ok (.bool true) W := by kernel_rfl

set_option maxRecDepth 100000 in
theorem round_long (pad tad : Option Addr) (n pc m tc : Nat) (x : Int) (w : World) (h : (1024 : Int) < n ∨ (¬ (1024 : Int) < n ∧ (1024 : Int) < m)) :
    Calls Ybaf.prog 6 #[.slice pad n pc, .int .u64 x, .slice tad m tc] w fun e w' => e = .returned (.bool true) ∧ Below w.heap.size w w' := by
  rcases h with h | ⟨h, h2⟩
  · go_enter Ybaf.func6, Ybaf.ntmps6
    go_wp2
    go_ret
    exact ⟨rfl, Below.refl _ _⟩
  · go_enter Ybaf.func6, Ybaf.ntmps6
    go_wp2
    go_ret
    exact ⟨rfl, Below.refl _ _⟩

set_option maxRecDepth 100000 in
set_option maxHeartbeats 1000000 in
theorem round_walk (pad tad : Option Addr) (n pc m tc x : Nat) (pre tail : List UInt8) (w : World) (hn : n ≤ 1024) (hm : m ≤ 1024) (hx : x < 18446744073709551616) (hp : Bytes w pad n pre) (ht : Bytes w tad m tail) (htc : tad = none → tc = 0) :
    Calls Ybaf.prog 6 #[.slice pad n pc, .int .u64 (x : Int), .slice tad m tc] w fun e w' => e = .returned (.bool true) ∧ Below w.heap.size w w' := by
  have g1 : ¬ (1024 : Int) < (n : Int) := by omega
  have g2 : ¬ (1024 : Int) < (m : Int) := by omega
  have hk1 := Lib.uvarint_pos x
  have hk10 := Lib.uvarint_length64 hx
  have hdec := dec_enc x hx tail
  have hlast := fun k => enc_last k x
  obtain ⟨enc, henc⟩ : ∃ enc, enc = Lib.uvarint x := ⟨_, rfl⟩
  have hc12 := Ybaf.binary_AppendUvarint w.heap.size 0 x hx (.slice none 0 0) [] w (World.ownsRow_nil _ _ _ _) (Nat.le_refl _) (by omega)
  rw [← henc] at hk1 hk10 hdec hlast hc12
  have hencH : Hid (enc = Lib.uvarint x) := henc
  clear henc
  simp only [Nat.zero_add, List.nil_append] at hc12
  go_enter Ybaf.func6, Ybaf.ntmps6
  go_wp2_with fail
  refine hc12.mono ?_
  rintro e w1 ⟨v1, rfl, hv1, hb1⟩
  clear hc12
  obtain ⟨g1', c1', rfl⟩ := own_some hv1 (by omega)
  have hp1 := hp.below hb1 rfl
  have hc9 := clone_any w1 pad n pc pre hp1 (fun a ha h0 => by
    have := hp1.2.2 a ha 0 (by rw [hp1.1]; exact h0)
    have := World.block_lt_of_cell? _ _ this
    simpa [Addr.add] using this) (by omega)
  go_wp2_with fail
  refine hc9.mono ?_
  rintro e w2 ⟨v2, rfl, hv2, hg2⟩
  clear hc9
  have hv12 := hv1.kept hg2 (Or.inr (by simp [Value.ownBlock]))
  obtain ⟨v3, w3, a1, a2, a3⟩ := append5 hv2 (own_bytes hv12) (c := c1') (by simp) (by omega) (by omega) (Nat.le_trans (Nat.le_refl _) hg2.size)
  have hb2 : Below w.heap.size w w2 := ⟨hg2.os.trans hb1.os, hg2.tape.trans hb1.tape, hg2.output.trans hb1.output, Nat.le_trans hb1.size hg2.size, fun k hk => (hg2.block k (Nat.lt_of_lt_of_le hk hb1.size) (by simp)).trans (hb1.block k hk)⟩
  have hb3 : Below w.heap.size w w3 := ⟨a3.os.trans hb2.os, a3.tape.trans hb2.tape, a3.output.trans hb2.output, Nat.le_trans hb2.size a3.size, fun k hk => (a3.block k (Nat.lt_of_lt_of_le hk hb2.size) (fun e => by
    have := (hv2.lt k e.symm).1
    have := hb1.size
    omega)).trans (hb2.block k hk)⟩
  rw [show Lib.byteCells pre ++ Lib.byteCells enc = Lib.byteCells (pre ++ enc) by simp [Lib.byteCells]] at a2
  obtain ⟨v4, w4, b1, b2, b3⟩ := append5 a2 (ht.below hb3 rfl) (c := tc) htc (by omega) (by omega) (Nat.le_trans hg2.size a3.size)
  have hb4 : Below w.heap.size w w4 := ⟨b3.os.trans hb3.os, b3.tape.trans hb3.tape, b3.output.trans hb3.output, Nat.le_trans hb3.size b3.size, fun k hk => (b3.block k (Nat.lt_of_lt_of_le hk hb3.size) (fun e => by
    have := (a2.lt k e.symm).1
    have := hb1.size
    omega)).trans (hb3.block k hk)⟩
  rw [show Lib.byteCells (pre ++ enc) ++ Lib.byteCells tail = Lib.byteCells (pre ++ enc ++ tail) by simp [Lib.byteCells]] at b2
  obtain ⟨g, c, rfl⟩ := own_some b2 (by omega)
  obtain ⟨hDl, hcc, hcell⟩ := own_byte b2
  have hgw := (b2.lt g rfl).2
  have hpl : pre.length = n := hp.1
  have hdrop : (pre ++ enc ++ tail).drop n = enc ++ tail := by rw [List.append_assoc, ← hpl, List.drop_left]
  have hgood := uvarint_good (w := w4.alloc (.cells #[.slice (some ⟨g, 0, none⟩) (n + enc.length + m) c, .int .i64 (n : Nat), .int .i64 0, .string ⟨#[116, 101, 115, 116]⟩] 31)) (rb := w4.heap.size) (p := n) (k := enc.length) (x := x) (wh := ⟨#[97, 32, 118, 97, 108, 117, 101]⟩) (MapKept.heap_alloc w4 _).1 hDl (fun j hj => (World.cell?_alloc_lt _ _ _ hgw).trans (hcell j hj)) (by omega) hcc (by omega) (by omega) (by omega) (by rw [hdrop, hdec]) (by
    intro h1 b hb
    have hi : n + enc.length - 1 = n + (enc.length - 1) := by omega
    rw [hi, List.append_assoc, List.getElem?_append_right (by omega), hpl, Nat.add_sub_cancel_left, List.getElem?_append_left (by omega)] at hb
    obtain ⟨b', hb', hne⟩ := hlast (enc.length - 2) (by omega)
    rw [show enc.length - 2 + 1 = enc.length - 1 by omega, hb] at hb'
    cases hb'
    exact hne)
  clear hlast hdec hcell b2 b3 a2 a3 hv12 hv2 hg2 hp ht
  go_wp2_with (at_builtin; first | (refine wpList_append_run rfl (.tmp 24) (.tmp 25) 26 26 rfl _ _ rfl rfl (a1 _) ?_) | (refine wpList_append_run rfl (.tmp 27) (.tmp 28) 26 26 rfl _ _ rfl rfl (b1 _) ?_))
  refine hgood.mono ?_
  rintro e w5 ⟨rfl, hg5⟩
  have c1 : w5.cell? ⟨w4.heap.size, 1, none⟩ = some (.int .i64 ((n : Int) + (enc.length : Int))) := by
    refine hg5.cell ?_ (by simp)
    rw [World.setCell_alloc_at _ _ _ _ _ rfl, World.cell?_alloc_at _ _ _ _ rfl]
    rfl
  have hb5 : Below w.heap.size w w5 := by
    refine ⟨hg5.os.trans hb4.os, hg5.tape.trans hb4.tape, hg5.output.trans hb4.output, ?_, fun k hk => ?_⟩
    · have h1 := hb4.size
      have h2 := hg5.size
      simp at h2
      omega
    · have h1 := hb4.size
      refine (hg5.block k (by simp; omega) (by simp)).trans ((Below.heap_setCell _ _ _ _ (by show k ≠ w4.heap.size; omega)).trans ((Below.heap_alloc _ _ _ (by omega)).trans (hb4.block k hk)))
  have hei := eql_nilErr
  clear hgood hg5 hb4 hb3 hb2 hb1 a1 b1 hv1 hp1
  go_wp2
  go_ret
  exact ⟨rfl, hb5⟩
end Go.Proofs.YbulkaiisFmt
