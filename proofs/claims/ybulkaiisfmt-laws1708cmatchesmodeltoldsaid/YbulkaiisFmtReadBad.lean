/-
  wireReader.uvarint (function 10), where it fails. By the prover of seat 061 (an AI agent).
-/
import Derived.Test.YbulkaiisFmtErrorf
namespace Go.Proofs.YbulkaiisFmt
open Go Go.MapKept Go.Maps Go.ChangeMaps Go.RowKit Go.Extern.Stop Go.Stop Go.Extern

attribute [local go_sem ↓] Go.wp_at_zero Go.wp_at_succ

set_option maxRecDepth 100000 in
set_option maxHeartbeats 1000000 in
/-- The varint is cut short, or does not fit. -/
theorem uvarint_bad (F : Interp) {w : World} (hF : F.answers w.tape) {rb g n c p : Nat} {at' : Int} {what wh : ByteArray} {D : List UInt8} {x : Nat} {k : Int} (hr : w.heap[rb]? = some (.cells #[.slice (some ⟨g, 0, none⟩) n c, .int .i64 (p : Nat), .int .i64 at', .string what] 31 (0, 0))) (hD : D.length = n) (hcell : ∀ j (hj : j < D.length), w.cell? ⟨g, j, none⟩ = some (.int .u8 (D[j]).toNat)) (hc : n ≤ c) (hp : p < n)
    (hdec : Lib.uvarintDec (D.drop p) = (x, k)) (hk : k ≤ 0) :
    Calls Ybaf.prog 10 #[.pointer (some ⟨rb, 0, none⟩), .string wh] w fun e w' => (∃ v, e = .returned (.tuple #[.int .u64 0, .iface 50 v])) ∧ w.grownBy w' none := by
  have c0 : w.cell? ⟨rb, 0, none⟩ = some (.slice (some ⟨g, 0, none⟩) n c) := by simp [World.cell?, hr]
  have c1 : w.cell? ⟨rb, 1, none⟩ = some (.int .i64 (p : Nat)) := by simp [World.cell?, hr]
  have hHeld : Held4 rb w.heap.size p at' what wh ((w.alloc (.cells #[.iface 9 (.string wh)] 20)).drew) := by
    have hrb : rb < w.heap.size := (Array.getElem?_eq_some_iff.1 hr).1
    have hb : (w.alloc (.cells #[.iface 9 (.string wh)] 20)).drew.heap[rb]? = _ := (Below.heap_alloc w _ rb hrb).trans hr
    refine ⟨by simp [World.cell?, hb], by simp [World.cell?, hb], by simp [World.cell?, hb], ?_⟩
    show (w.alloc (.cells #[.iface 9 (.string wh)] 20)).cell? _ = _
    rw [World.cell?_alloc_at _ _ _ _ rfl]
    rfl
  have hcd := Ybaf.binary_Uvarint g p (n - p) (c - p) (D.drop p) w.drew (by rw [List.length_drop, hD]) (by
    intro j hj
    rw [List.length_drop] at hj
    show w.cell? _ = _
    rw [hcell (p + j) (by omega)]
    simp)
  rw [hdec] at hcd
  have hE1 := errorf_cut F ((w.alloc (.cells #[.iface 9 (.string wh)] 20)).drew) hF rb w.heap.size p at' what wh hHeld
  have hE2 := errorf_big F ((w.alloc (.cells #[.iface 9 (.string wh)] 20)).drew) hF rb w.heap.size p at' what wh hHeld
  have hg1 : w.grownBy (w.alloc (.cells #[.iface 9 (.string wh)] 20)).drew none := grownBy_trans (World.grownBy_alloc w _ none) (grownBy_dr _ none)
  have hpI : (p : Int) ≤ (n : Int) := by omega
  have hcp : ¬ c = p := by omega
  have kS1 : w.drew.cell? ⟨rb, 0, none⟩ = some (.slice (some ⟨g, 0, none⟩) n c) ∧ w.drew.cell? ⟨rb, 1, none⟩ = some (.int .i64 (p : Nat)) := ⟨c0, c1⟩
  clear hr hHeld hF hcell
  by_cases hk0 : k = 0
  · subst hk0
    go_enter Ybaf.func10, Ybaf.ntmps10
    go_wp2
    go_region_held3 (fun u => u.cell? ⟨rb, 0, none⟩ = some (.slice (some ⟨g, 0, none⟩) n c) ∧ u.cell? ⟨rb, 1, none⟩ = some (.int .i64 (p : Nat)))
      (first
        | assumption
        | go_keep)
      (first | (go_at_call 14; refine hcd.mono ?_; rintro e w2 ⟨rfl, rfl⟩))
    clear hcd kS1
    go_wp2_with fail
    refine hE1.mono ?_
    rintro e w2 ⟨v, rfl, hg⟩
    go_wp2
    refine bodyPost_ret (results_tmp2 rfl _ _ _) rfl ?_
    exact ⟨⟨v, rfl⟩, grownBy_trans hg1 hg⟩
  · have hkn : k < 0 := by omega
    have hb0 : (k == 0) = false := by simpa using hk0
    go_enter Ybaf.func10, Ybaf.ntmps10
    go_wp2
    go_region_held3 (fun u => u.cell? ⟨rb, 0, none⟩ = some (.slice (some ⟨g, 0, none⟩) n c) ∧ u.cell? ⟨rb, 1, none⟩ = some (.int .i64 (p : Nat)))
      (first
        | assumption
        | go_keep)
      (first | (go_at_call 14; refine hcd.mono ?_; rintro e w2 ⟨rfl, rfl⟩))
    clear hcd kS1
    go_wp2_with fail
    refine hE2.mono ?_
    rintro e w2 ⟨v, rfl, hg⟩
    go_wp2
    refine bodyPost_ret (results_tmp2 rfl _ _ _) rfl ?_
    exact ⟨⟨v, rfl⟩, grownBy_trans hg1 hg⟩
end Go.Proofs.YbulkaiisFmt
