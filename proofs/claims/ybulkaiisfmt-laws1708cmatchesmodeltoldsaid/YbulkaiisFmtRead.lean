/-
  wireReader.uvarint (function 10), where it succeeds. By the prover of seat 061 (an AI agent).
-/
import Derived.Test.YbulkaiisFmtKit
namespace Go.Proofs.YbulkaiisFmt
open Go Go.MapKept Go.Maps Go.ChangeMaps Go.RowKit

attribute [local go_sem ↓] Go.wp_at_zero Go.wp_at_succ

theorem index_byte (g n c i : Nat) (W : World) (hi : i < n) : (Instr.indexAt 26 (.slice (some ⟨g, 0, none⟩) n c) (.int .i64 (i : Int))).run Ybaf.prog W = .ok (.pointer (some ⟨g, i, none⟩)) W := by
  have hadd : (⟨g, 0, none⟩ : Addr).add i = ⟨g, i, none⟩ := by
    unfold Addr.add
    split
    · rename_i h0; rw [h0]
    · simp
  simp [Instr.indexAt, asIntOf, run_underlying Ybaf.underlying26, hi, hadd, Result.andThen]

set_option maxRecDepth 100000 in
set_option maxHeartbeats 1000000 in
theorem uvarint_good {w : World} {rb g n c p : Nat} {av wv : Value} {wh : ByteArray} {D : List UInt8} {x k : Nat} (hr : w.heap[rb]? = some (.cells #[.slice (some ⟨g, 0, none⟩) n c, .int .i64 (p : Nat), av, wv] 31 (0, 0))) (hD : D.length = n) (hcell : ∀ j (hj : j < D.length), w.cell? ⟨g, j, none⟩ = some (.int .u8 (D[j]).toNat)) (hn : n ≤ 5000) (hc : n ≤ c) (hp : p < n) (hk : 0 < k) (hkn : p + k ≤ n)
    (hdec : Lib.uvarintDec (D.drop p) = (x, (k : Int))) (hlast : 1 < k → ∀ b, D[p + k - 1]? = some b → b.toNat ≠ 0) :
    Calls Ybaf.prog 10 #[.pointer (some ⟨rb, 0, none⟩), .string wh] w fun e w' => e = .returned (.tuple #[.int .u64 (x : Int), .nilIface]) ∧ (w.setCell ⟨rb, 1, none⟩ (.int .i64 ((p : Int) + (k : Int)))).grownBy w' none := by
  have c0 : w.cell? ⟨rb, 0, none⟩ = some (.slice (some ⟨g, 0, none⟩) n c) := by simp [World.cell?, hr]
  have c1 : w.cell? ⟨rb, 1, none⟩ = some (.int .i64 (p : Nat)) := by simp [World.cell?, hr]
  have f1 : w.frozen? ⟨rb, 1, none⟩ = false := by simp [World.frozen?, hr]
  have hcall := fun (W : World) (hW : ∀ j (hj : j < D.length), W.cell? ⟨g, j, none⟩ = some (.int .u8 (D[j]).toNat)) => Ybaf.binary_Uvarint g p (n - p) (c - p) (D.drop p) W (by rw [List.length_drop, hD]) (by
    intro j hj
    rw [List.length_drop] at hj
    rw [hW (p + j) (by omega)]
    simp)
  rw [hdec] at hcall
  have hpI : (p : Int) ≤ (n : Int) := by omega
  have hcd := hcall w.drew hcell
  have hcp : ¬ c = p := by omega
  clear hcall
  have kS1 : w.drew.cell? ⟨rb, 0, none⟩ = some (.slice (some ⟨g, 0, none⟩) n c) ∧ w.drew.cell? ⟨rb, 1, none⟩ = some (.int .i64 (p : Nat)) := ⟨c0, c1⟩
  go_enter Ybaf.func10, Ybaf.ntmps10
  go_wp2
  go_region_held3 (fun u => u.cell? ⟨rb, 0, none⟩ = some (.slice (some ⟨g, 0, none⟩) n c) ∧ u.cell? ⟨rb, 1, none⟩ = some (.int .i64 (p : Nat)))
    (first
      | assumption
      | go_keep)
    (first | (go_at_call 14; refine hcd.mono ?_; rintro e w2 ⟨rfl, rfl⟩))
  have hk0 : ((k : Int) == 0) = false := by simp; omega
  have hk1 : ¬ (k : Int) < 0 := by omega
  have hg : (w.setCell ⟨rb, 1, none⟩ (.int .i64 ((p : Int) + (k : Int)))).grownBy ((w.setCell ⟨rb, 1, none⟩ (.int .i64 ((p : Int) + (k : Int)))).drew).drew none := grownBy_trans (grownBy_dr _ _) (grownBy_dr _ _)
  by_cases h1 : k = 1
  · subst h1
    clear hcd kS1 hr hcell hlast hdec
    go_wp2
    go_region
    go_wp2
    refine bodyPost_ret (results_tmp2 rfl _ _ _) rfl ?_
    exact ⟨rfl, hg⟩
  · have hkI : (1 : Int) < (k : Int) := by omega
    have hw1 : IntKind.i64.wrap ((p : Int) + (k : Int)) = (p : Int) + (k : Int) := by rw [IntKind.wrap_i64]; omega
    have hw2 : IntKind.i64.wrap ((p : Int) + (k : Int) - 1) = (p : Int) + (k : Int) - 1 := by rw [IntKind.wrap_i64]; omega
    have hj : p + k - 1 < D.length := by omega
    have hq := hcell (p + k - 1) hj
    have hne := hlast (by omega) _ (List.getElem?_eq_getElem hj)
    have hx := fun W => index_byte g n c (p + k - 1) W (by omega)
    rw [show ((p + k - 1 : Nat) : Int) = (p : Int) + (k : Int) - 1 by omega] at hx
    obtain ⟨b, hb⟩ : ∃ b, b = (D[p + k - 1]'hj).toNat := ⟨_, rfl⟩
    rw [← hb] at hq hne
    have hb0 : ((b : Int) == 0) = false := by simp; omega
    obtain ⟨o, ho⟩ : ∃ o, o = p + k - 1 := ⟨_, rfl⟩
    rw [← ho] at hq hx
    clear hcd kS1 hr hcell hlast hdec hb ho
    go_wp2
    go_region
    go_wp2
    refine bodyPost_ret (results_tmp2 rfl _ _ _) rfl ?_
    exact ⟨rfl, hg⟩
end Go.Proofs.YbulkaiisFmt
