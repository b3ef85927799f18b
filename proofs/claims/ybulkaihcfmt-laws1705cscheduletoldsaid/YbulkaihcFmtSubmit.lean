/-
  submit (function 5) under the unit-delay schedule. By the prover of seat 061 (an AI agent).
-/
import Derived.Test.YbulkaihcFmtCarry
namespace Go.Proofs.YbulkaihcFmt
open Go Go.MapKept Go.Maps Go.ChangeMaps Go.RowKit

/-- What is sent under the unit delay: the first k requests. -/
def unitL (R : Nat → ByteArray) (k : Nat) : List Sent := (List.range k).map fun i => (1, (-1, R i))
theorem unitL_succ (R : Nat → ByteArray) (k : Nat) : unitL R (k + 1) = unitL R k ++ [(1, (-1, R k))] := by simp [unitL, List.range_succ]
theorem unitL_length (R : Nat → ByteArray) (k : Nat) : (unitL R k).length = k := by simp [unitL]

set_option maxRecDepth 100000 in
set_option maxHeartbeats 1000000 in
theorem submit_unit {w : World} {B cb : Nat} {nv : Value} (h : Sky w B cb nv .nilFunc [] []) (ad : Option Addr) (b off len cap : Nat) (R : Nat → ByteArray) (hlen : len ≤ 1024) (hb : 0 < len → b < cb)
    (hidx : ∀ (i : Nat) (W : World), i < len → (Instr.indexAt 22 (.slice ad len cap) (.int .i64 (i : Int))).run Ybaf.prog W = .ok (.pointer (some ⟨b, off + i, none⟩)) W)
    (hc : ∀ i, i < len → w.cell? ⟨b, off + i, none⟩ = some (.string (R i))) :
    Calls Ybaf.prog 5 #[.pointer (some ⟨cb, 0, none⟩), .slice ad len cap] w fun e w' => e = .returned (.tuple #[]) ∧ ∃ G', Sky w' B cb nv .nilFunc (unitL R len) G' ∧ Kept w w' B cb := by
  have hcB : cb < B ∧ B ≤ w.heap.size := by
    obtain ⟨_, _, hF, _⟩ := h
    exact hF.lt
  go_enter Ybaf.func5, Ybaf.ntmps5
  go_wp2_with fail
  go_loopw [8] (fun i wi => ∃ (k : Nat) (G : List Ent), k ≤ len ∧ i = .int .i64 k ∧ Sky wi B cb nv .nilFunc (unitL R k) G ∧ Kept w wi B cb) (fun i _ => len - (intOf i).toNat)
  case atStart => exact ⟨0, [], Nat.zero_le _, rfl, h, Kept.refl _ _ _⟩
  case round =>
    clear h
    obtain ⟨k, G, hk, rfl, hS, hK⟩ := hrel
    by_cases hlt : k < len
    · have q0 : wr.cell? ⟨b, off + k, none⟩ = some (.string (R k)) := by
        have hbb := hb (by omega)
        rw [← hc k hlt]
        exact same_cell (hK.block b (by omega) (by omega) (Or.inl (by omega))) _
      have hix := fun W => hidx k W hlt
      have hcall := carry_unit hS (R k) (by rw [unitL_length]; omega)
      rw [← unitL_succ] at hcall
      clear hc hidx
      go_wp2_with fail
      refine hcall.mono ?_
      rintro e w1 ⟨rfl, G', hS', _, hK'⟩
      have hK2 := hK.trans hK'
      clear hcall hS hK hK' q0
      go_wp2
      go_roundw
      case rel => exact ⟨k + 1, G', by omega, by go_num, hS', hK2⟩
      case measure => simp [intOf]; omega
    · obtain rfl : k = len := by omega
      clear hc hidx
      go_wp2
      go_end0
      exact ⟨rfl, G, hS, hK⟩
end Go.Proofs.YbulkaihcFmt
