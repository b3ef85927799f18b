/-
  submit (function 5) under a schedule. By the prover of seat 061 (an AI agent).
-/
import Derived.Test.YbulkaihcFmtCarryAll
namespace Go.Proofs.YbulkaihcFmt
open Go Go.MapKept Go.Maps Go.ChangeMaps Go.RowKit

/-- All that the first k requests send; all that the log holds then. -/
def allSent (e : Gear) (R : Nat → ByteArray) (k : Nat) : List Sent := (List.range (k * e.n)).map fun p => (e.T p, (((p % e.n : Nat) : Int), R (p / e.n)))
def allLog (e : Gear) (k : Nat) : List Call := (List.range (k * e.n)).map fun p => (e.ids (p % e.n), e.T p)
theorem allSent_length (e : Gear) (R : Nat → ByteArray) (k : Nat) : (allSent e R k).length = k * e.n := by simp [allSent]
theorem allLog_length (e : Gear) (k : Nat) : (allLog e k).length = k * e.n := by simp [allLog]
theorem allSent_succ (e : Gear) (R : Nat → ByteArray) (k : Nat) : allSent e R (k + 1) = allSent e R k ++ sentTo e (k * e.n) (R k) e.n := by
  unfold allSent sentTo
  rw [Nat.succ_mul, List.range_add, List.map_append, List.map_map]
  congr 1
  apply List.map_congr_left
  intro i hi
  have hi := List.mem_range.1 hi
  have hm : (k * e.n + i) % e.n = i := by rw [Nat.mul_comm, Nat.mul_add_mod, Nat.mod_eq_of_lt hi]
  have hd : (k * e.n + i) / e.n = k := by rw [Nat.mul_comm, Nat.mul_add_div (by omega), Nat.div_eq_of_lt hi, Nat.add_zero]
  simp only [Function.comp_apply, hm, hd]
theorem allLog_succ (e : Gear) (k : Nat) : allLog e (k + 1) = allLog e k ++ loggedTo e (k * e.n) e.n := by
  unfold allLog loggedTo
  rw [Nat.succ_mul, List.range_add, List.map_append, List.map_map]
  congr 1
  apply List.map_congr_left
  intro i hi
  have hi := List.mem_range.1 hi
  have hm : (k * e.n + i) % e.n = i := by rw [Nat.mul_comm, Nat.mul_add_mod, Nat.mod_eq_of_lt hi]
  simp only [Function.comp_apply, hm]

set_option maxRecDepth 100000 in
set_option maxHeartbeats 1000000 in
theorem submit_all {e : Gear} {w : World} (ho : e.Ok) (h : Sky w e.B e.cb e.nv e.dv [] []) (hX : Fixed e w) (hW : Wind e w 0 []) (ad : Option Addr) (b off len cap : Nat) (R : Nat → ByteArray) (hlen : len ≤ 256) (hn : e.n ≤ 256) (hb : 0 < len → e.Low b)
    (hidx : ∀ (i : Nat) (W : World), i < len → (Instr.indexAt 22 (.slice ad len cap) (.int .i64 (i : Int))).run Ybaf.prog W = .ok (.pointer (some ⟨b, off + i, none⟩)) W)
    (hc : ∀ i, i < len → w.cell? ⟨b, off + i, none⟩ = some (.string (R i))) :
    Calls Ybaf.prog 5 #[.pointer (some ⟨e.cb, 0, none⟩), .slice ad len cap] w fun r w' => r = .returned (.tuple #[]) ∧ ∃ G', Sky w' e.B e.cb e.nv e.dv (allSent e R len) G' ∧ Wind e w' (len * e.n) (allLog e len) ∧ Blown e w w' := by
  go_enter Ybaf.func5, Ybaf.ntmps5
  go_wp2_with fail
  go_loopw [8] (fun i wi => ∃ (k : Nat) (G : List Ent), k ≤ len ∧ i = .int .i64 k ∧ Sky wi e.B e.cb e.nv e.dv (allSent e R k) G ∧ Fixed e wi ∧ Wind e wi (k * e.n) (allLog e k) ∧ Blown e w wi) (fun i _ => len - (intOf i).toNat)
  case atStart => exact ⟨0, [], Nat.zero_le _, rfl, by simpa [allSent] using h, hX, by simpa [allLog] using hW, Blown.refl _ _⟩
  case round =>
    clear h hX hW
    obtain ⟨k, G, hk, rfl, hS, hX, hW, hB⟩ := hrel
    by_cases hlt : k < len
    · have q0 : wr.cell? ⟨b, off + k, none⟩ = some (.string (R k)) := hB.cell (hb (by omega)) (hc k hlt)
      have hix := fun W => hidx k W hlt
      have hkn : k * e.n ≤ 256 * 256 := Nat.mul_le_mul (by omega) hn
      have hcall := carry_all ho hS hX hW (R k) (by rw [allSent_length]; omega) (by omega) (by rw [allLog_length]; omega) hn
      rw [← allSent_succ, ← allLog_succ, ← Nat.succ_mul] at hcall
      clear hc hidx hS hW
      go_wp2_with fail
      refine hcall.mono ?_
      rintro r w1 ⟨rfl, G', hS', hW', b1⟩
      have hB2 := hB.trans b1
      have hX2 := hX.blown ho b1
      clear hcall hX hB b1 q0
      go_wp2
      go_roundw
      case rel => exact ⟨k + 1, G', by omega, by go_num, hS', hX2, hW', hB2⟩
      case measure => simp [intOf]; omega
    · obtain rfl : k = len := by omega
      clear hc hidx
      go_wp2
      go_end0
      exact ⟨rfl, G, hS, hW, hB⟩
end Go.Proofs.YbulkaihcFmt
