/-
  The model's decoder zzs1708cmodel (function 11): the walk. Its ten cases are laid by program. By the prover of seat 061 (an AI agent).
-/
import Derived.Test.YbulkaiisFmtShort
import Derived.Test.YbulkaiisFmtKit
import Derived.Lib.VarintBits
import Derived.OwnWalk
namespace Go.Proofs.YbulkaiisFmt
open Go Go.MapKept Go.Maps Go.ChangeMaps Go.RowKit

/-- What the model answers. -/
def modelOut (p : Nat) : Option (Nat × Nat) → Value
  | none => .tuple #[.int .u64 0, .int .i64 (p : Int), .bool false]
  | some (x, k) => .tuple #[.int .u64 (x : Int), .int .i64 ((p : Int) + (k : Int)), .bool true]

set_option maxRecDepth 100000 in
set_option maxHeartbeats 4000000 in
theorem model_walk (w : World) (ad : Option Addr) (n c p : Nat) (D : List UInt8) (hD : D.length = n) (hn : n ≤ 1024) (hp : p ≤ n)
    (hix : ∀ j (hj : j < D.length), ∃ q, (∀ W, (Instr.indexAt 26 (.slice ad n c) (.int .i64 (j : Int))).run Ybaf.prog W = .ok (.pointer (some q)) W) ∧ w.cell? q = some (.int .u8 (D[j]).toNat)) :
    Calls Ybaf.prog 11 #[.slice ad n c, .int .i64 (p : Int)] w fun e w' => e = .returned (modelOut p (shortFrom 0 0 (D.drop p))) ∧ w' = w := by
  go_enter Ybaf.func11, Ybaf.ntmps11
  go_wp2
  go_loop [7, 8, 9] (fun vx vs vi => ∃ k acc : Nat, vi = .int .i64 k ∧ vs = .int .u64 ((7 * k : Nat) : Int) ∧ vx = .int .u64 acc ∧ k ≤ 10 ∧ p + k ≤ n ∧ acc < 2 ^ (7 * k) ∧ shortFrom 0 0 (D.drop p) = shortFrom k acc (D.drop (p + k)))
    (fun _ _ vi => 10 - (intOf vi).toNat)
  case atStart => exact ⟨0, 0, rfl, rfl, rfl, by omega, by omega, by decide, rfl⟩
  case round =>
    obtain ⟨k, acc, rfl, rfl, rfl, hk10, hkn, hacc, hdec⟩ := hrel
    by_cases hkt : k = 10
    · subst hkt
      rw [short_ten] at hdec
      clear hix
      go_wp2
      refine bodyPost_ret (results_tmp3 rfl _ _ _) rfl ?_
      exact ⟨by first | rfl | (rw [hdec]; rfl), rfl⟩
    by_cases hk : p + k < n
    · obtain ⟨q, hx, hq⟩ := hix (p + k) (by omega)
      have hdrop : D.drop (p + k) = D[p + k]'(by omega) :: D.drop (p + k + 1) := List.drop_eq_getElem_cons (by omega)
      rw [hdrop] at hdec
      generalize D[p + k]'(by omega) = b at hq hdec
      have hb256 : b.toNat < 256 := b.toNat_lt
      clear hix hdrop
      have hks : k = 0 ∨ k = 1 ∨ k = 2 ∨ k = 3 ∨ k = 4 ∨ k = 5 ∨ k = 6 ∨ k = 7 ∨ k = 8 ∨ k = 9 := by omega
      rcases hks with rfl | rfl | rfl | rfl | rfl | rfl | rfl | rfl | rfl | rfl
      · obtain rfl : acc = 0 := by simpa using hacc
        have hxx : ∀ W, (Instr.indexAt 26 (.slice ad n c) (.int .i64 (p : Int))).run Ybaf.prog W = .ok (.pointer (some q)) W := hx
        have hlt : ¬ (n : Int) ≤ (p : Int) := by omega
        clear hx
        by_cases hb : b.toNat < 128
        · have hor : bits .or .u64 0 (b.toNat : Int) = (b.toNat : Int) := by
            rw [u64_orv0 _ _ (by omega) (by omega) (by omega) (by omega) (by omega)]
            omega
          have hF : shortFrom 0 0 (b :: D.drop (p + 0 + 1)) = some (b.toNat, 1) := by simp [shortFrom, hb]
          rw [hF] at hdec
          go_wp2
          refine bodyPost_ret (results_tmp3 rfl _ _ _) rfl ?_
          exact ⟨by first | rfl | (rw [hdec]; rfl), rfl⟩
        · have hv : bits .or .u64 0 (IntKind.u64.wrap (IntKind.u64.wrap (bits .and .u8 (b.toNat : Int) 127))) = ((b.toNat % 128 : Nat) : Int) := by
            simp (disch := omega) only [u8_and127, u64_wrap_id, u64_orv0]
            omega
          have hF : shortFrom 0 0 (b :: D.drop (p + 0 + 1)) = shortFrom 1 (b.toNat % 128) (D.drop (p + 0 + 1)) := by simp [shortFrom, hb]
          go_wp2
          refine ⟨⟨1, b.toNat % 128, rfl, rfl, (by first | rfl | (congr 1; omega)), by omega, by omega, ?_, hdec.trans hF⟩, by simp [intOf]⟩
          show b.toNat % 128 < 2 ^ 7
          have e2 : (2 : Nat) ^ 7 = 128 := by decide
          omega
      · have hacc' : acc < 128 := by simpa using hacc
        have hxx : ∀ W, (Instr.indexAt 26 (.slice ad n c) (.int .i64 ((p : Int) + 1))).run Ybaf.prog W = .ok (.pointer (some q)) W := hx
        have hlt : ¬ (n : Int) ≤ (p : Int) + 1 := by omega
        clear hx
        by_cases hb : b.toNat < 128
        · by_cases hz : b.toNat = 0
          · have hzI : ((b.toNat : Int) == 0) = true := by simp [hz]
            have hF : shortFrom 1 acc (b :: D.drop (p + 1 + 1)) = none := by simp [shortFrom, hz]
            rw [hF] at hdec
            go_wp2
            refine bodyPost_ret (results_tmp3 rfl _ _ _) rfl ?_
            exact ⟨by first | rfl | (rw [hdec]; rfl), rfl⟩
          · have hor : bits .or .u64 (acc : Int) ((b.toNat : Int) * 128) = ((acc + b.toNat * 128 : Nat) : Int) := by
              rw [u64_orv7 _ _ (by omega) (by omega) (by omega) (by omega) (by omega)]
              omega
            have hzI : ((b.toNat : Int) == 0) = false := by simp; omega
            have hF : shortFrom 1 acc (b :: D.drop (p + 1 + 1)) = some (acc + b.toNat * 128, 2) := by simp [shortFrom, hb, hz]
            rw [hF] at hdec
            go_wp2
            refine bodyPost_ret (results_tmp3 rfl _ _ _) rfl ?_
            exact ⟨by first | rfl | (rw [hdec]; rfl), rfl⟩
        · have hv : bits .or .u64 (acc : Int) (IntKind.u64.wrap (IntKind.u64.wrap (bits .and .u8 (b.toNat : Int) 127) * 128)) = ((acc + b.toNat % 128 * 128 : Nat) : Int) := by
            simp (disch := omega) only [u8_and127, u64_wrap_id, u64_orv7]
            omega
          have hF : shortFrom 1 acc (b :: D.drop (p + 1 + 1)) = shortFrom 2 (acc + b.toNat % 128 * 128) (D.drop (p + 1 + 1)) := by simp [shortFrom, hb]
          go_wp2
          refine ⟨⟨2, acc + b.toNat % 128 * 128, rfl, rfl, (by first | rfl | (congr 1; omega)), by omega, by omega, ?_, hdec.trans hF⟩, by simp [intOf]⟩
          show acc + b.toNat % 128 * 128 < 2 ^ 14
          have e2 : (2 : Nat) ^ 14 = 16384 := by decide
          omega
      · have hacc' : acc < 16384 := by simpa using hacc
        have hxx : ∀ W, (Instr.indexAt 26 (.slice ad n c) (.int .i64 ((p : Int) + 2))).run Ybaf.prog W = .ok (.pointer (some q)) W := hx
        have hlt : ¬ (n : Int) ≤ (p : Int) + 2 := by omega
        clear hx
        by_cases hb : b.toNat < 128
        · by_cases hz : b.toNat = 0
          · have hzI : ((b.toNat : Int) == 0) = true := by simp [hz]
            have hF : shortFrom 2 acc (b :: D.drop (p + 2 + 1)) = none := by simp [shortFrom, hz]
            rw [hF] at hdec
            go_wp2
            refine bodyPost_ret (results_tmp3 rfl _ _ _) rfl ?_
            exact ⟨by first | rfl | (rw [hdec]; rfl), rfl⟩
          · have hor : bits .or .u64 (acc : Int) ((b.toNat : Int) * 16384) = ((acc + b.toNat * 16384 : Nat) : Int) := by
              rw [u64_orv14 _ _ (by omega) (by omega) (by omega) (by omega) (by omega)]
              omega
            have hzI : ((b.toNat : Int) == 0) = false := by simp; omega
            have hF : shortFrom 2 acc (b :: D.drop (p + 2 + 1)) = some (acc + b.toNat * 16384, 3) := by simp [shortFrom, hb, hz]
            rw [hF] at hdec
            go_wp2
            refine bodyPost_ret (results_tmp3 rfl _ _ _) rfl ?_
            exact ⟨by first | rfl | (rw [hdec]; rfl), rfl⟩
        · have hv : bits .or .u64 (acc : Int) (IntKind.u64.wrap (IntKind.u64.wrap (bits .and .u8 (b.toNat : Int) 127) * 16384)) = ((acc + b.toNat % 128 * 16384 : Nat) : Int) := by
            simp (disch := omega) only [u8_and127, u64_wrap_id, u64_orv14]
            omega
          have hF : shortFrom 2 acc (b :: D.drop (p + 2 + 1)) = shortFrom 3 (acc + b.toNat % 128 * 16384) (D.drop (p + 2 + 1)) := by simp [shortFrom, hb]
          go_wp2
          refine ⟨⟨3, acc + b.toNat % 128 * 16384, rfl, rfl, (by first | rfl | (congr 1; omega)), by omega, by omega, ?_, hdec.trans hF⟩, by simp [intOf]⟩
          show acc + b.toNat % 128 * 16384 < 2 ^ 21
          have e2 : (2 : Nat) ^ 21 = 2097152 := by decide
          omega
      · have hacc' : acc < 2097152 := by simpa using hacc
        have hxx : ∀ W, (Instr.indexAt 26 (.slice ad n c) (.int .i64 ((p : Int) + 3))).run Ybaf.prog W = .ok (.pointer (some q)) W := hx
        have hlt : ¬ (n : Int) ≤ (p : Int) + 3 := by omega
        clear hx
        by_cases hb : b.toNat < 128
        · by_cases hz : b.toNat = 0
          · have hzI : ((b.toNat : Int) == 0) = true := by simp [hz]
            have hF : shortFrom 3 acc (b :: D.drop (p + 3 + 1)) = none := by simp [shortFrom, hz]
            rw [hF] at hdec
            go_wp2
            refine bodyPost_ret (results_tmp3 rfl _ _ _) rfl ?_
            exact ⟨by first | rfl | (rw [hdec]; rfl), rfl⟩
          · have hor : bits .or .u64 (acc : Int) ((b.toNat : Int) * 2097152) = ((acc + b.toNat * 2097152 : Nat) : Int) := by
              rw [u64_orv21 _ _ (by omega) (by omega) (by omega) (by omega) (by omega)]
              omega
            have hzI : ((b.toNat : Int) == 0) = false := by simp; omega
            have hF : shortFrom 3 acc (b :: D.drop (p + 3 + 1)) = some (acc + b.toNat * 2097152, 4) := by simp [shortFrom, hb, hz]
            rw [hF] at hdec
            go_wp2
            refine bodyPost_ret (results_tmp3 rfl _ _ _) rfl ?_
            exact ⟨by first | rfl | (rw [hdec]; rfl), rfl⟩
        · have hv : bits .or .u64 (acc : Int) (IntKind.u64.wrap (IntKind.u64.wrap (bits .and .u8 (b.toNat : Int) 127) * 2097152)) = ((acc + b.toNat % 128 * 2097152 : Nat) : Int) := by
            simp (disch := omega) only [u8_and127, u64_wrap_id, u64_orv21]
            omega
          have hF : shortFrom 3 acc (b :: D.drop (p + 3 + 1)) = shortFrom 4 (acc + b.toNat % 128 * 2097152) (D.drop (p + 3 + 1)) := by simp [shortFrom, hb]
          go_wp2
          refine ⟨⟨4, acc + b.toNat % 128 * 2097152, rfl, rfl, (by first | rfl | (congr 1; omega)), by omega, by omega, ?_, hdec.trans hF⟩, by simp [intOf]⟩
          show acc + b.toNat % 128 * 2097152 < 2 ^ 28
          have e2 : (2 : Nat) ^ 28 = 268435456 := by decide
          omega
      · have hacc' : acc < 268435456 := by simpa using hacc
        have hxx : ∀ W, (Instr.indexAt 26 (.slice ad n c) (.int .i64 ((p : Int) + 4))).run Ybaf.prog W = .ok (.pointer (some q)) W := hx
        have hlt : ¬ (n : Int) ≤ (p : Int) + 4 := by omega
        clear hx
        by_cases hb : b.toNat < 128
        · by_cases hz : b.toNat = 0
          · have hzI : ((b.toNat : Int) == 0) = true := by simp [hz]
            have hF : shortFrom 4 acc (b :: D.drop (p + 4 + 1)) = none := by simp [shortFrom, hz]
            rw [hF] at hdec
            go_wp2
            refine bodyPost_ret (results_tmp3 rfl _ _ _) rfl ?_
            exact ⟨by first | rfl | (rw [hdec]; rfl), rfl⟩
          · have hor : bits .or .u64 (acc : Int) ((b.toNat : Int) * 268435456) = ((acc + b.toNat * 268435456 : Nat) : Int) := by
              rw [u64_orv28 _ _ (by omega) (by omega) (by omega) (by omega) (by omega)]
              omega
            have hzI : ((b.toNat : Int) == 0) = false := by simp; omega
            have hF : shortFrom 4 acc (b :: D.drop (p + 4 + 1)) = some (acc + b.toNat * 268435456, 5) := by simp [shortFrom, hb, hz]
            rw [hF] at hdec
            go_wp2
            refine bodyPost_ret (results_tmp3 rfl _ _ _) rfl ?_
            exact ⟨by first | rfl | (rw [hdec]; rfl), rfl⟩
        · have hv : bits .or .u64 (acc : Int) (IntKind.u64.wrap (IntKind.u64.wrap (bits .and .u8 (b.toNat : Int) 127) * 268435456)) = ((acc + b.toNat % 128 * 268435456 : Nat) : Int) := by
            simp (disch := omega) only [u8_and127, u64_wrap_id, u64_orv28]
            omega
          have hF : shortFrom 4 acc (b :: D.drop (p + 4 + 1)) = shortFrom 5 (acc + b.toNat % 128 * 268435456) (D.drop (p + 4 + 1)) := by simp [shortFrom, hb]
          go_wp2
          refine ⟨⟨5, acc + b.toNat % 128 * 268435456, rfl, rfl, (by first | rfl | (congr 1; omega)), by omega, by omega, ?_, hdec.trans hF⟩, by simp [intOf]⟩
          show acc + b.toNat % 128 * 268435456 < 2 ^ 35
          have e2 : (2 : Nat) ^ 35 = 34359738368 := by decide
          omega
      · have hacc' : acc < 34359738368 := by simpa using hacc
        have hxx : ∀ W, (Instr.indexAt 26 (.slice ad n c) (.int .i64 ((p : Int) + 5))).run Ybaf.prog W = .ok (.pointer (some q)) W := hx
        have hlt : ¬ (n : Int) ≤ (p : Int) + 5 := by omega
        clear hx
        by_cases hb : b.toNat < 128
        · by_cases hz : b.toNat = 0
          · have hzI : ((b.toNat : Int) == 0) = true := by simp [hz]
            have hF : shortFrom 5 acc (b :: D.drop (p + 5 + 1)) = none := by simp [shortFrom, hz]
            rw [hF] at hdec
            go_wp2
            refine bodyPost_ret (results_tmp3 rfl _ _ _) rfl ?_
            exact ⟨by first | rfl | (rw [hdec]; rfl), rfl⟩
          · have hor : bits .or .u64 (acc : Int) ((b.toNat : Int) * 34359738368) = ((acc + b.toNat * 34359738368 : Nat) : Int) := by
              rw [u64_orv35 _ _ (by omega) (by omega) (by omega) (by omega) (by omega)]
              omega
            have hzI : ((b.toNat : Int) == 0) = false := by simp; omega
            have hF : shortFrom 5 acc (b :: D.drop (p + 5 + 1)) = some (acc + b.toNat * 34359738368, 6) := by simp [shortFrom, hb, hz]
            rw [hF] at hdec
            go_wp2
            refine bodyPost_ret (results_tmp3 rfl _ _ _) rfl ?_
            exact ⟨by first | rfl | (rw [hdec]; rfl), rfl⟩
        · have hv : bits .or .u64 (acc : Int) (IntKind.u64.wrap (IntKind.u64.wrap (bits .and .u8 (b.toNat : Int) 127) * 34359738368)) = ((acc + b.toNat % 128 * 34359738368 : Nat) : Int) := by
            simp (disch := omega) only [u8_and127, u64_wrap_id, u64_orv35]
            omega
          have hF : shortFrom 5 acc (b :: D.drop (p + 5 + 1)) = shortFrom 6 (acc + b.toNat % 128 * 34359738368) (D.drop (p + 5 + 1)) := by simp [shortFrom, hb]
          go_wp2
          refine ⟨⟨6, acc + b.toNat % 128 * 34359738368, rfl, rfl, (by first | rfl | (congr 1; omega)), by omega, by omega, ?_, hdec.trans hF⟩, by simp [intOf]⟩
          show acc + b.toNat % 128 * 34359738368 < 2 ^ 42
          have e2 : (2 : Nat) ^ 42 = 4398046511104 := by decide
          omega
      · have hacc' : acc < 4398046511104 := by simpa using hacc
        have hxx : ∀ W, (Instr.indexAt 26 (.slice ad n c) (.int .i64 ((p : Int) + 6))).run Ybaf.prog W = .ok (.pointer (some q)) W := hx
        have hlt : ¬ (n : Int) ≤ (p : Int) + 6 := by omega
        clear hx
        by_cases hb : b.toNat < 128
        · by_cases hz : b.toNat = 0
          · have hzI : ((b.toNat : Int) == 0) = true := by simp [hz]
            have hF : shortFrom 6 acc (b :: D.drop (p + 6 + 1)) = none := by simp [shortFrom, hz]
            rw [hF] at hdec
            go_wp2
            refine bodyPost_ret (results_tmp3 rfl _ _ _) rfl ?_
            exact ⟨by first | rfl | (rw [hdec]; rfl), rfl⟩
          · have hor : bits .or .u64 (acc : Int) ((b.toNat : Int) * 4398046511104) = ((acc + b.toNat * 4398046511104 : Nat) : Int) := by
              rw [u64_orv42 _ _ (by omega) (by omega) (by omega) (by omega) (by omega)]
              omega
            have hzI : ((b.toNat : Int) == 0) = false := by simp; omega
            have hF : shortFrom 6 acc (b :: D.drop (p + 6 + 1)) = some (acc + b.toNat * 4398046511104, 7) := by simp [shortFrom, hb, hz]
            rw [hF] at hdec
            go_wp2
            refine bodyPost_ret (results_tmp3 rfl _ _ _) rfl ?_
            exact ⟨by first | rfl | (rw [hdec]; rfl), rfl⟩
        · have hv : bits .or .u64 (acc : Int) (IntKind.u64.wrap (IntKind.u64.wrap (bits .and .u8 (b.toNat : Int) 127) * 4398046511104)) = ((acc + b.toNat % 128 * 4398046511104 : Nat) : Int) := by
            simp (disch := omega) only [u8_and127, u64_wrap_id, u64_orv42]
            omega
          have hF : shortFrom 6 acc (b :: D.drop (p + 6 + 1)) = shortFrom 7 (acc + b.toNat % 128 * 4398046511104) (D.drop (p + 6 + 1)) := by simp [shortFrom, hb]
          go_wp2
          refine ⟨⟨7, acc + b.toNat % 128 * 4398046511104, rfl, rfl, (by first | rfl | (congr 1; omega)), by omega, by omega, ?_, hdec.trans hF⟩, by simp [intOf]⟩
          show acc + b.toNat % 128 * 4398046511104 < 2 ^ 49
          have e2 : (2 : Nat) ^ 49 = 562949953421312 := by decide
          omega
      · have hacc' : acc < 562949953421312 := by simpa using hacc
        have hxx : ∀ W, (Instr.indexAt 26 (.slice ad n c) (.int .i64 ((p : Int) + 7))).run Ybaf.prog W = .ok (.pointer (some q)) W := hx
        have hlt : ¬ (n : Int) ≤ (p : Int) + 7 := by omega
        clear hx
        by_cases hb : b.toNat < 128
        · by_cases hz : b.toNat = 0
          · have hzI : ((b.toNat : Int) == 0) = true := by simp [hz]
            have hF : shortFrom 7 acc (b :: D.drop (p + 7 + 1)) = none := by simp [shortFrom, hz]
            rw [hF] at hdec
            go_wp2
            refine bodyPost_ret (results_tmp3 rfl _ _ _) rfl ?_
            exact ⟨by first | rfl | (rw [hdec]; rfl), rfl⟩
          · have hor : bits .or .u64 (acc : Int) ((b.toNat : Int) * 562949953421312) = ((acc + b.toNat * 562949953421312 : Nat) : Int) := by
              rw [u64_orv49 _ _ (by omega) (by omega) (by omega) (by omega) (by omega)]
              omega
            have hzI : ((b.toNat : Int) == 0) = false := by simp; omega
            have hF : shortFrom 7 acc (b :: D.drop (p + 7 + 1)) = some (acc + b.toNat * 562949953421312, 8) := by simp [shortFrom, hb, hz]
            rw [hF] at hdec
            go_wp2
            refine bodyPost_ret (results_tmp3 rfl _ _ _) rfl ?_
            exact ⟨by first | rfl | (rw [hdec]; rfl), rfl⟩
        · have hv : bits .or .u64 (acc : Int) (IntKind.u64.wrap (IntKind.u64.wrap (bits .and .u8 (b.toNat : Int) 127) * 562949953421312)) = ((acc + b.toNat % 128 * 562949953421312 : Nat) : Int) := by
            simp (disch := omega) only [u8_and127, u64_wrap_id, u64_orv49]
            omega
          have hF : shortFrom 7 acc (b :: D.drop (p + 7 + 1)) = shortFrom 8 (acc + b.toNat % 128 * 562949953421312) (D.drop (p + 7 + 1)) := by simp [shortFrom, hb]
          go_wp2
          refine ⟨⟨8, acc + b.toNat % 128 * 562949953421312, rfl, rfl, (by first | rfl | (congr 1; omega)), by omega, by omega, ?_, hdec.trans hF⟩, by simp [intOf]⟩
          show acc + b.toNat % 128 * 562949953421312 < 2 ^ 56
          have e2 : (2 : Nat) ^ 56 = 72057594037927936 := by decide
          omega
      · have hacc' : acc < 72057594037927936 := by simpa using hacc
        have hxx : ∀ W, (Instr.indexAt 26 (.slice ad n c) (.int .i64 ((p : Int) + 8))).run Ybaf.prog W = .ok (.pointer (some q)) W := hx
        have hlt : ¬ (n : Int) ≤ (p : Int) + 8 := by omega
        clear hx
        by_cases hb : b.toNat < 128
        · by_cases hz : b.toNat = 0
          · have hzI : ((b.toNat : Int) == 0) = true := by simp [hz]
            have hF : shortFrom 8 acc (b :: D.drop (p + 8 + 1)) = none := by simp [shortFrom, hz]
            rw [hF] at hdec
            go_wp2
            refine bodyPost_ret (results_tmp3 rfl _ _ _) rfl ?_
            exact ⟨by first | rfl | (rw [hdec]; rfl), rfl⟩
          · have hor : bits .or .u64 (acc : Int) ((b.toNat : Int) * 72057594037927936) = ((acc + b.toNat * 72057594037927936 : Nat) : Int) := by
              rw [u64_orv56 _ _ (by omega) (by omega) (by omega) (by omega) (by omega)]
              omega
            have hzI : ((b.toNat : Int) == 0) = false := by simp; omega
            have hF : shortFrom 8 acc (b :: D.drop (p + 8 + 1)) = some (acc + b.toNat * 72057594037927936, 9) := by simp [shortFrom, hb, hz]
            rw [hF] at hdec
            go_wp2
            refine bodyPost_ret (results_tmp3 rfl _ _ _) rfl ?_
            exact ⟨by first | rfl | (rw [hdec]; rfl), rfl⟩
        · have hv : bits .or .u64 (acc : Int) (IntKind.u64.wrap (IntKind.u64.wrap (bits .and .u8 (b.toNat : Int) 127) * 72057594037927936)) = ((acc + b.toNat % 128 * 72057594037927936 : Nat) : Int) := by
            simp (disch := omega) only [u8_and127, u64_wrap_id, u64_orv56]
            omega
          have hF : shortFrom 8 acc (b :: D.drop (p + 8 + 1)) = shortFrom 9 (acc + b.toNat % 128 * 72057594037927936) (D.drop (p + 8 + 1)) := by simp [shortFrom, hb]
          go_wp2
          refine ⟨⟨9, acc + b.toNat % 128 * 72057594037927936, rfl, rfl, (by first | rfl | (congr 1; omega)), by omega, by omega, ?_, hdec.trans hF⟩, by simp [intOf]⟩
          show acc + b.toNat % 128 * 72057594037927936 < 2 ^ 63
          have e2 : (2 : Nat) ^ 63 = 9223372036854775808 := by decide
          omega
      · have hacc' : acc < 9223372036854775808 := by simpa using hacc
        have hxx : ∀ W, (Instr.indexAt 26 (.slice ad n c) (.int .i64 ((p : Int) + 9))).run Ybaf.prog W = .ok (.pointer (some q)) W := hx
        have hlt : ¬ (n : Int) ≤ (p : Int) + 9 := by omega
        clear hx
        by_cases hb : b.toNat < 128
        · by_cases hb1 : 1 < b.toNat
          · have hb1I : (1 : Int) < (b.toNat : Int) := by omega
            have hF : shortFrom 9 acc (b :: D.drop (p + 9 + 1)) = none := by simp [shortFrom, hb, hb1]
            rw [hF] at hdec
            go_wp2
            refine bodyPost_ret (results_tmp3 rfl _ _ _) rfl ?_
            exact ⟨by first | rfl | (rw [hdec]; rfl), rfl⟩
          · have hb1I : ¬ (1 : Int) < (b.toNat : Int) := by omega
            by_cases hz : b.toNat = 0
            · have hzI : ((b.toNat : Int) == 0) = true := by simp [hz]
              have hF : shortFrom 9 acc (b :: D.drop (p + 9 + 1)) = none := by simp [shortFrom, hz]
              rw [hF] at hdec
              go_wp2
              refine bodyPost_ret (results_tmp3 rfl _ _ _) rfl ?_
              exact ⟨by first | rfl | (rw [hdec]; rfl), rfl⟩
            · have hor : bits .or .u64 (acc : Int) ((b.toNat : Int) * 9223372036854775808) = ((acc + b.toNat * 9223372036854775808 : Nat) : Int) := by
                rw [u64_orv63 _ _ (by omega) (by omega) (by omega) (by omega) (by omega)]
                omega
              have hzI : ((b.toNat : Int) == 0) = false := by simp; omega
              have hF : shortFrom 9 acc (b :: D.drop (p + 9 + 1)) = some (acc + b.toNat * 9223372036854775808, 10) := by simp [shortFrom, hb, hb1, hz]
              rw [hF] at hdec
              go_wp2
              refine bodyPost_ret (results_tmp3 rfl _ _ _) rfl ?_
              exact ⟨by first | rfl | (rw [hdec]; rfl), rfl⟩
        · obtain ⟨a2, ha2⟩ : ∃ a2 : Nat, bits .or .u64 (acc : Int) (IntKind.u64.wrap (IntKind.u64.wrap (bits .and .u8 (b.toNat : Int) 127) * 9223372036854775808)) = (a2 : Int) := ⟨_, (Int.toNat_of_nonneg (bits_lo_u64 _ _ _)).symm⟩
          have hhi := bits_hi_u64 .or (acc : Int) (IntKind.u64.wrap (IntKind.u64.wrap (bits .and .u8 (b.toNat : Int) 127) * 9223372036854775808))
          have hF : shortFrom 9 acc (b :: D.drop (p + 9 + 1)) = shortFrom 10 a2 (D.drop (p + 9 + 1)) := by
            rw [short_ten]
            simp [shortFrom, hb, short_ten]
          go_wp2
          refine ⟨⟨10, a2, rfl, rfl, (by first | rfl | (congr 1; omega)), by omega, by omega, ?_, hdec.trans hF⟩, by simp [intOf]⟩
          show a2 < 2 ^ 70
          have e2 : (2 : Nat) ^ 70 = 1180591620717411303424 := by decide
          omega
    · have hkn2 : p + k = n := by omega
      have hF : shortFrom k acc (D.drop (p + k)) = none := by rw [List.drop_eq_nil_of_le (by omega)]; rfl
      rw [hF] at hdec
      have hle : (n : Int) ≤ (p : Int) + (k : Int) := by omega
      have hkI : (k : Int) < 10 := by omega
      clear hix
      go_wp2
      refine bodyPost_ret (results_tmp3 rfl _ _ _) rfl ?_
      exact ⟨by first | rfl | (rw [hdec]; rfl), rfl⟩
end Go.Proofs.YbulkaiisFmt
