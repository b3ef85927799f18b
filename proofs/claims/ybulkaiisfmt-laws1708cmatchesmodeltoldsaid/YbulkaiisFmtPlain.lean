/-
  Varints, plainly: what is written is read back. By the prover of seat 061 (an AI agent).
-/
import Derived.Test.YbulkaiisFmtShelf
namespace Go.Proofs.YbulkaiisFmt
open Go

theorem u8_small {x : Nat} (h : x < 256) : (x.toUInt8).toNat = x := by
  simp [Nat.toUInt8, UInt8.toNat_ofNat']
  omega

/-- Decoding behind what was encoded. -/
theorem dec_from (t : List UInt8) : ∀ (k i acc x : Nat), (Lib.uvarint x).length = k → i + k ≤ 10 → (i = 9 → x ≤ 1) → (i + k = 10 → x * 2 ^ (7 * i) < 18446744073709551616) → Lib.uvarintFrom i acc (Lib.uvarint x ++ t) = (acc + x * 2 ^ (7 * i), ((i + k : Nat) : Int))
  | 0, i, acc, x, hk, _, _, _ => by
    have := Lib.uvarint_pos x
    omega
  | k + 1, i, acc, x, hk, hi, h9, h10 => by
    by_cases hx : x < 128
    · rw [Lib.uvarint_small hx] at hk ⊢
      simp at hk
      subst hk
      have e := u8_small (show x < 256 by omega)
      simp only [List.cons_append, List.nil_append, Lib.uvarintFrom, e]
      rw [if_neg (by omega), if_pos hx, if_neg (by intro h; have := h9 h.1; omega)]
      rfl
    · have hx' : 128 ≤ x := by omega
      rw [Lib.uvarint_big hx'] at hk ⊢
      simp at hk
      have e := u8_small (show x % 128 + 128 < 256 by omega)
      have hpos := Lib.uvarint_pos (x / 128)
      simp only [List.cons_append, Lib.uvarintFrom, e]
      rw [if_neg (by omega), if_neg (by omega)]
      have hpow : 2 ^ (7 * (i + 1)) = 128 * 2 ^ (7 * i) := by rw [show 7 * (i + 1) = 7 * i + 7 by omega, Nat.pow_add]; omega
      have hdm : x / 128 * (128 * 2 ^ (7 * i)) + x % 128 * 2 ^ (7 * i) = x * 2 ^ (7 * i) := by
        rw [← Nat.mul_assoc, ← Nat.add_mul, Nat.div_add_mod']
      rw [dec_from t k (i + 1) _ (x / 128) hk (by omega) ?_ ?_, hpow]
      · congr 1
        · rw [show (x % 128 + 128) % 128 = x % 128 by omega, Nat.add_assoc, Nat.add_comm (x % 128 * 2 ^ (7 * i)), hdm]
        · omega
      · intro h
        have hi8 : i = 8 := by omega
        have hk1 : k = 1 := by omega
        have := h10 (by omega)
        rw [hi8] at this
        have h56 : (2 : Nat) ^ (7 * 8) = 72057594037927936 := by decide
        rw [h56] at this
        omega
      · intro h
        have := h10 (by omega)
        rw [hpow]
        refine Nat.lt_of_le_of_lt ?_ this
        rw [← hdm]
        omega
theorem dec_enc (x : Nat) (hx : x < 18446744073709551616) (t : List UInt8) : Lib.uvarintDec (Lib.uvarint x ++ t) = (x, ((Lib.uvarint x).length : Int)) := by
  unfold Lib.uvarintDec
  rw [dec_from t (Lib.uvarint x).length 0 0 x rfl (by have := Lib.uvarint_length64 hx; omega) (by omega) (by intro h; simpa using hx)]
  simp
/-- The last byte of a varint of more than one is not 0. -/
theorem enc_last : ∀ (k x : Nat), (Lib.uvarint x).length = k + 2 → ∃ b, (Lib.uvarint x)[k + 1]? = some b ∧ b.toNat ≠ 0
  | k, x, hk => by
    have hx : 128 ≤ x := by
      rcases Nat.lt_or_ge x 128 with h | h
      · rw [Lib.uvarint_small h] at hk
        simp at hk
      · exact h
    rw [Lib.uvarint_big hx] at hk ⊢
    simp at hk
    rw [List.getElem?_cons_succ]
    by_cases h2 : x / 128 < 128
    · rw [Lib.uvarint_small h2] at hk ⊢
      simp at hk
      subst hk
      refine ⟨_, rfl, ?_⟩
      rw [u8_small (by omega)]
      omega
    · obtain ⟨j, rfl⟩ : ∃ j, k = j + 1 := by
        rw [Lib.uvarint_big (by omega)] at hk
        simp at hk
        have := Lib.uvarint_pos (x / 128 / 128)
        exact ⟨k - 1, by omega⟩
      exact enc_last j (x / 128) (by omega)
end Go.Proofs.YbulkaiisFmt
