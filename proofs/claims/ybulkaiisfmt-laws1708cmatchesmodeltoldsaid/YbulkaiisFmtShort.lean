/-
  The model's decoder, plainly: a varint in its shortest form. By the prover of seat 061 (an AI agent).
-/
import Derived.Test.YbulkaiisFmtPlain
namespace Go.Proofs.YbulkaiisFmt
open Go

/-- i bytes are read, each with the bit 128; 'acc' is what they spell: the value and how many bytes, or none. -/
def shortFrom (i acc : Nat) : List UInt8 → Option (Nat × Nat)
  | [] => none
  | b :: r =>
    if i = 10 then none
    else if b.toNat < 128 then
      if i = 9 ∧ 1 < b.toNat then none
      else if 0 < i ∧ b.toNat = 0 then none
      else some (acc + b.toNat * 2 ^ (7 * i), i + 1)
    else shortFrom (i + 1) (acc + b.toNat % 128 * 2 ^ (7 * i)) r

theorem short_ten (a : Nat) (r : List UInt8) : shortFrom 10 a r = none := by
  cases r <;> simp [shortFrom]

/-- Where the model reads, binary.Uvarint reads the same; its last byte is no 0 where there are two or more. -/
theorem short_some : ∀ (l : List UInt8) (i acc x k : Nat), shortFrom i acc l = some (x, k) → Lib.uvarintFrom i acc l = (x, (k : Int)) ∧ i < k ∧ k ≤ i + l.length ∧ ∀ b, l[k - 1 - i]? = some b → 1 < k → b.toNat ≠ 0
  | [], _, _, _, _, h => by simp [shortFrom] at h
  | b :: r, i, acc, x, k, h => by
    simp only [shortFrom] at h
    simp only [Lib.uvarintFrom]
    by_cases h10 : i = 10
    · rw [if_pos h10] at h; cases h
    rw [if_neg h10] at h ⊢
    by_cases hb : b.toNat < 128
    · rw [if_pos hb] at h ⊢
      by_cases h9 : i = 9 ∧ 1 < b.toNat
      · rw [if_pos h9] at h; cases h
      rw [if_neg h9] at h ⊢
      by_cases h0 : 0 < i ∧ b.toNat = 0
      · rw [if_pos h0] at h; cases h
      rw [if_neg h0] at h
      simp only [Option.some.injEq, Prod.mk.injEq] at h
      obtain ⟨rfl, rfl⟩ := h
      refine ⟨rfl, by omega, by simp, fun b' hb' h1 => ?_⟩
      rw [show i + 1 - 1 - i = 0 by omega] at hb'
      simp at hb'
      subst hb'
      omega
    · rw [if_neg hb] at h ⊢
      obtain ⟨h1, h2, h3, h4⟩ := short_some r (i + 1) _ x k h
      refine ⟨h1, by omega, by simp; omega, fun b' hb' => ?_⟩
      rw [show k - 1 - i = (k - 1 - (i + 1)) + 1 by omega, List.getElem?_cons_succ] at hb'
      exact h4 b' hb'

/-- Where it does not, binary.Uvarint fails or ends with a byte 0 behind another. -/
theorem short_none : ∀ (l : List UInt8) (i acc : Nat), shortFrom i acc l = none → (Lib.uvarintFrom i acc l).2 ≤ 0 ∨ ∃ x k : Nat, Lib.uvarintFrom i acc l = (x, (k : Int)) ∧ 1 < k ∧ i < k ∧ k ≤ i + l.length ∧ l[k - 1 - i]? = some 0
  | [], _, _, _ => by simp [Lib.uvarintFrom]
  | b :: r, i, acc, h => by
    simp only [shortFrom] at h
    simp only [Lib.uvarintFrom]
    by_cases h10 : i = 10
    · rw [if_pos h10]
      left
      show -((i : Int) + 1) ≤ 0
      omega
    rw [if_neg h10] at h ⊢
    by_cases hb : b.toNat < 128
    · rw [if_pos hb] at h ⊢
      by_cases h9 : i = 9 ∧ 1 < b.toNat
      · rw [if_pos h9]
        left
        show -((i : Int) + 1) ≤ 0
        omega
      rw [if_neg h9] at h ⊢
      by_cases h0 : 0 < i ∧ b.toNat = 0
      · right
        refine ⟨_, i + 1, rfl, by omega, by omega, by simp, ?_⟩
        rw [show i + 1 - 1 - i = 0 by omega]
        simp
        exact UInt8.toNat_inj.1 (by rw [h0.2]; rfl)
      · rw [if_neg h0] at h; cases h
    · rw [if_neg hb] at h ⊢
      rcases short_none r (i + 1) _ h with h1 | ⟨x, k, h1, h2, h3, h4, h5⟩
      · exact Or.inl h1
      · right
        refine ⟨x, k, h1, h2, by omega, by simp; omega, ?_⟩
        rw [show k - 1 - i = (k - 1 - (i + 1)) + 1 by omega, List.getElem?_cons_succ]
        exact h5
end Go.Proofs.YbulkaiisFmt
