/-
  'LawS1705CSchedule': the plain laws of counting. By the prover of seat 061 (an AI agent).
-/
import Derived.Test.YbulkaihcFmtSky
namespace Go.Proofs.YbulkaihcFmt
open Go

/-- How many of the first q calls take the time t. -/
def cntT (T : Nat → Int) (t : Int) (q : Nat) : Nat := ((List.range q).filter (fun p => T p = t)).length
theorem cntT_zero (T : Nat → Int) (t : Int) : cntT T t 0 = 0 := rfl
theorem cntT_succ (T : Nat → Int) (t : Int) (q : Nat) : cntT T t (q + 1) = if T q = t then cntT T t q + 1 else cntT T t q := by
  unfold cntT
  rw [List.range_succ, List.filter_append, List.length_append]
  by_cases h : T q = t <;> simp [h]
theorem cntT_le (T : Nat → Int) (t : Int) (q : Nat) : cntT T t q ≤ q := by
  unfold cntT
  have := List.length_filter_le (fun p => decide (T p = t)) (List.range q)
  simpa using this

/-- All that is sent: m calls, the p-th at time T p. -/
def sentL (T : Nat → Int) (D : Nat → Del) (m : Nat) : List Sent := (List.range m).map fun p => (T p, D p)
theorem sentAt_sentL (T : Nat → Int) (D : Nat → Del) (m : Nat) (t : Int) : sentAt (sentL T D m) t = ((List.range m).filter (fun p => T p = t)).map D := by
  unfold sentAt sentL
  rw [List.filter_map, List.map_map]
  rfl
theorem sentAt_length (T : Nat → Int) (D : Nat → Del) (m : Nat) (t : Int) : (sentAt (sentL T D m) t).length = cntT T t m := by
  rw [sentAt_sentL, List.length_map]
  rfl
/-- The q-th call's delivery stands where the calls ahead of it leave off. -/
theorem sentAt_get (T : Nat → Int) (D : Nat → Del) (m : Nat) (t : Int) (q : Nat) (hq : q < m) (ht : T q = t) : (sentAt (sentL T D m) t)[cntT T t q]? = some (D q) := by
  rw [sentAt_sentL]
  obtain ⟨k, rfl⟩ : ∃ k, m = q + (k + 1) := ⟨m - q - 1, by omega⟩
  rw [List.range_add, List.filter_append, List.map_append, List.range_succ_eq_map, List.map_cons, Nat.add_zero, List.filter_cons, if_pos (by simpa using ht), List.map_cons]
  have hl : (((List.range q).filter (fun p => T p = t)).map D).length = cntT T t q := by rw [List.length_map]; rfl
  rw [List.getElem?_append_right (by omega), hl]
  simp
theorem cntT_lt (T : Nat → Int) (t : Int) (q m : Nat) (hq : q < m) (ht : T q = t) : cntT T t q < cntT T t m := by
  have h := sentAt_get T (fun _ => (0, ByteArray.empty)) m t q hq ht
  have := (List.getElem?_eq_some_iff.1 h).1
  rwa [sentAt_length] at this

/-- How many calls take one of the first times. -/
def sumT (T : Nat → Int) (m : Nat) (ts : List Int) : Nat := (ts.map fun t => cntT T t m).sum
theorem sumT_snoc (T : Nat → Int) (m : Nat) (ts : List Int) (t : Int) : sumT T m (ts ++ [t]) = sumT T m ts + cntT T t m := by simp [sumT]
theorem sumT_le (T : Nat → Int) (m : Nat) (ts : List Int) (hs : ts.Pairwise (· < ·)) : sumT T m ts = ((List.range m).filter fun p => T p ∈ ts).length := by
  induction m with
  | zero =>
    have : ∀ ts : List Int, sumT T 0 ts = 0 := by
      intro ts
      induction ts with
      | nil => rfl
      | cons a r ih => simp only [sumT, List.map_cons, List.sum_cons, cntT_zero, Nat.zero_add]; exact ih
    simp [this]
  | succ m ih =>
    have hstep : ∀ ts : List Int, ts.Pairwise (· < ·) → sumT T (m + 1) ts = sumT T m ts + if T m ∈ ts then 1 else 0 := by
      intro ts
      induction ts with
      | nil => intro _; simp [sumT]
      | cons a r ih =>
        intro hs
        rw [List.pairwise_cons] at hs
        have e1 : ∀ k, sumT T k (a :: r) = cntT T a k + sumT T k r := fun k => by simp [sumT]
        rw [e1, e1, ih hs.2, cntT_succ]
        by_cases h : T m = a
        · have hn : T m ∉ r := fun h' => by
            have := hs.1 _ h'
            omega
          rw [if_pos h, if_neg hn, if_pos (by simp [h])]
          omega
        · rw [if_neg h]
          by_cases h2 : T m ∈ r
          · rw [if_pos h2, if_pos (by simp [h2])]
            omega
          · rw [if_neg h2, if_neg (by simp [h, h2])]
            omega
    rw [hstep ts hs, ih, List.range_succ, List.filter_append, List.length_append]
    by_cases h : T m ∈ ts <;> simp [h]
/-- All times together. -/
theorem sumT_all (T : Nat → Int) (D : Nat → Del) (m : Nat) : sumT T m (timesOf (sentL T D m)) = m := by
  have hR := right_of (sentL T D m)
  rw [sumT_le T m _ hR.sorted, List.filter_eq_self.2]
  · simp
  · intro p hp
    simp only [decide_eq_true_eq]
    rw [hR.mem]
    exact ⟨(T p, D p), List.mem_map.2 ⟨p, hp, rfl⟩, rfl⟩
theorem times_mem (T : Nat → Int) (D : Nat → Del) (m : Nat) (t : Int) (h : t ∈ timesOf (sentL T D m)) : ∃ p, p < m ∧ T p = t := by
  obtain ⟨a, ha, rfl⟩ := ((right_of (sentL T D m)).mem t).1 h
  obtain ⟨p, hp, rfl⟩ := List.mem_map.1 ha
  exact ⟨p, List.mem_range.1 hp, rfl⟩
theorem cntT_pos (T : Nat → Int) (D : Nat → Del) (m : Nat) (t : Int) (h : t ∈ timesOf (sentL T D m)) : 0 < cntT T t m := by
  obtain ⟨p, hp, ht⟩ := times_mem T D m t h
  have := cntT_lt T t p m hp ht
  omega
end Go.Proofs.YbulkaihcFmt
