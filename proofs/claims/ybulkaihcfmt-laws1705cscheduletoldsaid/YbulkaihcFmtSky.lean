/-
  What is in flight, plainly: the times and the rows out of the list of what was sent. By the prover of seat 061 (an AI agent).
-/
import Derived.Test.YbulkaihcFmtAdd
namespace Go.Proofs.YbulkaihcFmt
open Go Go.MapKept Go.Maps Go.ChangeMaps Go.RowKit

abbrev Sent := Int × Del
def timesOf (L : List Sent) : List Int := L.foldl (fun ts p => addTime ts p.1) []
def rowsOf (L : List Sent) : List (Int × List Del) := L.foldl (fun g p => push p.1 p.2 g) []
theorem timesOf_snoc (L : List Sent) (p : Sent) : timesOf (L ++ [p]) = addTime (timesOf L) p.1 := by simp [timesOf]
theorem rowsOf_snoc (L : List Sent) (p : Sent) : rowsOf (L ++ [p]) = push p.1 p.2 (rowsOf L) := by simp [rowsOf]

theorem countP_split : ∀ (ts : List Int) (t : Int), ts.Pairwise (· < ·) → t ∉ ts → (∀ x ∈ ts.take (ts.countP (· < t)), x < t) ∧ (∀ x ∈ ts.drop (ts.countP (· < t)), t < x)
  | [], _, _, _ => by simp
  | a :: r, t, hs, hn => by
    rw [List.pairwise_cons] at hs
    have hn' : t ∉ r := fun h => hn (by simp [h])
    have hna : a ≠ t := fun h => hn (by simp [h])
    obtain ⟨h1, h2⟩ := countP_split r t hs.2 hn'
    by_cases hat : a < t
    · have hc : (a :: r).countP (· < t) = r.countP (· < t) + 1 := by simp [hat]
      rw [hc]
      refine ⟨fun x hx => ?_, fun x hx => ?_⟩
      · rw [List.take_succ_cons] at hx
        rcases List.mem_cons.1 hx with rfl | hx
        · exact hat
        · exact h1 x hx
      · rw [List.drop_succ_cons] at hx
        exact h2 x hx
    · have hz : r.countP (· < t) = 0 := by
        rw [List.countP_eq_zero]
        intro x hx
        have := hs.1 x hx
        simp
        omega
      have hc : (a :: r).countP (· < t) = 0 := by simp [hat, hz]
      rw [hc]
      refine ⟨by simp, fun x hx => ?_⟩
      simp at hx
      rcases hx with rfl | hx
      · omega
      · have := hs.1 x hx
        omega

theorem insAt_sorted {ts : List Int} {t : Int} (hs : ts.Pairwise (· < ·)) (hn : t ∉ ts) : (insAt ts (ts.countP (· < t)) t).Pairwise (· < ·) := by
  obtain ⟨h1, h2⟩ := countP_split ts t hs hn
  unfold insAt
  rw [List.pairwise_append, List.pairwise_cons]
  have hsp : (ts.take (ts.countP (· < t)) ++ ts.drop (ts.countP (· < t))).Pairwise (· < ·) := by rw [List.take_append_drop]; exact hs
  rw [List.pairwise_append] at hsp
  refine ⟨hsp.1, ⟨h2, hsp.2.1⟩, fun a ha b hb => ?_⟩
  rcases List.mem_cons.1 hb with rfl | hb
  · exact h1 a ha
  · exact hsp.2.2 a ha b hb
theorem insAt_mem (ts : List Int) (i : Nat) (t u : Int) : u ∈ insAt ts i t ↔ u = t ∨ u ∈ ts := by
  unfold insAt
  constructor
  · intro h
    rcases List.mem_append.1 h with h | h
    · exact Or.inr (List.mem_of_mem_take h)
    · rcases List.mem_cons.1 h with h | h
      · exact Or.inl h
      · exact Or.inr (List.mem_of_mem_drop h)
  · rintro (rfl | h)
    · simp
    · rw [← List.take_append_drop i ts] at h
      rcases List.mem_append.1 h with h | h
      · simp [h]
      · simp [h]

theorem addTime_sorted {ts : List Int} (hs : ts.Pairwise (· < ·)) (t : Int) : (addTime ts t).Pairwise (· < ·) := by
  unfold addTime
  split
  · exact hs
  · rename_i h
    exact insAt_sorted hs h
theorem addTime_mem (ts : List Int) (t u : Int) : u ∈ addTime ts t ↔ u = t ∨ u ∈ ts := by
  unfold addTime
  split
  · rename_i h
    constructor
    · exact Or.inr
    · rintro (rfl | h')
      · exact h
      · exact h'
  · exact insAt_mem ts _ t u

theorem push_keys (t : Int) (d : Del) : ∀ (g : List (Int × List Del)) (u : Int), u ∈ (push t d g).map (·.1) ↔ u = t ∨ u ∈ g.map (·.1)
  | [], u => by simp [push]
  | (a, ds) :: r, u => by
    unfold push
    split
    · rename_i h
      subst h
      simp
    · simp only [List.map_cons, List.mem_cons, push_keys t d r u]
      constructor
      · rintro (h | h | h)
        · exact Or.inr (Or.inl h)
        · exact Or.inl h
        · exact Or.inr (Or.inr h)
      · rintro (h | h | h)
        · exact Or.inr (Or.inl h)
        · exact Or.inl h
        · exact Or.inr (Or.inr h)

theorem addTime_length (ts : List Int) (t : Int) : (addTime ts t).length = if t ∈ ts then ts.length else ts.length + 1 := by
  unfold addTime
  split
  · rfl
  · exact insAt_length ts _ t List.countP_le_length
theorem push_length (t : Int) (d : Del) : ∀ (g : List (Int × List Del)), (push t d g).length = if t ∈ g.map (·.1) then g.length else g.length + 1
  | [] => by simp [push]
  | (a, ds) :: r => by
    unfold push
    split
    · rename_i h
      subst h
      simp
    · rename_i h
      have h' : ¬ t = a := fun e => h e.symm
      simp only [List.length_cons, push_length t d r, List.map_cons, List.mem_cons, h', false_or]
      split <;> rfl

/-- What was sent at time u, in order. -/
def sentAt (L : List Sent) (u : Int) : List Del := (L.filter (·.1 = u)).map (·.2)
theorem sentAt_snoc (L : List Sent) (p : Sent) (u : Int) : sentAt (L ++ [p]) u = if p.1 = u then sentAt L u ++ [p.2] else sentAt L u := by
  unfold sentAt
  by_cases h : p.1 = u <;> simp [h]

/-- The rows are right. -/
structure Right (L : List Sent) (ts : List Int) (g : List (Int × List Del)) : Prop where
  sorted : ts.Pairwise (· < ·)
  mem : ∀ u, u ∈ ts ↔ ∃ p ∈ L, p.1 = u
  keys : ∀ u, u ∈ ts ↔ u ∈ g.map (·.1)
  apart : g.Pairwise (fun a b => a.1 ≠ b.1)
  rows : ∀ a ∈ g, a.2 = sentAt L a.1
  len : ts.length = g.length

theorem push_mem (t : Int) (d : Del) : ∀ (g : List (Int × List Del)), g.Pairwise (fun a b => a.1 ≠ b.1) → ∀ a ∈ push t d g, (a.1 ≠ t ∧ a ∈ g) ∨ (a.1 = t ∧ ((∃ ds, (t, ds) ∈ g ∧ a.2 = ds ++ [d]) ∨ (t ∉ g.map (·.1) ∧ a.2 = [d])))
  | [], _, a, ha => by
    simp [push] at ha
    subst ha
    simp
  | (u, ds) :: r, hp, a, ha => by
    rw [List.pairwise_cons] at hp
    unfold push at ha
    split at ha
    · rename_i h
      subst h
      rcases List.mem_cons.1 ha with rfl | ha
      · exact Or.inr ⟨rfl, Or.inl ⟨ds, by simp, rfl⟩⟩
      · exact Or.inl ⟨fun e => hp.1 a ha e.symm, by simp [ha]⟩
    · rename_i h
      rcases List.mem_cons.1 ha with rfl | ha
      · exact Or.inl ⟨h, by simp⟩
      · rcases push_mem t d r hp.2 a ha with ⟨h1, h2⟩ | ⟨h1, ⟨ds', h2, h3⟩ | ⟨h2, h3⟩⟩
        · exact Or.inl ⟨h1, by simp [h2]⟩
        · exact Or.inr ⟨h1, Or.inl ⟨ds', by simp [h2], h3⟩⟩
        · refine Or.inr ⟨h1, Or.inr ⟨?_, h3⟩⟩
          simp only [List.map_cons, List.mem_cons, not_or]
          exact ⟨fun e => h e.symm, h2⟩
theorem push_apart (t : Int) (d : Del) : ∀ (g : List (Int × List Del)), g.Pairwise (fun a b => a.1 ≠ b.1) → (push t d g).Pairwise (fun a b => a.1 ≠ b.1)
  | [], _ => by simp [push]
  | (u, ds) :: r, hp => by
    rw [List.pairwise_cons] at hp
    unfold push
    split
    · rw [List.pairwise_cons]
      exact ⟨hp.1, hp.2⟩
    · rename_i h
      rw [List.pairwise_cons]
      refine ⟨fun b hb e => ?_, push_apart t d r hp.2⟩
      have hb' : u ∈ (push t d r).map (·.1) := List.mem_map.2 ⟨b, hb, e.symm⟩
      rcases (push_keys t d r u).1 hb' with h' | h'
      · exact h h'
      · obtain ⟨c, hc, e2⟩ := List.mem_map.1 h'
        exact hp.1 c hc e2.symm

theorem Right.nil : Right [] [] [] := ⟨by simp, by simp, by simp, by simp, by simp, rfl⟩
theorem Right.snoc {L : List Sent} {ts : List Int} {g : List (Int × List Del)} (h : Right L ts g) (p : Sent) : Right (L ++ [p]) (addTime ts p.1) (push p.1 p.2 g) := by
  refine ⟨addTime_sorted h.sorted _, fun u => ?_, fun u => ?_, push_apart _ _ _ h.apart, fun a ha => ?_, ?_⟩
  · rw [addTime_mem, h.mem u]
    constructor
    · rintro (rfl | ⟨q, hq, e⟩)
      · exact ⟨p, by simp, rfl⟩
      · exact ⟨q, by simp [hq], e⟩
    · rintro ⟨q, hq, e⟩
      rcases List.mem_append.1 hq with hq | hq
      · exact Or.inr ⟨q, hq, e⟩
      · rw [List.mem_singleton.1 hq] at e
        exact Or.inl e.symm
  · rw [addTime_mem, push_keys, h.keys u]
  · rcases push_mem _ _ _ h.apart a ha with ⟨h1, h2⟩ | ⟨h1, ⟨ds, h2, h3⟩ | ⟨h2, h3⟩⟩
    · rw [sentAt_snoc, if_neg (fun e => h1 e.symm)]
      exact h.rows a h2
    · rw [sentAt_snoc, if_pos h1.symm, h3, h1]
      have := h.rows _ h2
      simp only at this
      rw [← this]
    · rw [sentAt_snoc, if_pos h1.symm, h3, h1]
      have hz : sentAt L p.1 = [] := by
        unfold sentAt
        rw [List.map_eq_nil_iff, List.filter_eq_nil_iff]
        intro q hq
        simp
        intro e
        exact h2 ((h.keys _).1 ((h.mem _).2 ⟨q, hq, e⟩))
      rw [hz]
      rfl
  · rw [addTime_length, push_length, h.len]
    by_cases hc : p.1 ∈ ts
    · rw [if_pos hc, if_pos ((h.keys _).1 hc)]
    · rw [if_neg hc, if_neg (fun e => hc ((h.keys _).2 e))]
theorem addTime_le (ts : List Int) (t : Int) : (addTime ts t).length ≤ ts.length + 1 := by
  rw [addTime_length]
  split <;> omega
theorem timesOf_le (L : List Sent) : ∀ ts : List Int, (L.foldl (fun ts p => addTime ts p.1) ts).length ≤ ts.length + L.length := by
  induction L with
  | nil => intro ts; simp
  | cons p r ih =>
    intro ts
    rw [List.foldl_cons, List.length_cons]
    have h1 := ih (addTime ts p.1)
    have h2 := addTime_le ts p.1
    omega
theorem sentAt_le (L : List Sent) (u : Int) : (sentAt L u).length ≤ L.length := by
  unfold sentAt
  rw [List.length_map]
  exact List.length_filter_le _ _

theorem right_of (L : List Sent) : Right L (timesOf L) (rowsOf L) := by
  have : ∀ (L1 L2 : List Sent) ts g, Right L1 ts g → Right (L1 ++ L2) (L2.foldl (fun ts p => addTime ts p.1) ts) (L2.foldl (fun g p => push p.1 p.2 g) g) := by
    intro L1 L2
    induction L2 generalizing L1 with
    | nil => intro ts g h; simpa using h
    | cons p r ih =>
      intro ts g h
      have := ih (L1 ++ [p]) _ _ (h.snoc p)
      simpa using this
  exact this [] L [] [] Right.nil
end Go.Proofs.YbulkaihcFmt
