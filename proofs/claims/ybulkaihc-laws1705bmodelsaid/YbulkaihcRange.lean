/-
  Ranging over a map that is a plain list of entries (YbulkaihcMap); over any program. By the prover of seat 061 (an AI agent).
-/
import Derived.Test.YbulkaihcMap
import Derived.Maps.RangeRun
namespace Go.Proofs.Ybulkaihc
open Go Go.MapKept Go.Maps Go.ChangeMaps Go.RowKit

/-- Block b is a map with the entries l; block r is an iterator over it, by which 'left' are still to come. -/
def Ranging (P : Program) (k : TypeId) (w : World) (r b : Nat) (l left : List (Value × Value)) : Prop :=
  ∃ es clock seen, w.heap[b]? = some (.map es clock) ∧ es.toList.map (fun e => (e.key, e.val)) = l ∧ (∀ p ∈ l, ∃ q, keyOf P k p.1 = some q) ∧ Stamped es clock ∧
    w.heap[r]? = some (.mapIter (some b) clock seen clock) ∧ (leftOf es seen).toList.map (fun e => (e.key, e.val)) = left

section
variable {P : Program} {k : TypeId} {w : World} {r b : Nat} {l left : List (Value × Value)}

theorem Ranging.map (h : Ranging P k w r b l left) : MapIs P k w b l := by
  obtain ⟨es, clock, seen, h1, h2, h3, h4, _⟩ := h
  exact ⟨es, clock, h1, h2, h3, h4⟩

theorem Ranging.ne (h : Ranging P k w r b l left) : r ≠ b := by
  obtain ⟨es, clock, seen, h1, _, _, _, h5, _⟩ := h
  intro e
  rw [e, h1] at h5
  cases h5

theorem Ranging.lt (h : Ranging P k w r b l left) : r < w.heap.size := by
  obtain ⟨es, clock, seen, _, _, _, _, h5, _⟩ := h
  exact (Array.getElem?_eq_some_iff.1 h5).1

theorem Ranging.blocks (h : Ranging P k w r b l left) {w' : World} (hb : w'.heap[b]? = w.heap[b]?) (hr : w'.heap[r]? = w.heap[r]?) : Ranging P k w' r b l left := by
  obtain ⟨es, clock, seen, h1, h2, h3, h4, h5, h6⟩ := h
  exact ⟨es, clock, seen, hb.trans h1, h2, h3, h4, hr.trans h5, h6⟩

theorem Ranging.kept (h : Ranging P k w r b l left) {w' : World} {row : Option Nat} (hg : w.grownBy w' row) (h1 : some b ≠ row) (h2 : some r ≠ row) : Ranging P k w' r b l left :=
  h.blocks (hg.block b h.map.lt h1) (hg.block r h.lt h2)

/-- 'range m' -/
theorem MapIs.range {t e : TypeId} (h : MapIs P k w b l) (ht : P.underlying t = some (.map k e)) :
    ∃ o, (Instr.range t (.map (some b))).run P w = .ok (.pointer (some ⟨w.heap.size, 0, none⟩)) (w.alloc o) ∧ Ranging P k (w.alloc o) w.heap.size b l l := by
  have hlt := h.lt
  obtain ⟨es, clock, hb, h2, h3, h4⟩ := h
  refine ⟨_, run_range_map w t k e b es clock ht hb, es, clock, #[], ?_, h2, h3, h4, (MapKept.heap_alloc w _).1, ?_⟩
  · rw [Below.heap_alloc w _ b hlt]; exact hb
  · rw [← h2]
    congr 1
    simp only [leftOf, Array.toList_filter]
    exact List.filter_eq_self.2 (fun x _ => by simp)

/-- The step: nothing is left, or one that is left comes, whichever the tape says. -/
theorem Ranging.next (h : Ranging P k w r b l left) (ty : TypeId) :
    (left = [] ∧ (Instr.next (.pointer (some ⟨r, 0, none⟩)) false ty).run P w = .ok (.tuple #[.bool false]) w) ∨
    ∃ key v left' w', (key, v) ∈ left ∧ (key, v) ∈ l ∧ (Instr.next (.pointer (some ⟨r, 0, none⟩)) false ty).run P w = .ok (.tuple #[.bool true, key, v]) w' ∧ Ranging P k w' r b l left' ∧
      (∀ q ∈ left, q ∈ left' ∨ q = (key, v)) ∧ left'.length < left.length ∧ w.grownBy w' (some r) ∧ w'.heap.size = w.heap.size ∧
      (Instr.entry (.pointer (some ⟨r, 0, none⟩))).run P w' = .ok (.tuple #[key, v]) w' := by
  have hne := h.ne
  obtain ⟨es, clock, seen, hb, hl, hk, hs, hr, hleft⟩ := h
  rcases run_next_at (P := P) w ty r b clock clock seen es clock hr hb hs.1 (Nat.le_refl _) with ⟨h0, hrun⟩ | ⟨e, he, w1, hw1, hrun⟩
  · refine Or.inl ⟨?_, hrun⟩
    rw [← hleft, Array.eq_empty_of_size_eq_zero h0]
    rfl
  · have hr1 : w1.heap[r]? = some (.mapIter (some b) clock seen clock) := by rcases hw1 with rfl | rfl <;> exact hr
    have hb1 : w1.heap[b]? = some (.map es clock) := by rcases hw1 with rfl | rfl <;> exact hb
    have hrn : (setBlock w1 r (.mapIter (some b) clock (seen.push e.born) clock)).heap[r]? = some (.mapIter (some b) clock (seen.push e.born) clock) := by
      have hlt := (Array.getElem?_eq_some_iff.1 hr1).1
      simp [setBlock, hlt]
    have hbn : (setBlock w1 r (.mapIter (some b) clock (seen.push e.born) clock)).heap[b]? = some (.map es clock) := by
      simp only [setBlock]
      rw [Array.getElem?_setIfInBounds_ne hne]
      exact hb1
    have hm := mem_left he
    refine Or.inr ⟨e.key, e.val, _, _, ?_, ?_, hrun, ⟨es, clock, seen.push e.born, hbn, hl, hk, hs, hrn, rfl⟩, ?_, ?_, ?_, ?_, ?_⟩
    · rw [← hleft]; exact List.mem_map.2 ⟨e, he, rfl⟩
    · rw [← hl]; exact List.mem_map.2 ⟨e, hm.1, rfl⟩
    · intro q hq
      rw [← hleft] at hq
      obtain ⟨x, hx, rfl⟩ := List.mem_map.1 hq
      by_cases hxe : x = e
      · subst hxe; exact Or.inr rfl
      · left
        refine List.mem_map.2 ⟨x, ?_, rfl⟩
        have hx' := mem_left hx
        have hbe : x.born ≠ e.born := fun hh => hxe (born_inj hs.2.1 hx'.1 hm.1 hh)
        simp only [leftOf, Array.toList_filter, List.mem_filter]
        refine ⟨hx'.1, ?_⟩
        rw [contains_push, hx'.2]
        simpa using hbe
    · rw [← hleft]
      simpa using left_shrinks es seen e he
    · refine ⟨?_, ?_, ?_, ?_, ?_⟩
      · rcases hw1 with rfl | rfl <;> rfl
      · rcases hw1 with rfl | rfl <;> rfl
      · rcases hw1 with rfl | rfl <;> rfl
      · rcases hw1 with rfl | rfl <;> simp [setBlock]
      · intro i _ hi
        have hir : r ≠ i := fun e => hi (by rw [e])
        simp only [setBlock]
        rw [Array.getElem?_setIfInBounds_ne hir]
        rcases hw1 with rfl | rfl <;> rfl
    · rcases hw1 with rfl | rfl <;> simp [setBlock]
    · exact run_entry_at _ r b clock seen es clock e hrn hbn hm.1 hs.2.1

end
end Go.Proofs.Ybulkaihc
