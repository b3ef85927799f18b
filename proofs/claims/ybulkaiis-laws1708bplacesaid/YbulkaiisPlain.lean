/-
  'LawS1708BPlace': a map of strings to ints as the list of what was stored, plainly. By the prover of seat 061 (an AI agent).
-/
import Derived.Test.YbulkaiisChecked
import Derived.Test.YbulkaiisMap
import Derived.StringKeys
namespace Go.Proofs.Ybulkaiis
open Go Go.MapKept Go.Maps Go.ChangeMaps Go.RowKit

abbrev KV := ByteArray × Int
/-- m[k] = v. -/
def put (k : ByteArray) (v : Int) : List KV → List KV
  | [] => [(k, v)]
  | (a, x) :: r => if a = k then (k, v) :: r else (a, x) :: put k v r
def puts (L : List KV) : List KV := L.foldl (fun M p => put p.1 p.2 M) []
theorem puts_snoc (L : List KV) (p : KV) : puts (L ++ [p]) = put p.1 p.2 (puts L) := by simp [puts]
theorem puts_nil : puts [] = [] := rfl

theorem put_keys (k : ByteArray) (v : Int) : ∀ (M : List KV) (u : ByteArray), u ∈ (put k v M).map (·.1) ↔ u = k ∨ u ∈ M.map (·.1)
  | [], u => by simp [put]
  | (a, x) :: r, u => by
    unfold put
    split
    · rename_i h
      subst h
      simp
    · simp only [List.map_cons, List.mem_cons, put_keys k v r u]
      constructor
      · rintro (h | h | h)
        · exact Or.inr (Or.inl h)
        · exact Or.inl h
        · exact Or.inr (Or.inr h)
      · rintro (h | h | h)
        · exact Or.inr (Or.inl h)
        · exact Or.inl h
        · exact Or.inr (Or.inr h)
theorem puts_keys (L : List KV) (u : ByteArray) : u ∈ (puts L).map (·.1) ↔ u ∈ L.map (·.1) := by
  have : ∀ (L : List KV) (M : List KV), u ∈ (L.foldl (fun M p => put p.1 p.2 M) M).map (·.1) ↔ u ∈ M.map (·.1) ∨ u ∈ L.map (·.1) := by
    intro L
    induction L with
    | nil => intro M; simp
    | cons p r ih =>
      intro M
      rw [List.foldl_cons, ih, put_keys, List.map_cons, List.mem_cons]
      constructor
      · rintro ((h | h) | h)
        · exact Or.inr (Or.inl h)
        · exact Or.inl h
        · exact Or.inr (Or.inr h)
      · rintro (h | h | h)
        · exact Or.inl (Or.inr h)
        · exact Or.inl (Or.inl h)
        · exact Or.inr h
  have h := this L []
  simpa [puts] using h
theorem put_self (k : ByteArray) (v : Int) : ∀ (M : List KV), (k, v) ∈ put k v M
  | [] => by simp [put]
  | (a, x) :: r => by
    unfold put
    split
    · simp
    · exact List.mem_cons_of_mem _ (put_self k v r)
theorem put_other (k : ByteArray) (v : Int) (h : ByteArray) (y : Int) (hne : h ≠ k) : ∀ (M : List KV), (h, y) ∈ M → (h, y) ∈ put k v M
  | [], hm => by cases hm
  | (a, x) :: r, hm => by
    unfold put
    split
    · rename_i e
      rcases List.mem_cons.1 hm with e2 | hm
      · simp only [Prod.mk.injEq] at e2
        exact absurd (e2.1.trans e) hne
      · exact List.mem_cons_of_mem _ hm
    · rcases List.mem_cons.1 hm with e2 | hm
      · rw [e2]
        simp
      · exact List.mem_cons_of_mem _ (put_other k v h y hne r hm)
theorem put_new (k : ByteArray) (v : Int) : ∀ (M : List KV), k ∉ M.map (·.1) → put k v M = M ++ [(k, v)]
  | [], _ => rfl
  | (a, x) :: r, h => by
    simp only [List.map_cons, List.mem_cons, not_or] at h
    unfold put
    rw [if_neg (fun e => h.1 e.symm), put_new k v r h.2]
    rfl
theorem put_split (k : ByteArray) (v : Int) : ∀ (M : List KV), k ∈ M.map (·.1) → ∃ M1 x M2, M = M1 ++ (k, x) :: M2 ∧ put k v M = M1 ++ (k, v) :: M2
  | [], h => by cases h
  | (a, x) :: r, h => by
    by_cases e : a = k
    · subst e
      exact ⟨[], x, r, rfl, by simp [put]⟩
    · have hr : k ∈ r.map (·.1) := by
        rcases List.mem_cons.1 h with h | h
        · exact absurd h.symm e
        · exact h
      obtain ⟨M1, y, M2, h1, h2⟩ := put_split k v r hr
      exact ⟨(a, x) :: M1, y, M2, by rw [h1]; rfl, by unfold put; rw [if_neg e, h2]; rfl⟩

theorem put_length_old (k : ByteArray) (v : Int) (M : List KV) (h : k ∈ M.map (·.1)) : (put k v M).length = M.length := by
  obtain ⟨M1, x, M2, h1, h2⟩ := put_split k v M h
  rw [h2, h1]
  simp
theorem put_length_new (k : ByteArray) (v : Int) (M : List KV) (h : k ∉ M.map (·.1)) : (put k v M).length = M.length + 1 := by
  rw [put_new k v M h]
  simp

/-- The last that was stored at h. -/
def Last (L : List KV) (h : ByteArray) (v : Int) : Prop := ∃ i, L[i]? = some (h, v) ∧ ∀ (j : Nat) (p : KV), i < j → L[j]? = some p → p.1 ≠ h
theorem last_mem_aux (h : ByteArray) (v : Int) : ∀ (n : Nat) (L : List KV), L.length = n → Last L h v → (h, v) ∈ puts L := by
  intro n
  induction n with
  | zero =>
    rintro L hl ⟨i, hi, _⟩
    rw [List.eq_nil_of_length_eq_zero hl] at hi
    simp at hi
  | succ n ih =>
    rintro L hl ⟨i, hi, hj⟩
    have hne : L ≠ [] := fun e => by rw [e] at hl; simp at hl
    obtain ⟨L', p, rfl⟩ : ∃ L' p, L = L' ++ [p] := ⟨L.dropLast, L.getLast hne, (List.dropLast_concat_getLast hne).symm⟩
    have hl' : L'.length = n := by simpa using hl
    rw [puts_snoc]
    have hlt : i < (L' ++ [p]).length := (List.getElem?_eq_some_iff.1 hi).1
    by_cases e : i = n
    · rw [e, List.getElem?_append_right (by omega), hl'] at hi
      simp at hi
      subst hi
      exact put_self _ _ _
    · have hin : i < n := by simp at hlt; omega
      rw [List.getElem?_append_left (by omega)] at hi
      have hpn := hj n p hin (by rw [List.getElem?_append_right (by omega), hl']; simp)
      refine put_other _ _ _ _ (fun e2 => hpn e2.symm) _ (ih L' hl' ⟨i, hi, fun j q hij hq => hj j q hij ?_⟩)
      have : j < L'.length := (List.getElem?_eq_some_iff.1 hq).1
      rw [List.getElem?_append_left this]
      exact hq
theorem last_mem {L : List KV} {h : ByteArray} {v : Int} (hl : Last L h v) : (h, v) ∈ puts L := last_mem_aux h v _ L rfl hl

def encM (M : List KV) : List (Value × Value) := M.map fun p => (.string p.1, .int .i64 p.2)
theorem encM_mem {M : List KV} {h : ByteArray} {v : Int} (hm : (h, v) ∈ M) : (Value.string h, Value.int .i64 v) ∈ encM M := List.mem_map.2 ⟨(h, v), hm, rfl⟩
theorem keyed9 : Keyed Yba.prog 9 := string_keyed Yba.underlying9

/-- A store into the map. -/
theorem map_put {w : World} {b : Nat} {M : List KV} (h : MapIs Yba.prog 9 w b (encM M)) {k : ByteArray} (hk : k.size ≤ maxLen) (v : Int) :
    ∃ w', (Instr.mapUpdate 26 (.map (some b)) (.string k) (.int .i64 v)).run Yba.prog w = .ok () w' ∧ MapIs Yba.prog 9 w' b (encM (put k v M)) ∧ w.mapTurned w' b := by
  have hq : keyOf Yba.prog 9 (.string k) = some (.string k.data.toList) := WideMaps.keyOf_string_mk Yba.underlying9 hk
  by_cases hin : k ∈ M.map (·.1)
  · obtain ⟨M1, x, M2, rfl, h2⟩ := put_split k v M hin
    have he : encM (M1 ++ (k, x) :: M2) = encM M1 ++ (.string k, .int .i64 x) :: encM M2 := by simp [encM]
    rw [he] at h
    obtain ⟨w', a1, a2, a3⟩ := h.store_old keyed9 Yba.underlying26 (.int .i64 v)
    refine ⟨w', a1, ?_, a3⟩
    rw [h2]
    simpa [encM] using a2
  · obtain ⟨w', a1, a2, a3⟩ := h.store_new keyed9 Yba.underlying26 hq (fun p hp e => by
      obtain ⟨q, hq', rfl⟩ := List.mem_map.1 hp
      simp only [Value.string.injEq] at e
      exact hin (List.mem_map.2 ⟨q, hq', e⟩)) (.int .i64 v)
    refine ⟨w', a1, ?_, a3⟩
    rw [put_new k v M hin]
    simpa [encM] using a2
end Go.Proofs.Ybulkaiis
