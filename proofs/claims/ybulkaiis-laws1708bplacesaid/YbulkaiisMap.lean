/-
  A map's block as the plain list of its entries, in the order of their insertion; over any program. By the prover of seat 061 (an AI agent).
-/
import Derived.Maps.OwnSet
namespace Go.Proofs.Ybulkaiis
open Go Go.MapKept Go.Maps Go.ChangeMaps Go.RowKit

/-- Block b of w is a map whose entries are l, in the order of their insertion. -/
def MapIs (P : Program) (k : TypeId) (w : World) (b : Nat) (l : List (Value × Value)) : Prop :=
  ∃ es clock, w.heap[b]? = some (.map es clock) ∧ es.toList.map (fun e => (e.key, e.val)) = l ∧ (∀ p ∈ l, ∃ q, keyOf P k p.1 = some q) ∧ Stamped es clock

section
variable {P : Program} {k : TypeId} {w : World} {b : Nat} {l : List (Value × Value)}

theorem mapIs_made (w : World) (P : Program) (k : TypeId) : MapIs P k (w.alloc (.map #[] 0)) w.heap.size [] :=
  ⟨#[], 0, (MapKept.heap_alloc w _).1, rfl, by simp, stamped_empty 0⟩

theorem MapIs.lt (h : MapIs P k w b l) : b < w.heap.size := by
  obtain ⟨es, clock, hb, _⟩ := h
  exact (Array.getElem?_eq_some_iff.1 hb).1

theorem MapIs.block (h : MapIs P k w b l) {w' : World} (hb : w'.heap[b]? = w.heap[b]?) : MapIs P k w' b l := by
  obtain ⟨es, clock, h1, r⟩ := h
  exact ⟨es, clock, hb.trans h1, r⟩

theorem MapIs.kept (h : MapIs P k w b l) {w' : World} {row : Option Nat} (hg : w.grownBy w' row) (hne : some b ≠ row) : MapIs P k w' b l :=
  h.block (hg.block b h.lt hne)

theorem MapIs.below (h : MapIs P k w b l) {w' : World} {B : Nat} (hg : Below B w w') (hne : b < B) : MapIs P k w' b l :=
  h.block (hg.block b hne)

theorem MapIs.alloc (h : MapIs P k w b l) (o : Obj) : MapIs P k (w.alloc o) b l := h.kept (World.grownBy_alloc w o none) (by simp)

theorem MapIs.drew (h : MapIs P k w b l) : MapIs P k w.drew b l := h

theorem MapIs.setCell (h : MapIs P k w b l) (a : Addr) (v : Value) : MapIs P k (w.setCell a v) b l := by
  obtain ⟨es, clock, hb, r⟩ := h
  refine ⟨es, clock, ?_, r⟩
  simp only [World.setCell, Array.getElem?_modify]
  split
  · simp [hb]
  · exact hb

/-- The keys are apart. -/
theorem MapIs.apart (h : MapIs P k w b l) : l.Pairwise (fun p q => p.1 ≠ q.1) := by
  obtain ⟨es, clock, _, rfl, _, hs⟩ := h
  rw [List.pairwise_map]
  exact ((stamped_iff es clock).1 hs).2.2

theorem apart_unique {l : List (Value × Value)} (h : l.Pairwise (fun p q => p.1 ≠ q.1)) {x v v' : Value} (h1 : (x, v) ∈ l) (h2 : (x, v') ∈ l) : v = v' := by
  induction l with
  | nil => simp at h1
  | cons p l ih =>
    obtain ⟨ha, hb⟩ := List.pairwise_cons.1 h
    rcases List.mem_cons.1 h1 with e1 | m1
    · rcases List.mem_cons.1 h2 with e2 | m2
      · rw [← e1] at e2; cases e2; rfl
      · exact absurd (by rw [← e1]) (ha _ m2)
    · rcases List.mem_cons.1 h2 with e2 | m2
      · exact absurd (by rw [← e2]) (ha _ m1)
      · exact ih hb m1 m2

theorem mem_entries {es : Array MapEntry} {x v : Value} (h : (x, v) ∈ es.toList.map (fun e => (e.key, e.val))) : ∃ e ∈ es.toList, e.key = x ∧ e.val = v := by
  obtain ⟨e, he, hx⟩ := List.mem_map.1 h
  cases hx
  exact ⟨e, he, rfl, rfl⟩

/-- 'm[x]', the key is there. -/
theorem MapIs.look_hit {t e : TypeId} (h : MapIs P k w b l) (K : Keyed P k) (ht : P.underlying t = some (.map k e)) {x v : Value} (hm : (x, v) ∈ l) (c : Bool) :
    (Instr.lookup t (.map (some b)) x c).run P w = .ok (if c then .tuple #[v, .bool true] else v) w := by
  have hap := h.apart
  obtain ⟨es, clock, hb, rfl, hk, hs⟩ := h
  obtain ⟨q, hq⟩ := hk _ hm
  rcases K.find w hq es.toList (fun y hy => hk (y.key, y.val) (List.mem_map.2 ⟨y, hy, rfl⟩)) with ⟨h1, h2⟩ | ⟨j, e0, h1, h2, h3⟩
  · obtain ⟨y, hy, e1, _⟩ := mem_entries hm
    exact absurd e1 (h2 y hy)
  · have hv : e0.val = v := apart_unique hap (x := x) (List.mem_map.2 ⟨e0, List.mem_of_getElem? h2, by rw [h3]⟩) hm
    simp [Instr.lookup, run_underlying ht, MapKept.run_getObj_map hb, K.check w _ hq, h1, Result.andThen, hv]

/-- 'm[x]', the key is not there. -/
theorem MapIs.look_miss {t e : TypeId} (h : MapIs P k w b l) (K : Keyed P k) (ht : P.underlying t = some (.map k e)) {z : Value} (hz : (zeroValue e).run P w = .ok z w) {x : Value} {q : Lit} (hq : keyOf P k x = some q) (hm : ∀ p ∈ l, p.1 ≠ x) (c : Bool) :
    (Instr.lookup t (.map (some b)) x c).run P w = .ok (if c then .tuple #[z, .bool false] else z) w := by
  obtain ⟨es, clock, hb, rfl, hk, hs⟩ := h
  rcases K.find w hq es.toList (fun y hy => hk (y.key, y.val) (List.mem_map.2 ⟨y, hy, rfl⟩)) with ⟨h1, h2⟩ | ⟨j, e0, h1, h2, h3⟩
  · simp [Instr.lookup, run_underlying ht, MapKept.run_getObj_map hb, K.check w _ hq, h1, hz, Result.andThen]
  · exact absurd h3 (hm (e0.key, e0.val) (List.mem_map.2 ⟨e0, List.mem_of_getElem? h2, rfl⟩))

/-- 'len(m)' -/
theorem MapIs.len {t e : TypeId} (h : MapIs P k w b l) (ht : P.underlying t = some (.map k e)) (ty : TypeId) : (Builtin.len_ #[t] ty #[.map (some b)]).run P w = .ok (.int .i64 l.length) w := by
  obtain ⟨es, clock, hb, rfl, _⟩ := h
  simp [Builtin.len_, run_underlying ht, MapKept.run_getObj_map hb, goInt, Result.andThen]

/-- 'm[x] = v', the key is new. -/
theorem MapIs.store_new {t e : TypeId} (h : MapIs P k w b l) (K : Keyed P k) (ht : P.underlying t = some (.map k e)) {x : Value} {q : Lit} (hq : keyOf P k x = some q) (hm : ∀ p ∈ l, p.1 ≠ x) (v : Value) :
    ∃ w', (Instr.mapUpdate t (.map (some b)) x v).run P w = .ok () w' ∧ MapIs P k w' b (l ++ [(x, v)]) ∧ w.mapTurned w' b := by
  obtain ⟨es, clock, hb, rfl, hk, hs⟩ := h
  rcases K.find w hq es.toList (fun y hy => hk (y.key, y.val) (List.mem_map.2 ⟨y, hy, rfl⟩)) with ⟨h1, h2⟩ | ⟨j, e0, h1, h2, h3⟩
  · refine ⟨setBlock w b (.map (es.push { key := x, val := v, born := clock }) (clock + 1)), ?_, ⟨_, _, heap_setBlock_same hb _, by simp, ?_, stamped_push hs h2⟩, ⟨es, clock, _, _, hb, rfl⟩⟩
    · simp [Instr.mapUpdate, run_underlying ht, MapKept.run_getObj_map hb, K.check w _ hq, h1, Result.andThen, MapKept.run_setObj_map _ hb, setBlock]
    · intro p hp
      rcases List.mem_append.1 hp with hp | hp
      · exact hk p hp
      · simp at hp; subst hp; exact ⟨q, hq⟩
  · exact absurd h3 (hm (e0.key, e0.val) (List.mem_map.2 ⟨e0, List.mem_of_getElem? h2, rfl⟩))

/-- 'm[x] = v', the key is there. -/
theorem MapIs.store_old {t e : TypeId} {l1 l2 : List (Value × Value)} {x v0 : Value} (h : MapIs P k w b (l1 ++ (x, v0) :: l2)) (K : Keyed P k) (ht : P.underlying t = some (.map k e)) (v : Value) :
    ∃ w', (Instr.mapUpdate t (.map (some b)) x v).run P w = .ok () w' ∧ MapIs P k w' b (l1 ++ (x, v) :: l2) ∧ w.mapTurned w' b := by
  have hap := h.apart
  obtain ⟨es, clock, hb, hl, hk, hs⟩ := h
  obtain ⟨q, hq⟩ : ∃ q, keyOf P k x = some q := hk (x, v0) (by simp)
  have hk' : ∀ y ∈ es.toList, ∃ q, keyOf P k y.key = some q := fun y hy => hk (y.key, y.val) (hl ▸ List.mem_map.2 ⟨y, hy, rfl⟩)
  rcases K.find w hq es.toList hk' with ⟨h1, h2⟩ | ⟨j, e0, h1, h2, h3⟩
  · obtain ⟨y, hy, e1, _⟩ := mem_entries (es := es) (x := x) (v := v0) (hl ▸ by simp)
    exact absurd e1 (h2 y hy)
  · have hj : j = l1.length := by
      have e1 : (l1 ++ (x, v0) :: l2)[j]? = some (x, e0.val) := by rw [← hl, List.getElem?_map, h2]; simp [h3]
      have e2 : (l1 ++ (x, v0) :: l2)[l1.length]? = some (x, v0) := by simp
      have hlt : j < (l1 ++ (x, v0) :: l2).length := (List.getElem?_eq_some_iff.1 e1).1
      have hlt2 : l1.length < (l1 ++ (x, v0) :: l2).length := by simp
      rcases Nat.lt_trichotomy j l1.length with hc | hc | hc
      · have := List.pairwise_iff_getElem.1 hap j l1.length hlt hlt2 hc
        rw [(List.getElem?_eq_some_iff.1 e1).2, (List.getElem?_eq_some_iff.1 e2).2] at this
        exact absurd rfl this
      · exact hc
      · have := List.pairwise_iff_getElem.1 hap l1.length j hlt2 hlt hc
        rw [(List.getElem?_eq_some_iff.1 e1).2, (List.getElem?_eq_some_iff.1 e2).2] at this
        exact absurd rfl this
    have he0 : es[j]? = some e0 := by simpa using h2
    have hstay := K.stays w hq
    refine ⟨setBlock w b (.map (es.modify j fun e => { e with key := x, val := v }) clock), ?_, ⟨_, _, heap_setBlock_same hb _, ?_, ?_, ?_⟩, ⟨es, clock, _, _, hb, rfl⟩⟩
    · simp [Instr.mapUpdate, run_underlying ht, MapKept.run_getObj_map hb, K.check w _ hq, h1, Result.andThen, he0, h3, hstay, MapKept.run_setObj_map _ hb, setBlock]
    · apply List.ext_getElem?
      intro i
      simp only [List.getElem?_map, Array.getElem?_toList, Array.getElem?_modify]
      have hi : (es.toList.map (fun e => (e.key, e.val)))[i]? = (l1 ++ (x, v0) :: l2)[i]? := by rw [hl]
      simp only [List.getElem?_map, Array.getElem?_toList] at hi
      by_cases hij : j = i
      · rw [← hij, if_pos rfl, he0, hj]
        simp
      · simp only [hij, if_false]
        rw [hi]
        rw [hj] at hij
        rcases Nat.lt_or_gt_of_ne hij with hc | hc
        · rw [List.getElem?_append_right (by omega), List.getElem?_append_right (by omega)]
          obtain ⟨d, hd⟩ : ∃ d, i - l1.length = d + 1 := ⟨i - l1.length - 1, by omega⟩
          rw [hd]; simp
        · rw [List.getElem?_append_left hc, List.getElem?_append_left hc]
    · intro p hp
      rcases List.mem_append.1 hp with hp | hp
      · exact hk p (by simp [hp])
      · rcases List.mem_cons.1 hp with rfl | hp
        · exact ⟨q, hq⟩
        · exact hk p (by simp [hp])
    · exact stamped_modify hs j _ (fun _ _ => rfl) (fun e _ he => by rw [he0] at he; cases he; exact h3.symm)

end

/-- What 'mapTurned' gives of the other blocks. -/
theorem grownBy_of_turned {w w' : World} {b : Nat} (h : w.mapTurned w' b) : w.grownBy w' (some b) := by
  obtain ⟨es, clock, es', clock', hb, rfl⟩ := h
  exact ⟨rfl, rfl, rfl, by simp [setBlock], fun i _ hi => heap_setBlock_other hb _ (fun e => hi (by rw [e]))⟩

theorem turned_size {w w' : World} {b : Nat} (h : w.mapTurned w' b) : w'.heap.size = w.heap.size := by
  obtain ⟨es, clock, es', clock', hb, rfl⟩ := h
  simp [setBlock]

end Go.Proofs.Ybulkaiis
