/-
  deliveries.add (function 10): its contract. By the prover of seat 061 (an AI agent).
-/
import Derived.Test.YbulkaihcFmtFly
import Derived.Maps.AppendAt
namespace Go.Proofs.YbulkaihcFmt
open Go Go.MapKept Go.Maps Go.ChangeMaps Go.RowKit

theorem info49 : (Ybaf.prog.info? 49).map (fun i => (i.zero.map (·.cells.size), i.size)) = some (some 5, 5) := by kernel_rfl
theorem info49b : (Ybaf.prog.info? 49).map (fun i => decide (i.bytes ≤ 64)) = some true := by kernel_rfl
theorem zero45 (w : World) : (zeroValue 45).run Ybaf.prog w = .ok (.slice none 0 0) w := by kernel_rfl

/-- append of one delivery onto an owned row of deliveries. -/
theorem append49 {w : World} {base n : Nat} {v : Value} {xs : List Value} (hown : w.ownsRow base 49 5 v n xs) (g : Nat) (d : Del) (hg : w.heap[g]? = some (.cells (dArr d) 49 (0, 0))) (hn : n ≤ 1000000) (hbase : base ≤ w.heap.size) :
    ∃ v' w', (Builtin.append_ #[45, 45] 45 #[v, .slice (some ⟨g, 0, none⟩) 1 1]).run Ybaf.prog w = .ok v' w' ∧ w'.ownsRow base 49 5 v' (n + 1) (xs ++ (dArr d).toList) ∧ w.grownBy w' v.ownBlock ∧ (v'.ownBlock = v.ownBlock ∨ v'.ownBlock = some w.heap.size) ∧ v' ≠ .slice none 0 0 := by
  have h1 := info49
  have h2 := info49b
  cases hi : Ybaf.prog.info? 49 with
  | none => rw [hi] at h1; cases h1
  | some i =>
    rw [hi] at h1 h2
    simp at h1 h2
    obtain ⟨⟨z, hz, hzs⟩, hsz⟩ := h1
    obtain ⟨v', w', a1, a2, a3, a4, a5⟩ := run_append_own_at w base 45 45 49 i z 5 i.bytes Ybaf.underlying45 hi hz hsz rfl hzs (by omega) v n xs hown ⟨g, 0, none⟩ 1 1 (dArr d).toList (by simp [dArr]) (by
      intro j u hu
      have e : (⟨g, 0, none⟩ : Addr).add j = ⟨g, j, none⟩ := by
        unfold Addr.add
        split
        · rename_i h; subst h; rfl
        · simp
      rw [e]
      simp only [World.cell?, hg]
      simpa using hu) (by
      intro u hu
      simp [dArr] at hu
      rcases hu with rfl | rfl | rfl | rfl | rfl <;> rfl) (by unfold maxLen; omega) (by
      have : (n + 1) * i.bytes ≤ 1000001 * 64 := Nat.mul_le_mul (by omega) h2
      omega) hbase
    exact ⟨v', w', a1, a2, a3, a5, fun e => by have := a4.1 e; omega⟩

/-- A variable that holds a delivery and is no row of the map stays as it is. -/
def Spare (w : World) (G : List Ent) (w' : World) (G' : List Ent) : Prop :=
  ∀ D c, w.heap[D]? = some (.cells c 49 (0, 0)) → (∀ g ∈ G, g.2.1.ownBlock ≠ some D) → w'.heap[D]? = some (.cells c 49 (0, 0)) ∧ ∀ g ∈ G', g.2.1.ownBlock ≠ some D
theorem Spare.trans {w w' w'' : World} {G G' G'' : List Ent} (h : Spare w G w' G') (k : Spare w' G' w'' G'') : Spare w G w'' G'' := fun D c hD hg => by
  obtain ⟨h1, h2⟩ := h D c hD hg
  exact k D c h1 h2
theorem Spare.of_grown {w w' : World} {row : Option Nat} (hg : w.grownBy w' row) (hr : ∀ r, row = some r → ∀ c, w.heap[r]? ≠ some (.cells c 49 (0, 0))) (G : List Ent) : Spare w G w' G := fun D c hD hn =>
  ⟨(hg.block D (Array.getElem?_eq_some_iff.1 hD).1 (fun e => hr D e.symm c hD)).trans hD, hn⟩
theorem Spare.alloc (w : World) (o : Obj) (G : List Ent) : Spare w G (w.alloc o) G := Spare.of_grown (World.grownBy_alloc w o none) (by simp) G
theorem Spare.drewN (w : World) (n : Nat) (G : List Ent) : Spare w G (w.drewN n) G := fun _ _ hD hn => ⟨hD, hn⟩
theorem Spare.drew (w : World) (G : List Ent) : Spare w G w.drew G := fun _ _ hD hn => ⟨hD, hn⟩
theorem Spare.set {w : World} {b i : Nat} {v : Value} {c : Array Value} (hb : w.heap[b]? = some (.cells c 43 (0, 0))) (G : List Ent) : Spare w G (w.setCell ⟨b, i, none⟩ v) G :=
  Spare.of_grown (grownBy_setCell w ⟨b, i, none⟩ v) (fun r hr c' => by
    cases hr
    rw [hb]
    simp) G

theorem held_cells {W : World} {cb mb D : Nat} {nv tv dv : Value} {st to : Int} {rq : ByteArray} (hr : W.heap[cb]? = some (.cells (clCells nv tv (.map (some mb)) dv st) 43 (0, 0))) (hD : W.heap[D]? = some (.cells (dArr (to, rq)) 49 (0, 0))) :
    W.cell? ⟨cb, 2, none⟩ = some (.map (some mb)) ∧ W.cell? ⟨D, 0, none⟩ = some (.int .i64 (-1)) ∧ W.cell? ⟨D, 1, none⟩ = some (.int .i64 to) ∧ W.cell? ⟨D, 2, none⟩ = some (.pointer none) ∧ W.cell? ⟨D, 3, none⟩ = some (.string rq) ∧ W.cell? ⟨D, 4, none⟩ = some (.int .i64 0) := by
  simp [World.cell?, hr, hD, clCells, dArr]

attribute [local go_sem ↓] Go.wp_at_zero Go.wp_at_succ

set_option maxRecDepth 100000 in
set_option maxHeartbeats 1000000 in
/-- The time is not there, the map is. -/
theorem add_new {w : World} {B cb mb : Nat} {nv dv : Value} {st : Int} {tv : Value} {ts : List Int} {G : List Ent} (h : Fly w B cb nv dv st tv ts (some mb) G) (t to : Int) (rq : ByteArray) (ht0 : 0 ≤ t) (ht1 : t ≤ 1000000) (hm : ∀ p ∈ encG G, p.1 ≠ .int .i64 t) (hlen : ts.length ≤ 1000000) (hs : ts.Pairwise (· < ·)) :
    Calls Ybaf.prog 10 #[.pointer (some ⟨cb, 1, none⟩), .int .i64 t, .agg (dArr (to, rq))] w fun e w' => e = .returned (.tuple #[]) ∧ ∃ tv' v', Fly w' B cb nv dv st tv' (insAt ts (ts.countP (· < t)) t) (some mb) (G ++ [(t, v', [(to, rq)])]) ∧ Spare w G w' (G ++ [(t, v', [(to, rq)])]) ∧ Kept w w' B cb := by
  have hr := h.row
  have hcb : cb < w.heap.size := (Array.getElem?_eq_some_iff.1 hr).1
  have hcb1 : cb < w.heap.size + 1 := by omega
  have c1 : w.cell? ⟨cb, 1, none⟩ = some tv := by simp [World.cell?, hr, clCells]
  have c2 : w.cell? ⟨cb, 2, none⟩ = some (.map (some mb)) := by simp [World.cell?, hr, clCells]
  have qT : ∀ (w : World) (r : Option Nat), (binOp .eql 26 (.map r) (.map none)).run Ybaf.prog w = .ok (.bool r.isNone) w := fun w r => run_eql_map_nil w _ _ _ r Ybaf.underlying26
  have hq : keyOf Ybaf.prog 3 (.int .i64 t) = some (.int .i64 t) := keyOf_int_mk Ybaf.underlying3 (WalkArith.wf_i64 (by omega))
  have hlk := fun o => (h.alloc o |>.hmap mb rfl).2.look_miss keyed3 Ybaf.underlying26 (zero45 _) hq hm true
  have hcnt : ts.countP (· < t) ≤ ts.length := List.countP_le_length
  unfold dArr
  clear hr
  go_enter Ybaf.func10, Ybaf.ntmps10
  go_wp2_with fail
  have h1 := h.alloc (.cells (dArr (to, rq)) 49)
  refine (search_own h1.times t hlen hs).mono ?_
  rintro e w2 ⟨⟨fb, rfl⟩, q, hw2⟩
  have h2 := h1.drewN q
  have k2 := (Kept.alloc w (.cells (dArr (to, rq)) 49) B cb).trans (Kept.drewN _ q B cb)
  have hD : w2.heap[w.heap.size]? = some (.cells (dArr (to, rq)) 49 (0, 0)) := by
    rw [hw2]
    exact (MapKept.heap_alloc w _).1
  have hz2 : w2.heap.size = w.heap.size + 1 := by
    rw [hw2]
    show (w.alloc _).heap.size = _
    simp
  have s2 : Spare w G w2 G := by
    rw [hw2]
    exact (Spare.alloc w _ G).trans (Spare.drewN _ q G)
  rw [← hw2] at h2 k2
  clear hw2 hlk c1 c2 h1
  have c1 : w2.cell? ⟨cb, 1, none⟩ = some tv := by simp [World.cell?, h2.row, clCells]
  go_wp2_with fail
  have h3 := h2.alloc (.cells #[.int .i64 t] 3)
  have k3 := k2.trans (Kept.alloc w2 (.cells #[.int .i64 t] 3) B cb)
  have hvb : ∀ g, tv.ownBlock = some g → w.heap.size + 1 ≠ g := fun g hg e => by
    have := (h2.times.lt g hg).2
    omega
  refine (insert_own h3.times _ hcnt t (w.heap.size + 1) (by rw [← hz2]; exact (MapKept.heap_alloc w2 _).1) hvb hlen h3.lt.2).mono ?_
  rintro e w4 ⟨tv', rfl, ho4, hg4, _⟩
  obtain ⟨gg, cc, rfl⟩ := own_some ho4 (by rw [insAt_length ts _ t hcnt]; omega)
  obtain ⟨h5, k5⟩ := h3.setTimes ho4 hg4
  have hr4 : w4.heap[cb]? = some (.cells (clCells nv tv (.map (some mb)) dv st) 43 (0, 0)) := (hg4.block cb (by have := h3.lt; omega) (fun e => by
      have := (h2.times.lt cb e.symm).1
      have := h2.lt.1
      omega)).trans h3.row
  have s5 := s2.trans ((Spare.alloc w2 (.cells #[.int .i64 t] 3) G).trans ((Spare.of_grown hg4 (fun r hr c e => by
      obtain ⟨_, c', h2⟩ := own_type h3.times hr
      rw [h2] at e
      simp at e) G).trans (Spare.set (i := 1) (v := .slice (some ⟨gg, 0, none⟩) (insAt ts (ts.countP (· < t)) t).length cc) hr4 G)))
  generalize (insAt ts (ts.countP (· < t)) t).length = nn at *
  have k5 := k3.trans k5
  have hD5 : (w4.setCell ⟨cb, 1, none⟩ (.slice (some ⟨gg, 0, none⟩) nn cc)).heap[w.heap.size]? = some (.cells (dArr (to, rq)) 49 (0, 0)) := by
    rw [Below.heap_setCell _ _ _ _ (by show _ ≠ cb; omega)]
    refine (hg4.block w.heap.size (by simp; omega) ?_).trans ((Below.heap_alloc w2 _ _ (by omega)).trans hD)
    intro e
    obtain ⟨_, c, hc⟩ := own_type h2.times e.symm
    rw [hD] at hc
    simp at hc
  have f1 : w4.frozen? ⟨cb, 1, none⟩ = false := by simp [World.frozen?, hr4]
  have x1 : (w4.cell? ⟨cb, 1, none⟩).isSome = true := by simp [World.cell?, hr4, clCells]
  obtain ⟨u1, hu1⟩ := Option.isSome_iff_exists.1 x1
  have hz5 : w2.heap.size + 1 ≤ (w4.setCell ⟨cb, 1, none⟩ (.slice (some ⟨gg, 0, none⟩) nn cc)).heap.size := Nat.le_trans (by simp) (Nat.le_trans hg4.size (grownBy_setCell _ _ _).size)
  have hw : w.heap.size < (w4.setCell ⟨cb, 1, none⟩ (.slice (some ⟨gg, 0, none⟩) nn cc)).heap.size := by omega
  clear hr4 x1 c1 hD hz2 hz5 ho4 hg4 h3 h2 k2 k3
  go_wp2_with fail
  clear f1 hu1
  generalize w4.setCell ⟨cb, 1, none⟩ (.slice (some ⟨gg, 0, none⟩) nn cc) = w5 at *
  have c2 : w5.cell? ⟨cb, 2, none⟩ = some (.map (some mb)) := by simp [World.cell?, h5.row, clCells]
  have d0 : w5.cell? ⟨w.heap.size, 0, none⟩ = some (.int .i64 (-1)) := by simp [World.cell?, hD5, dArr]
  have d1 : w5.cell? ⟨w.heap.size, 1, none⟩ = some (.int .i64 to) := by simp [World.cell?, hD5, dArr]
  have d2 : w5.cell? ⟨w.heap.size, 2, none⟩ = some (.pointer none) := by simp [World.cell?, hD5, dArr]
  have d3 : w5.cell? ⟨w.heap.size, 3, none⟩ = some (.string rq) := by simp [World.cell?, hD5, dArr]
  have d4 : w5.cell? ⟨w.heap.size, 4, none⟩ = some (.int .i64 0) := by simp [World.cell?, hD5, dArr]
  have hb5 : cb < w5.heap.size := (Array.getElem?_eq_some_iff.1 h5.row).1
  have lk1 := (h5.drew.hmap mb rfl).2.look_miss keyed3 Ybaf.underlying26 (zero45 _) hq hm false
  have lk2 := fun o => ((h5.alloc o).drew.hmap mb rfl).2.look_miss keyed3 Ybaf.underlying26 (zero45 _) hq hm false
  have h6 := (h5.alloc (.cells (dArr (to, rq)) 49)).drew
  obtain ⟨v', w6, a1, a2, a3, a4, a5⟩ := append49 (w := (w5.alloc (.cells (dArr (to, rq)) 49)).drew) (World.ownsRow_nil _ B 49 5) w5.heap.size (to, rq) (MapKept.heap_alloc w5 _).1 (by omega) h6.lt.2
  have hm6 := (h6.same a3).hmap mb rfl
  obtain ⟨w7, b1, b2, b3⟩ := hm6.2.store_new keyed3 Ybaf.underlying26 hq hm v'
  have hnew : v'.ownBlock = some (w5.alloc (.cells (dArr (to, rq)) 49)).drew.heap.size := by
    rcases a4 with e | e
    · exact absurd e (by
        rcases a2.2 with ⟨e2, _⟩ | ⟨g, cap, cur, rfl, _⟩
        · exact absurd e2 a5
        · simp [Value.ownBlock])
    · exact e
  obtain ⟨h8, k8⟩ := (h5.alloc (.cells (dArr (to, rq)) 49)).drew.pushNew (t := t) (d := (to, rq)) (by simpa using a2) a3 hnew b2 b3
  have s8 : Spare w G w7 (G ++ [(t, v', [(to, rq)])]) := by
    refine s5.trans ((Spare.alloc w5 (.cells (dArr (to, rq)) 49) G).trans ((Spare.drew _ G).trans fun D c hD hn => ?_))
    have hlt := (Array.getElem?_eq_some_iff.1 hD).1
    have hD6 := (a3.block D hlt (by simp [Value.ownBlock])).trans hD
    refine ⟨((grownBy_of_turned b3).block D (Array.getElem?_eq_some_iff.1 hD6).1 (fun e => ?_)).trans hD6, fun g hg => ?_⟩
    · obtain ⟨es, clock, hh, _⟩ := hm6.2
      rw [← Option.some.inj e, hD6] at hh
      cases hh
    · rcases List.mem_append.1 hg with hg | hg
      · exact hn g hg
      · rw [List.mem_singleton.1 hg, hnew]
        intro e
        have := Option.some.inj e
        omega
  have k8 := k5.trans (((Kept.alloc w5 _ B cb).trans (Kept.drew _ B cb)).trans k8)
  have hD6 : w6.heap[w.heap.size]? = some (.cells (dArr (to, rq)) 49 (0, 0)) := (a3.block w.heap.size (by show _ < (w5.alloc _).heap.size; simp; omega) (by simp [Value.ownBlock])).trans ((Below.heap_alloc w5 _ _ hw).trans hD5)
  have hg7 := grownBy_of_turned b3
  have hD7 : w7.heap[w.heap.size]? = some (.cells (dArr (to, rq)) 49 (0, 0)) := (hg7.block w.heap.size (Array.getElem?_eq_some_iff.1 hD6).1 (fun e => by
    obtain ⟨es, clock, hh, _⟩ := hm6.2
    cases e
    rw [hh] at hD6
    cases hD6)).trans hD6
  have kS := held_cells (h6.same a3).row hD6
  have kT := held_cells h8.row hD7
  unfold dArr at a1
  clear hD6 hD7 hg7 b2 b3 hm6 h6 a2 a3 a4 a5 h5 k5 hD5 h
  go_region_held3 (fun w' => w'.cell? ⟨cb, 2, none⟩ = some (.map (some mb)) ∧ w'.cell? ⟨w.heap.size, 0, none⟩ = some (.int .i64 (-1)) ∧ w'.cell? ⟨w.heap.size, 1, none⟩ = some (.int .i64 to) ∧ w'.cell? ⟨w.heap.size, 2, none⟩ = some (.pointer none) ∧ w'.cell? ⟨w.heap.size, 3, none⟩ = some (.string rq) ∧ w'.cell? ⟨w.heap.size, 4, none⟩ = some (.int .i64 0))
    (first
      | exact kS
      | exact kT
      | go_keep)
    ((refine step_append_run (by rfl) _ _ 45 45 (by rfl) (.slice none 0 0) _ (by rfl) (by rfl) a1 ?_))
  all_goals
    go_wp2
    go_end0
    exact ⟨rfl, _, _, h8, s8, k8⟩
set_option maxRecDepth 100000 in
set_option maxHeartbeats 1000000 in
/-- There is no map yet. -/
theorem add_first {w : World} {B cb : Nat} {nv dv : Value} {st : Int} {tv : Value} {ts : List Int} (h : Fly w B cb nv dv st tv ts none []) (t to : Int) (rq : ByteArray) (ht0 : 0 ≤ t) (ht1 : t ≤ 1000000) (hlen : ts.length ≤ 1000000) (hs : ts.Pairwise (· < ·)) :
    Calls Ybaf.prog 10 #[.pointer (some ⟨cb, 1, none⟩), .int .i64 t, .agg (dArr (to, rq))] w fun e w' => e = .returned (.tuple #[]) ∧ ∃ mb tv' v', Fly w' B cb nv dv st tv' (insAt ts (ts.countP (· < t)) t) (some mb) [(t, v', [(to, rq)])] ∧ Spare w [] w' [(t, v', [(to, rq)])] ∧ Kept w w' B cb := by
  have hr := h.row
  have hcb : cb < w.heap.size := (Array.getElem?_eq_some_iff.1 hr).1
  have hcb1 : cb < w.heap.size + 1 := by omega
  have c1 : w.cell? ⟨cb, 1, none⟩ = some tv := by simp [World.cell?, hr, clCells]
  have c2 : w.cell? ⟨cb, 2, none⟩ = some (.map none) := by simp [World.cell?, hr, clCells]
  have f2 : w.frozen? ⟨cb, 2, none⟩ = false := by simp [World.frozen?, hr]
  have hm : ∀ p ∈ encG [], p.1 ≠ .int .i64 t := by simp [encG]
  have qT : ∀ (w : World) (r : Option Nat), (binOp .eql 26 (.map r) (.map none)).run Ybaf.prog w = .ok (.bool r.isNone) w := fun w r => run_eql_map_nil w _ _ _ r Ybaf.underlying26
  have hq : keyOf Ybaf.prog 3 (.int .i64 t) = some (.int .i64 t) := keyOf_int_mk Ybaf.underlying3 (WalkArith.wf_i64 (by omega))
  have h1 := (h.alloc (.cells (dArr (to, rq)) 49)).setMap
  have hX : ((w.alloc (.cells (dArr (to, rq)) 49)).alloc (.map #[] 0)).setCell ⟨cb, 2, none⟩ (.map (some (w.alloc (.cells (dArr (to, rq)) 49)).heap.size)) = ((w.setCell ⟨cb, 2, none⟩ (.map (some (w.heap.size + 1)))).alloc (.cells (dArr (to, rq)) 49)).alloc (.map #[] 0) := by
    rw [World.setCell_alloc_past _ _ _ _ (by simp; omega), World.setCell_alloc_past _ _ _ _ hcb]
    simp
  have hs1 : (w.alloc (.cells (dArr (to, rq)) 49)).heap.size = w.heap.size + 1 := by simp
  rw [hX, hs1] at h1
  have k1 : Kept w (((w.setCell ⟨cb, 2, none⟩ (.map (some (w.heap.size + 1)))).alloc (.cells (dArr (to, rq)) 49)).alloc (.map #[] 0)) B cb :=
    (Kept.of_grown (grownBy_setCell w ⟨cb, 2, none⟩ _) (fun r hr => Or.inl (by cases hr; rfl))).trans ((Kept.alloc _ _ _ _).trans (Kept.alloc _ _ _ _))
  have hlk := (h1.hmap (w.heap.size + 1) rfl).2.look_miss keyed3 Ybaf.underlying26 (zero45 _) hq hm true
  have hmk : ∀ W, (Instr.makeMap 26 none).run Ybaf.prog W = .ok (.map (some W.heap.size)) (W.alloc (.map #[] 0)) := fun W => rfl
  have hcb2 : cb < w.heap.size + 2 := by omega
  unfold dArr at hlk
  clear hX hs1 
  have hcnt : ts.countP (· < t) ≤ ts.length := List.countP_le_length
  unfold dArr
  clear hr
  go_enter Ybaf.func10, Ybaf.ntmps10
  go_wp2_with fail
  refine (search_own h1.times t hlen hs).mono ?_
  rintro e w2 ⟨⟨fb, rfl⟩, q, hw2⟩
  have h2 := h1.drewN q
  have k2 := k1.trans (Kept.drewN _ q B cb)
  have hD : w2.heap[w.heap.size]? = some (.cells (dArr (to, rq)) 49 (0, 0)) := by
    rw [hw2]
    refine (Below.heap_alloc _ _ _ (by simp)).trans ?_
    have := (MapKept.heap_alloc (w.setCell ⟨cb, 2, none⟩ (.map (some (w.heap.size + 1)))) (.cells (dArr (to, rq)) 49)).1
    simpa using this
  have hz2 : w2.heap.size = w.heap.size + 2 := by
    rw [hw2]
    show (((w.setCell _ _).alloc _).alloc _).heap.size = _
    simp
  have s2 : Spare w [] w2 [] := by
    rw [hw2]
    exact (Spare.set h.row []).trans ((Spare.alloc _ _ []).trans ((Spare.alloc _ _ []).trans (Spare.drewN _ q [])))
  rw [← hw2] at h2 k2
  clear hw2 hlk c1 c2 h1
  have c1 : w2.cell? ⟨cb, 1, none⟩ = some tv := by simp [World.cell?, h2.row, clCells]
  go_wp2_with fail
  have h3 := h2.alloc (.cells #[.int .i64 t] 3)
  have k3 := k2.trans (Kept.alloc w2 (.cells #[.int .i64 t] 3) B cb)
  have hvb : ∀ g, tv.ownBlock = some g → w.heap.size + 2 ≠ g := fun g hg e => by
    have := (h2.times.lt g hg).2
    omega
  refine (insert_own h3.times _ hcnt t (w.heap.size + 2) (by rw [← hz2]; exact (MapKept.heap_alloc w2 _).1) hvb hlen h3.lt.2).mono ?_
  rintro e w4 ⟨tv', rfl, ho4, hg4, _⟩
  obtain ⟨gg, cc, rfl⟩ := own_some ho4 (by rw [insAt_length ts _ t hcnt]; omega)
  obtain ⟨h5, k5⟩ := h3.setTimes ho4 hg4
  have hr4 : w4.heap[cb]? = some (.cells (clCells nv tv (.map (some (w.heap.size + 1))) dv st) 43 (0, 0)) := (hg4.block cb (by have := h3.lt; omega) (fun e => by
      have := (h2.times.lt cb e.symm).1
      have := h2.lt.1
      omega)).trans h3.row
  have s5 := s2.trans ((Spare.alloc w2 (.cells #[.int .i64 t] 3) []).trans ((Spare.of_grown hg4 (fun r hr c e => by
      obtain ⟨_, c', h2⟩ := own_type h3.times hr
      rw [h2] at e
      simp at e) []).trans (Spare.set (i := 1) (v := .slice (some ⟨gg, 0, none⟩) (insAt ts (ts.countP (· < t)) t).length cc) hr4 [])))
  generalize (insAt ts (ts.countP (· < t)) t).length = nn at *
  have k5 := k3.trans k5
  have hD5 : (w4.setCell ⟨cb, 1, none⟩ (.slice (some ⟨gg, 0, none⟩) nn cc)).heap[w.heap.size]? = some (.cells (dArr (to, rq)) 49 (0, 0)) := by
    rw [Below.heap_setCell _ _ _ _ (by show _ ≠ cb; omega)]
    refine (hg4.block w.heap.size (by simp; omega) ?_).trans ((Below.heap_alloc w2 _ _ (by omega)).trans hD)
    intro e
    obtain ⟨_, c, hc⟩ := own_type h2.times e.symm
    rw [hD] at hc
    simp at hc
  have f1 : w4.frozen? ⟨cb, 1, none⟩ = false := by simp [World.frozen?, hr4]
  have x1 : (w4.cell? ⟨cb, 1, none⟩).isSome = true := by simp [World.cell?, hr4, clCells]
  obtain ⟨u1, hu1⟩ := Option.isSome_iff_exists.1 x1
  have hz5 : w2.heap.size + 1 ≤ (w4.setCell ⟨cb, 1, none⟩ (.slice (some ⟨gg, 0, none⟩) nn cc)).heap.size := Nat.le_trans (by simp) (Nat.le_trans hg4.size (grownBy_setCell _ _ _).size)
  have hw : w.heap.size < (w4.setCell ⟨cb, 1, none⟩ (.slice (some ⟨gg, 0, none⟩) nn cc)).heap.size := by omega
  clear hr4 x1 c1 hD hz2 hz5 ho4 hg4 h3 h2 k2 k3
  go_wp2_with fail
  clear f1 hu1
  generalize w4.setCell ⟨cb, 1, none⟩ (.slice (some ⟨gg, 0, none⟩) nn cc) = w5 at *
  have c2 : w5.cell? ⟨cb, 2, none⟩ = some (.map (some (w.heap.size + 1))) := by simp [World.cell?, h5.row, clCells]
  have d0 : w5.cell? ⟨w.heap.size, 0, none⟩ = some (.int .i64 (-1)) := by simp [World.cell?, hD5, dArr]
  have d1 : w5.cell? ⟨w.heap.size, 1, none⟩ = some (.int .i64 to) := by simp [World.cell?, hD5, dArr]
  have d2 : w5.cell? ⟨w.heap.size, 2, none⟩ = some (.pointer none) := by simp [World.cell?, hD5, dArr]
  have d3 : w5.cell? ⟨w.heap.size, 3, none⟩ = some (.string rq) := by simp [World.cell?, hD5, dArr]
  have d4 : w5.cell? ⟨w.heap.size, 4, none⟩ = some (.int .i64 0) := by simp [World.cell?, hD5, dArr]
  have hb5 : cb < w5.heap.size := (Array.getElem?_eq_some_iff.1 h5.row).1
  have lk1 := (h5.drew.hmap (w.heap.size + 1) rfl).2.look_miss keyed3 Ybaf.underlying26 (zero45 _) hq hm false
  have lk2 := fun o => ((h5.alloc o).drew.hmap (w.heap.size + 1) rfl).2.look_miss keyed3 Ybaf.underlying26 (zero45 _) hq hm false
  have h6 := (h5.alloc (.cells (dArr (to, rq)) 49)).drew
  obtain ⟨v', w6, a1, a2, a3, a4, a5⟩ := append49 (w := (w5.alloc (.cells (dArr (to, rq)) 49)).drew) (World.ownsRow_nil _ B 49 5) w5.heap.size (to, rq) (MapKept.heap_alloc w5 _).1 (by omega) h6.lt.2
  have hm6 := (h6.same a3).hmap (w.heap.size + 1) rfl
  obtain ⟨w7, b1, b2, b3⟩ := hm6.2.store_new keyed3 Ybaf.underlying26 hq hm v'
  have hnew : v'.ownBlock = some (w5.alloc (.cells (dArr (to, rq)) 49)).drew.heap.size := by
    rcases a4 with e | e
    · exact absurd e (by
        rcases a2.2 with ⟨e2, _⟩ | ⟨g, cap, cur, rfl, _⟩
        · exact absurd e2 a5
        · simp [Value.ownBlock])
    · exact e
  obtain ⟨h8, k8⟩ := (h5.alloc (.cells (dArr (to, rq)) 49)).drew.pushNew (t := t) (d := (to, rq)) (by simpa using a2) a3 hnew b2 b3
  have s8 : Spare w [] w7 ([] ++ [(t, v', [(to, rq)])]) := by
    refine s5.trans ((Spare.alloc w5 (.cells (dArr (to, rq)) 49) []).trans ((Spare.drew _ []).trans fun D c hD hn => ?_))
    have hlt := (Array.getElem?_eq_some_iff.1 hD).1
    have hD6 := (a3.block D hlt (by simp [Value.ownBlock])).trans hD
    refine ⟨((grownBy_of_turned b3).block D (Array.getElem?_eq_some_iff.1 hD6).1 (fun e => ?_)).trans hD6, fun g hg => ?_⟩
    · obtain ⟨es, clock, hh, _⟩ := hm6.2
      rw [← Option.some.inj e, hD6] at hh
      cases hh
    · rcases List.mem_append.1 hg with hg | hg
      · exact hn g hg
      · rw [List.mem_singleton.1 hg, hnew]
        intro e
        have := Option.some.inj e
        omega
  have k8 := k5.trans (((Kept.alloc w5 _ B cb).trans (Kept.drew _ B cb)).trans k8)
  have hD6 : w6.heap[w.heap.size]? = some (.cells (dArr (to, rq)) 49 (0, 0)) := (a3.block w.heap.size (by show _ < (w5.alloc _).heap.size; simp; omega) (by simp [Value.ownBlock])).trans ((Below.heap_alloc w5 _ _ hw).trans hD5)
  have hg7 := grownBy_of_turned b3
  have hD7 : w7.heap[w.heap.size]? = some (.cells (dArr (to, rq)) 49 (0, 0)) := (hg7.block w.heap.size (Array.getElem?_eq_some_iff.1 hD6).1 (by simp)).trans hD6
  have kS := held_cells (h6.same a3).row hD6
  have kT := held_cells h8.row hD7
  unfold dArr at a1
  clear hD6 hD7 hg7 b2 b3 hm6 h6 a2 a3 a4 a5 h5 k5 hD5 h
  go_region_held3 (fun w' => w'.cell? ⟨cb, 2, none⟩ = some (.map (some (w.heap.size + 1))) ∧ w'.cell? ⟨w.heap.size, 0, none⟩ = some (.int .i64 (-1)) ∧ w'.cell? ⟨w.heap.size, 1, none⟩ = some (.int .i64 to) ∧ w'.cell? ⟨w.heap.size, 2, none⟩ = some (.pointer none) ∧ w'.cell? ⟨w.heap.size, 3, none⟩ = some (.string rq) ∧ w'.cell? ⟨w.heap.size, 4, none⟩ = some (.int .i64 0))
    (first
      | exact kS
      | exact kT
      | go_keep)
    ((refine step_append_run (by rfl) _ _ 45 45 (by rfl) (.slice none 0 0) _ (by rfl) (by rfl) a1 ?_))
  all_goals
    go_wp2
    go_end0
    exact ⟨rfl, _, _, _, h8, s8, k8⟩

/-- One more delivery at time t. -/
def push (t : Int) (d : Del) : List (Int × List Del) → List (Int × List Del)
  | [] => [(t, [d])]
  | (u, ds) :: r => if u = t then (u, ds ++ [d]) :: r else (u, ds) :: push t d r
def bare (G : List Ent) : List (Int × List Del) := G.map fun g => (g.1, g.2.2)
def addTime (ts : List Int) (t : Int) : List Int := if t ∈ ts then ts else insAt ts (ts.countP (· < t)) t

theorem push_new (t : Int) (d : Del) : ∀ (g : List (Int × List Del)), (∀ p ∈ g, p.1 ≠ t) → push t d g = g ++ [(t, [d])]
  | [], _ => rfl
  | (u, ds) :: r, h => by
    have h1 := h (u, ds) (by simp)
    simp only at h1
    simp [push, h1, push_new t d r (fun p hp => h p (by simp [hp]))]
theorem push_old (t : Int) (d : Del) (ds : List Del) (g2 : List (Int × List Del)) : ∀ (g1 : List (Int × List Del)), (∀ p ∈ g1, p.1 ≠ t) → push t d (g1 ++ (t, ds) :: g2) = g1 ++ (t, ds ++ [d]) :: g2
  | [], _ => by simp [push]
  | (u, es) :: r, h => by
    have h1 := h (u, es) (by simp)
    simp only at h1
    simp [push, h1, push_old t d ds g2 r (fun p hp => h p (by simp [hp]))]

/-- add's contract. -/
theorem add_any {w : World} {B cb : Nat} {nv dv : Value} {st : Int} {tv : Value} {ts : List Int} {av : Option Nat} {G : List Ent} (h : Fly w B cb nv dv st tv ts av G) (t to : Int) (rq : ByteArray) (ht0 : 0 ≤ t) (ht1 : t ≤ 1000000) (hsync : ∀ u, u ∈ ts ↔ u ∈ (bare G).map (·.1)) (hlen : ts.length ≤ 1000000) (hrows : ∀ g ∈ bare G, g.2.length ≤ 1000000) (hs : ts.Pairwise (· < ·)) :
    Calls Ybaf.prog 10 #[.pointer (some ⟨cb, 1, none⟩), .int .i64 t, .agg (dArr (to, rq))] w fun e w' => e = .returned (.tuple #[]) ∧ ∃ tv' av' G', Fly w' B cb nv dv st tv' (addTime ts t) av' G' ∧ bare G' = push t (to, rq) (bare G) ∧ Spare w G w' G' ∧ Kept w w' B cb := by
  have hmem : t ∈ (bare G).map (·.1) ↔ ∃ g ∈ G, g.1 = t := by simp [bare]
  by_cases hin : ∃ g ∈ G, g.1 = t
  · obtain ⟨⟨t', v, ds⟩, hg, rfl⟩ := hin
    have htt : t' ∈ ts := (hsync t').2 (hmem.2 ⟨_, hg, rfl⟩)
    obtain ⟨G1, G2, rfl⟩ := List.append_of_mem hg
    cases av with
    | none => exact absurd (h.hnone rfl) (by simp)
    | some mb =>
      obtain ⟨hmb, hmap⟩ := h.hmap mb rfl
      have henc : encG (G1 ++ (t', v, ds) :: G2) = encG G1 ++ (.int .i64 t', v) :: encG G2 := by simp [encG]
      have hhit : (Value.int .i64 t', v) ∈ encG (G1 ++ (t', v, ds) :: G2) := by rw [henc]; simp
      have hdist : ∀ p ∈ bare G1, p.1 ≠ t' := by
        have := hmap.apart
        rw [henc, List.pairwise_append] at this
        intro p hp
        obtain ⟨g, hg1, rfl⟩ := List.mem_map.1 hp
        intro e
        refine this.2.2 (.int .i64 g.1, g.2.1) (List.mem_map.2 ⟨g, hg1, rfl⟩) (.int .i64 t', v) (by simp) ?_
        simpa using e
      have hv := (h.vals (t', v, ds) (by simp)).1
      have hdl : ds.length ≤ 1000000 := hrows (t', ds) (List.mem_map.2 ⟨(t', v, ds), hg, rfl⟩)
      simp only at hv
      have h1 := ((h.alloc (.cells (dArr (to, rq)) 49)).alloc (.cells (dArr (to, rq)) 49)).drew
      have hv1 := (h1.vals (t', v, ds) (by simp)).1
      simp only at hv1
      obtain ⟨v', w2, a1, a2, a3, a4, a5⟩ := append49 hv1 (w.heap.size + 1) (to, rq) (by
        have := (MapKept.heap_alloc (w.alloc (.cells (dArr (to, rq)) 49)) (.cells (dArr (to, rq)) 49)).1
        rw [show (w.alloc (.cells (dArr (to, rq)) 49)).heap.size = w.heap.size + 1 from by simp] at this
        exact this) hdl h1.lt.2
      have hD1 : (((w.alloc (.cells (dArr (to, rq)) 49)).alloc (.cells (dArr (to, rq)) 49)).drew).heap[w.heap.size]? = some (.cells (dArr (to, rq)) 49 (0, 0)) := (Below.heap_alloc _ _ _ (by simp)).trans (MapKept.heap_alloc w _).1
      have hnD : some w.heap.size ≠ v.ownBlock := fun e => by
        have := (hv.lt _ e.symm).2
        omega
      have hm1 := (h1.hmap mb rfl).2
      have hm2 := hm1.kept a3 (fun e => map_ne hv1 hm1 e.symm)
      rw [henc] at hm2
      obtain ⟨w3, b1, b2, b3⟩ := hm2.store_old keyed3 Ybaf.underlying26 v'
      obtain ⟨h3, k3⟩ := h1.pushOld (d := (to, rq)) a2 a3 a4 b2 b3
      have hD2 := (a3.block w.heap.size (by show _ < ((w.alloc _).alloc _).heap.size; simp; omega) hnD).trans hD1
      have hD3 := ((grownBy_of_turned b3).block w.heap.size (Array.getElem?_eq_some_iff.1 hD2).1 (fun e => by
        have h1 := hm2.lt
        obtain ⟨es, clock, hh, _⟩ := hm2
        cases e
        rw [hh] at hD2
        cases hD2)).trans hD2
      have hr2 : w2.heap[cb]? = some (.cells (clCells nv tv (.map (some mb)) dv st) 43 (0, 0)) := (a3.block cb (Array.getElem?_eq_some_iff.1 h1.row).1 (fun e => by
        have := (hv.lt _ e.symm).1
        have := h.lt.1
        omega)).trans h1.row
      have kS := held_cells hr2 hD2
      have kT := held_cells h3.row hD3
      have s3 : Spare w (G1 ++ (t', v, ds) :: G2) w3 (G1 ++ (t', v', ds ++ [(to, rq)]) :: G2) := by
        refine (Spare.alloc w (.cells (dArr (to, rq)) 49) _).trans ((Spare.alloc _ (.cells (dArr (to, rq)) 49) _).trans ((Spare.drew _ _).trans fun D c hD hn => ?_))
        have hlt := (Array.getElem?_eq_some_iff.1 hD).1
        have hnv : v.ownBlock ≠ some D := hn (t', v, ds) (by simp)
        have hD6 := (a3.block D hlt (fun e => hnv e.symm)).trans hD
        refine ⟨((grownBy_of_turned b3).block D (Array.getElem?_eq_some_iff.1 hD6).1 (fun e => ?_)).trans hD6, fun g hg => ?_⟩
        · obtain ⟨es, clock, hh, _⟩ := hm2
          rw [← Option.some.inj e, hD6] at hh
          cases hh
        · rcases List.mem_append.1 hg with hg | hg
          · exact hn g (by simp [hg])
          · rcases List.mem_cons.1 hg with rfl | hg
            · rcases a4 with e | e
              · simp only
                rw [e]
                exact hnv
              · simp only
                rw [e]
                intro e
                have := Option.some.inj e
                omega
            · exact hn g (by simp [hg])
      refine (add_old (to := to) (rq := rq) h.row (fun o => ((h.alloc o).hmap mb rfl).2.look_hit keyed3 Ybaf.underlying26 hhit true) (fun o => ((h.alloc o).drew.hmap mb rfl).2.look_hit keyed3 Ybaf.underlying26 hhit false) (fun o o2 => (((h.alloc o).alloc o2).drew.hmap mb rfl).2.look_hit keyed3 Ybaf.underlying26 hhit false) a1 kS kT b1).mono ?_
      rintro e w' ⟨rfl, rfl⟩
      refine ⟨rfl, tv, some mb, _, by rw [addTime, if_pos htt]; exact h3, ?_, s3, ((Kept.alloc w _ B cb).trans ((Kept.alloc _ _ B cb).trans (Kept.drew _ B cb))).trans k3⟩
      have := push_old t' (to, rq) ds (bare G2) (bare G1) hdist
      simpa [bare] using this.symm
  · have hnt : t ∉ ts := fun e => hin (hmem.1 ((hsync t).1 e))
    have hne : ∀ p ∈ bare G, p.1 ≠ t := by
      intro p hp e
      obtain ⟨g, hg, rfl⟩ := List.mem_map.1 hp
      exact hin ⟨g, hg, e⟩
    have hne' : ∀ p ∈ encG G, p.1 ≠ .int .i64 t := by
      intro p hp e
      obtain ⟨g, hg, rfl⟩ := List.mem_map.1 hp
      exact hin ⟨g, hg, by simpa using e⟩
    cases av with
    | none =>
      have hG := h.hnone rfl
      subst hG
      refine (add_first h t to rq ht0 ht1 hlen hs).mono ?_
      rintro e w' ⟨rfl, mb, tv', v', h1, s1, k1⟩
      exact ⟨rfl, tv', some mb, _, by rw [addTime, if_neg hnt]; exact h1, rfl, s1, k1⟩
    | some mb =>
      refine (add_new h t to rq ht0 ht1 hne' hlen hs).mono ?_
      rintro e w' ⟨rfl, tv', v', h1, s1, k1⟩
      refine ⟨rfl, tv', some mb, _, by rw [addTime, if_neg hnt]; exact h1, ?_, s1, k1⟩
      rw [push_new _ _ _ hne]
      simp [bare]

end Go.Proofs.YbulkaihcFmt
