/-
  The walk of 'LawS1705AOnce' (function 4). By the prover of seat 061 (an AI agent).
-/
import Derived.Test.YbulkaihcKeep
namespace Go.Proofs.Ybulkaihc
open Go Go.MapKept Go.Maps Go.ChangeMaps Go.RowKit

theorem made1 (k : SK) (s : SV) (hk : k.good) (w : World) (b : Nat) (hb : w.heap.size = b) :
    ∃ w3, (Instr.mapUpdate 24 (.map (some b)) (.agg #[.int .i64 k.1, .string k.2]) (.agg #[.int .i64 s.1, .int .i64 s.2])).run Yba.prog (w.alloc (.map #[] 0)) = .ok () w3 ∧ MapIs Yba.prog 49 w3 b (encL [(k, s)]) ∧ (w.alloc (.map #[] 0)).mapTurned w3 b := by
  subst hb
  exact (mapIs_made w Yba.prog 49).store_new keyed49 Yba.underlying24 (key_of k hk).choose_spec (by simp) (vv s)

theorem old_cell {w3 w4 : World} {O : Obj} {mb : Nat} {a : Addr} {v : Value} (hg : (w3.alloc O).grownBy w4 (some mb)) (h : w3.cell? a = some v) (hne : a.block ≠ mb) : w4.cell? a = some v := by
  refine hg.cell ?_ (by simpa using hne)
  rw [World.cell?_of_block (w := w3) (Below.heap_alloc w3 O a.block (World.block_lt_of_cell? _ _ h))]
  exact h

theorem keepL_old {L : List (SK × SV)} (k : SK) (s : SV) {p : SK × SV} (h : p ∈ L) : p ∈ keepL L k s := by
  unfold keepL
  split
  · exact h
  · exact List.mem_append_left _ h

theorem keys_ne {a b : Int} {x y : ByteArray} (h : ¬ (a, x) = (b, y)) : (b == a) = false ∨ (b = a ∧ (y.toList == x.toList) = false) := by
  by_cases h1 : b = a
  · refine Or.inr ⟨h1, ?_⟩
    rw [← beq_toListBytes]
    refine Bool.eq_false_iff.2 fun e => h ?_
    rw [(MapKept.bytes_beq _ _).1 e, h1]
  · exact Or.inl (beq_eq_false_iff_ne.2 h1)

/-- What the first blocks hold. -/
theorem first_cells (w w3 : World) (x0 x1 y0 y1 : Value) (h : (((w.alloc (.cells #[x0, x1] 49)).alloc (.cells #[y0, y1] 46)).alloc (.map #[] 0)).mapTurned w3 (w.heap.size + 1 + 1)) :
    w3.cell? ⟨w.heap.size, 0, none⟩ = some x0 ∧ w3.cell? ⟨w.heap.size, 1, none⟩ = some x1 ∧ w3.cell? ⟨w.heap.size + 1, 0, none⟩ = some y0 ∧ w3.cell? ⟨w.heap.size + 1, 1, none⟩ = some y1 ∧ Below w.heap.size w w3 := by
  have hg := grownBy_of_turned h
  refine ⟨hg.cell ?_ (by simp; omega), hg.cell ?_ (by simp; omega), hg.cell ?_ (by simp), hg.cell ?_ (by simp), ?_⟩
  · rw [World.cell?_alloc_past _ _ _ (by simp <;> omega), World.cell?_alloc_past _ _ _ (by simp <;> omega), World.cell?_alloc_at _ _ _ _ rfl]; rfl
  · rw [World.cell?_alloc_past _ _ _ (by simp <;> omega), World.cell?_alloc_past _ _ _ (by simp <;> omega), World.cell?_alloc_at _ _ _ _ rfl]; rfl
  · rw [World.cell?_alloc_past _ _ _ (by simp <;> omega), World.cell?_alloc_at _ _ _ _ (by simp)]; rfl
  · rw [World.cell?_alloc_past _ _ _ (by simp <;> omega), World.cell?_alloc_at _ _ _ _ (by simp)]; rfl
  · exact ((((Below.refl _ _).alloc (Nat.le_refl _) _).alloc (by simp) _).alloc (by simp; omega) _).grown hg (by simp; omega) (fun k hk => by cases hk; omega)

set_option maxRecDepth 100000 in
set_option maxHeartbeats 800000 in
theorem once_short (a0 : Int) (a1 : ByteArray) (a3 a4 a5 : Int) (a6 : ByteArray) (a7 a8 : Int) (hk : SK.good (a0, a1)) (hpk : SK.good (a5, a6)) (w : World) :
    Calls Yba.prog 4 #[.int .i64 a0, .string a1, .bool false, .int .i64 a3, .int .i64 a4, .int .i64 a5, .string a6, .int .i64 a7, .int .i64 a8] w fun e w' => e = .returned (.bool true) ∧ Below w.heap.size w w' := by
  have hmm := @run_makeMap Yba.prog
  obtain ⟨w3, hrun3, hm3, ht3⟩ := made1 (a5, a6) (a7, a8) hpk (w.alloc (.cells #[.int .i64 a5, .string a6] 49) |>.alloc (.cells #[.int .i64 a7, .int .i64 a8] 46)) (w.heap.size + 1 + 1) (by simp)
  have hz3 : w3.heap.size = w.heap.size + 3 := by rw [turned_size ht3]; simp
  obtain ⟨c0, c1, c2, c3, hb3⟩ := first_cells _ _ _ _ _ _ ht3
  clear ht3
  go_enter Yba.func4, Yba.ntmps4
  go_wp2_with fail
  refine (keep_any (a0, a1) (a3, a4) hk (w.heap.size + 3) (w.heap.size + 1 + 1) [((a5, a6), (a7, a8))] _ ?_ (hm3.alloc _)).mono ?_
  · rw [World.cell?_alloc_at _ _ _ _ hz3.symm]; rfl
  rintro e w4 ⟨rfl, hm4, hg4⟩
  have d0 := old_cell hg4 c0 (by simp; omega)
  have d1 := old_cell hg4 c1 (by simp; omega)
  have d2 := old_cell hg4 c2 (by simp)
  have d3 := old_cell hg4 c3 (by simp)
  have dj : w4.cell? ⟨w.heap.size + 3, 49, none⟩ = some (.map (some (w.heap.size + 1 + 1))) := by
    refine hg4.cell ?_ (by simp)
    rw [World.cell?_alloc_at _ _ _ _ hz3.symm]; rfl
  have hz4 : w.heap.size + 4 ≤ w4.heap.size := by have := hg4.size; simp [hz3] at this; omega
  have hb4 : Below w.heap.size w w4 := (hb3.alloc (by omega) _).grown hg4 (by simp; omega) (fun k hk => by cases hk; omega)
  clear hg4 hm3 hrun3 hz3 hb3 c0 c1 c2 c3 hmm
  have e0 : w.heap.size < w4.heap.size := by omega
  have e1 : w.heap.size + 1 < w4.heap.size := by omega
  have e3 : w.heap.size + 3 < w4.heap.size := by omega
  have f0 : w.heap.size < w4.heap.size + 1 := by omega
  have f1 : w.heap.size + 1 < w4.heap.size + 1 := by omega
  have f3 : w.heap.size + 3 < w4.heap.size + 1 := by omega
  have g0 : w.heap.size < w4.heap.size + 2 := by omega
  have g1 : w.heap.size + 1 < w4.heap.size + 2 := by omega
  have g3 : w.heap.size + 3 < w4.heap.size + 2 := by omega
  have hl0 := hm4.drew.look_hit keyed49 Yba.underlying24 (mem_encL (keepL_old (a0, a1) (a3, a4) (List.mem_singleton.2 rfl))) true
  have hl1 := fun o => (hm4.alloc o).drew.look_hit keyed49 Yba.underlying24 (mem_encL (keepL_old (a0, a1) (a3, a4) (List.mem_singleton.2 rfl))) true
  simp only [kv, vv, if_true] at hl0 hl1
  by_cases hsk : (a5, a6) = (a0, a1) ∨ a1.size < 32 ∨ a4 = 0
  · have hL : keepL [((a5, a6), (a7, a8))] (a0, a1) (a3, a4) = [((a5, a6), (a7, a8))] := by
      unfold keepL
      rw [if_pos]
      rcases hsk with h | h
      · exact Or.inl ⟨_, List.mem_singleton.2 rfl, h⟩
      · exact Or.inr h
    rw [hL] at hm4
    clear hL
    have hn := fun o1 o2 => ((hm4.alloc o1).alloc o2).drew.len Yba.underlying24 3
    have hone : ((encL [((a5, a6), a7, a8)]).length : Int) = 1 := rfl
    simp only [hone] at hn
    clear hone
    by_cases h0 : (a5, a6) = (a0, a1)
    · obtain ⟨rfl, rfl⟩ := Prod.mk.inj h0
      clear hsk h0
      go_wp2
      go_region
      go_wp2
      go_ret
      exact ⟨rfl, hb4.drew.alloc (by simp; omega) _ |>.alloc (by simp; omega) _⟩
    · have hno : a1.size < 32 ∨ a4 = 0 := by
        rcases hsk with h | h
        · exact absurd h h0
        · exact h
      have hsz := hk.2
      unfold maxLen at hsz
      simp only at hsz
      clear hsk
      rcases keys_ne h0 with hne | ⟨rfl, hne⟩
      all_goals
        clear h0
        by_cases hlt : (a1.size : Int) < 32
        · clear hno
          go_wp2
          go_region
          go_wp2
          go_ret
          exact ⟨rfl, hb4.drew.alloc (by simp; omega) _ |>.alloc (by simp; omega) _⟩
        · have h4 : a4 = 0 := by omega
          subst h4
          clear hno
          go_wp2
          go_region
          go_wp2
          go_ret
          exact ⟨rfl, hb4.drew.alloc (by simp; omega) _ |>.alloc (by simp; omega) _⟩
  · have hL : keepL [((a5, a6), (a7, a8))] (a0, a1) (a3, a4) = [((a5, a6), (a7, a8)), ((a0, a1), (a3, a4))] := by
      unfold keepL
      rw [if_neg]
      · rfl
      · intro h
        apply hsk
        rcases h with ⟨p, hp, h⟩ | h
        · rw [List.mem_singleton.1 hp] at h
          exact Or.inl h
        · exact Or.inr h
    rw [hL] at hm4
    clear hL
    have hn := fun o1 o2 o3 => (((hm4.alloc o1).alloc o2).alloc o3).drew.drew.len Yba.underlying24 3
    have hone : ((encL [((a5, a6), a7, a8), ((a0, a1), (a3, a4))]).length : Int) = 2 := rfl
    simp only [hone] at hn
    clear hone
    have hlt : 32 ≤ (a1.size : Int) := by
      have : ¬ a1.size < 32 := fun h => hsk (Or.inr (Or.inl h))
      omega
    have h4 : (a4 == 0) = false := beq_eq_false_iff_ne.2 (fun h => hsk (Or.inr (Or.inr h)))
    have h0 : ¬ (a5, a6) = (a0, a1) := fun h => hsk (Or.inl h)
    have hsz := hk.2
    unfold maxLen at hsz
    simp only at hsz
    clear hsk
    have hk2 := fun o1 o2 => ((hm4.alloc o1).alloc o2).drew.drew.look_hit keyed49 Yba.underlying24 (mem_encL (k := (a0, a1)) (s := (a3, a4)) (by simp)) true
    have hk3 := fun o1 o2 o3 => (((hm4.alloc o1).alloc o2).alloc o3).drew.drew.look_hit keyed49 Yba.underlying24 (mem_encL (k := (a0, a1)) (s := (a3, a4)) (by simp)) true
    simp only [kv, vv, if_true] at hk2 hk3
    rcases keys_ne h0 with hne | ⟨rfl, hne⟩
    all_goals
      clear h0
      go_wp2
      go_region
      go_wp2
      go_region
      go_wp2
      go_ret
      exact ⟨rfl, hb4.drew.alloc (by simp; omega) _ |>.alloc (by simp; omega) _ |>.drew.alloc (by simp; omega) _⟩
/-- The law's own 32 bytes. -/
def pad : ByteArray := { data := #[48, 49, 50, 51, 52, 53, 54, 55, 56, 57, 97, 98, 99, 100, 101, 102, 48, 49, 50, 51, 52, 53, 54, 55, 56, 57, 97, 98, 99, 100, 101, 102] }

set_option maxRecDepth 100000 in
set_option maxHeartbeats 800000 in
theorem once_long (a0 : Int) (b1 a1 : ByteArray) (a3 a4 a5 : Int) (a6 : ByteArray) (a7 a8 : Int) (hk : SK.good (a0, a1)) (hpk : SK.good (a5, a6)) (w : World)
    (hcat : ∀ w, (Op.stringOp .add b1 pad).run Yba.prog w = .ok (.string a1) w) :
    Calls Yba.prog 4 #[.int .i64 a0, .string b1, .bool true, .int .i64 a3, .int .i64 a4, .int .i64 a5, .string a6, .int .i64 a7, .int .i64 a8] w fun e w' => e = .returned (.bool true) ∧ Below w.heap.size w w' := by
  have hmm := @run_makeMap Yba.prog
  simp only [pad] at hcat
  obtain ⟨w3, hrun3, hm3, ht3⟩ := made1 (a5, a6) (a7, a8) hpk (w.alloc (.cells #[.int .i64 a5, .string a6] 49) |>.alloc (.cells #[.int .i64 a7, .int .i64 a8] 46)) (w.heap.size + 1 + 1) (by simp)
  have hz3 : w3.heap.size = w.heap.size + 3 := by rw [turned_size ht3]; simp
  obtain ⟨c0, c1, c2, c3, hb3⟩ := first_cells _ _ _ _ _ _ ht3
  clear ht3
  go_enter Yba.func4, Yba.ntmps4
  go_wp2_with fail
  refine (keep_any (a0, a1) (a3, a4) hk (w.heap.size + 3) (w.heap.size + 1 + 1) [((a5, a6), (a7, a8))] _ ?_ (hm3.alloc _)).mono ?_
  · rw [World.cell?_alloc_at _ _ _ _ hz3.symm]; rfl
  rintro e w4 ⟨rfl, hm4, hg4⟩
  have d0 := old_cell hg4 c0 (by simp; omega)
  have d1 := old_cell hg4 c1 (by simp; omega)
  have d2 := old_cell hg4 c2 (by simp)
  have d3 := old_cell hg4 c3 (by simp)
  have dj : w4.cell? ⟨w.heap.size + 3, 49, none⟩ = some (.map (some (w.heap.size + 1 + 1))) := by
    refine hg4.cell ?_ (by simp)
    rw [World.cell?_alloc_at _ _ _ _ hz3.symm]; rfl
  have hz4 : w.heap.size + 4 ≤ w4.heap.size := by have := hg4.size; simp [hz3] at this; omega
  have hb4 : Below w.heap.size w w4 := (hb3.alloc (by omega) _).grown hg4 (by simp; omega) (fun k hk => by cases hk; omega)
  clear hg4 hm3 hrun3 hz3 hb3 c0 c1 c2 c3 hmm
  have e0 : w.heap.size < w4.heap.size := by omega
  have e1 : w.heap.size + 1 < w4.heap.size := by omega
  have e3 : w.heap.size + 3 < w4.heap.size := by omega
  have f0 : w.heap.size < w4.heap.size + 1 := by omega
  have f1 : w.heap.size + 1 < w4.heap.size + 1 := by omega
  have f3 : w.heap.size + 3 < w4.heap.size + 1 := by omega
  have g0 : w.heap.size < w4.heap.size + 2 := by omega
  have g1 : w.heap.size + 1 < w4.heap.size + 2 := by omega
  have g3 : w.heap.size + 3 < w4.heap.size + 2 := by omega
  have hl0 := hm4.drew.look_hit keyed49 Yba.underlying24 (mem_encL (keepL_old (a0, a1) (a3, a4) (List.mem_singleton.2 rfl))) true
  have hl1 := fun o => (hm4.alloc o).drew.look_hit keyed49 Yba.underlying24 (mem_encL (keepL_old (a0, a1) (a3, a4) (List.mem_singleton.2 rfl))) true
  simp only [kv, vv, if_true] at hl0 hl1
  by_cases hsk : (a5, a6) = (a0, a1) ∨ a1.size < 32 ∨ a4 = 0
  · have hL : keepL [((a5, a6), (a7, a8))] (a0, a1) (a3, a4) = [((a5, a6), (a7, a8))] := by
      unfold keepL
      rw [if_pos]
      rcases hsk with h | h
      · exact Or.inl ⟨_, List.mem_singleton.2 rfl, h⟩
      · exact Or.inr h
    rw [hL] at hm4
    clear hL
    have hn := fun o1 o2 => ((hm4.alloc o1).alloc o2).drew.len Yba.underlying24 3
    have hone : ((encL [((a5, a6), a7, a8)]).length : Int) = 1 := rfl
    simp only [hone] at hn
    clear hone
    by_cases h0 : (a5, a6) = (a0, a1)
    · obtain ⟨rfl, rfl⟩ := Prod.mk.inj h0
      clear hsk h0
      go_wp2
      go_region
      go_wp2
      go_ret
      exact ⟨rfl, hb4.drew.alloc (by simp; omega) _ |>.alloc (by simp; omega) _⟩
    · have hno : a1.size < 32 ∨ a4 = 0 := by
        rcases hsk with h | h
        · exact absurd h h0
        · exact h
      have hsz := hk.2
      unfold maxLen at hsz
      simp only at hsz
      clear hsk
      rcases keys_ne h0 with hne | ⟨rfl, hne⟩
      all_goals
        clear h0
        by_cases hlt : (a1.size : Int) < 32
        · clear hno
          go_wp2
          go_region
          go_wp2
          go_ret
          exact ⟨rfl, hb4.drew.alloc (by simp; omega) _ |>.alloc (by simp; omega) _⟩
        · have h4 : a4 = 0 := by omega
          subst h4
          clear hno
          go_wp2
          go_region
          go_wp2
          go_ret
          exact ⟨rfl, hb4.drew.alloc (by simp; omega) _ |>.alloc (by simp; omega) _⟩
  · have hL : keepL [((a5, a6), (a7, a8))] (a0, a1) (a3, a4) = [((a5, a6), (a7, a8)), ((a0, a1), (a3, a4))] := by
      unfold keepL
      rw [if_neg]
      · rfl
      · intro h
        apply hsk
        rcases h with ⟨p, hp, h⟩ | h
        · rw [List.mem_singleton.1 hp] at h
          exact Or.inl h
        · exact Or.inr h
    rw [hL] at hm4
    clear hL
    have hn := fun o1 o2 o3 => (((hm4.alloc o1).alloc o2).alloc o3).drew.drew.len Yba.underlying24 3
    have hone : ((encL [((a5, a6), a7, a8), ((a0, a1), (a3, a4))]).length : Int) = 2 := rfl
    simp only [hone] at hn
    clear hone
    have hlt : 32 ≤ (a1.size : Int) := by
      have : ¬ a1.size < 32 := fun h => hsk (Or.inr (Or.inl h))
      omega
    have h4 : (a4 == 0) = false := beq_eq_false_iff_ne.2 (fun h => hsk (Or.inr (Or.inr h)))
    have h0 : ¬ (a5, a6) = (a0, a1) := fun h => hsk (Or.inl h)
    have hsz := hk.2
    unfold maxLen at hsz
    simp only at hsz
    clear hsk
    have hk2 := fun o1 o2 => ((hm4.alloc o1).alloc o2).drew.drew.look_hit keyed49 Yba.underlying24 (mem_encL (k := (a0, a1)) (s := (a3, a4)) (by simp)) true
    have hk3 := fun o1 o2 o3 => (((hm4.alloc o1).alloc o2).alloc o3).drew.drew.look_hit keyed49 Yba.underlying24 (mem_encL (k := (a0, a1)) (s := (a3, a4)) (by simp)) true
    simp only [kv, vv, if_true] at hk2 hk3
    rcases keys_ne h0 with hne | ⟨rfl, hne⟩
    all_goals
      clear h0
      go_wp2
      go_region
      go_wp2
      go_region
      go_wp2
      go_ret
      exact ⟨rfl, hb4.drew.alloc (by simp; omega) _ |>.alloc (by simp; omega) _ |>.drew.alloc (by simp; omega) _⟩
end Go.Proofs.Ybulkaihc
