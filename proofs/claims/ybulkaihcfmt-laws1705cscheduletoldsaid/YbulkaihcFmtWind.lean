/-
  The delay of 'LawS1705CSchedule' (function 6, the closure): its contract. By the prover of seat 061 (an AI agent).
-/
import Derived.Test.YbulkaihcFmtCarry
namespace Go.Proofs.YbulkaihcFmt
open Go Go.MapKept Go.Maps Go.ChangeMaps Go.RowKit

/-- A row is owned where its block lies. -/
theorem own_block {w w' : World} {base e z n : Nat} {v : Value} {xs : List Value} (h : w.ownsRow base e z v n xs) (hb : ∀ g, v.ownBlock = some g → w'.heap[g]? = w.heap[g]?) : w'.ownsRow base e z v n xs := by
  refine ⟨h.1, ?_⟩
  rcases h.2 with h0 | ⟨g, cap, cur, rfl, h1, h2, h3⟩
  · exact Or.inl h0
  · exact Or.inr ⟨g, cap, cur, rfl, h1, (hb g rfl).trans h2, h3⟩

/-- What is in flight stays, where its blocks do. -/
theorem Fly.of_blocks {w w' : World} {B cb : Nat} {nv dv : Value} {st : Int} {tv : Value} {ts : List Int} {av : Option Nat} {G : List Ent} (h : Fly w B cb nv dv st tv ts av G) (hs : w.heap.size ≤ w'.heap.size)
    (hb : ∀ k, k < w.heap.size → (k = cb ∨ (B ≤ k ∧ ∀ c e, w.heap[k]? = some (.cells c e (0, 0)) → e = 3 ∨ (e = 49 ∧ ∃ g ∈ G, g.2.1.ownBlock = some k))) → w'.heap[k]? = w.heap[k]?) : Fly w' B cb nv dv st tv ts av G := by
  have hcb : cb < w.heap.size := (Array.getElem?_eq_some_iff.1 h.row).1
  refine ⟨(hb cb hcb (Or.inl rfl)).trans h.row, own_block h.times fun g hg => ?_, fun mb e => ⟨(h.hmap mb e).1, (h.hmap mb e).2.block ?_⟩, h.hnone, fun g hg => ⟨own_block (h.vals g hg).1 fun k hk => ?_, (h.vals g hg).2⟩, h.apart, h.lt.1, Nat.le_trans h.lt.2 hs⟩
  · obtain ⟨h1, c, h2⟩ := own_type h.times hg
    refine hb g (Array.getElem?_eq_some_iff.1 h2).1 (Or.inr ⟨h1, fun c' e' he => ?_⟩)
    rw [h2] at he
    simp at he
    exact Or.inl he.2.symm
  · have hm := (h.hmap mb e).2
    refine hb mb hm.lt (Or.inr ⟨(h.hmap mb e).1, fun c' e' he => ?_⟩)
    obtain ⟨es, clock, hh, _⟩ := hm
    rw [hh] at he
    cases he
  · obtain ⟨h1, c, h2⟩ := own_type (h.vals g hg).1 hk
    refine hb k (Array.getElem?_eq_some_iff.1 h2).1 (Or.inr ⟨h1, fun c' e' he => ?_⟩)
    rw [h2] at he
    simp at he
    exact Or.inr ⟨he.2.symm, g, hg, hk⟩

/-- One row of the log: whom to, how long. -/
abbrev Call := Int × Int
def cArr (c : Call) : List Value := [.int .i64 0, .int .i64 0, .int .i64 c.1, .int .i64 c.2]
def logCells (E : List Call) : List Value := E.flatMap cArr
theorem logCells_snoc (E : List Call) (c : Call) : logCells (E ++ [c]) = logCells E ++ cArr c := by simp [logCells]

theorem info70 : (Ybaf.prog.info? 70).map (fun i => (i.zero.map (·.cells.size), i.size)) = some (some 4, 4) := by kernel_rfl
theorem info70b : (Ybaf.prog.info? 70).map (fun i => decide (i.bytes ≤ 64)) = some true := by kernel_rfl

/-- append of one call onto the log. -/
theorem append70 {w : World} {base n : Nat} {v : Value} {xs : List Value} (hown : w.ownsRow base 70 4 v n xs) (g : Nat) (d : Call) (hg : w.heap[g]? = some (.cells (cArr d).toArray 70 (0, 0))) (hn : n ≤ 1000000) (hbase : base ≤ w.heap.size) :
    ∃ v' w', (Builtin.append_ #[68, 68] 68 #[v, .slice (some ⟨g, 0, none⟩) 1 1]).run Ybaf.prog w = .ok v' w' ∧ w'.ownsRow base 70 4 v' (n + 1) (xs ++ cArr d) ∧ w.grownBy w' v.ownBlock := by
  have h1 := info70
  have h2 := info70b
  cases hi : Ybaf.prog.info? 70 with
  | none => rw [hi] at h1; cases h1
  | some i =>
    rw [hi] at h1 h2
    simp at h1 h2
    obtain ⟨⟨z, hz, hzs⟩, hsz⟩ := h1
    obtain ⟨v', w', a1, a2, a3, _, _⟩ := run_append_own_at w base 68 68 70 i z 4 i.bytes Ybaf.underlying68 hi hz hsz rfl hzs (by omega) v n xs hown ⟨g, 0, none⟩ 1 1 (cArr d) (by simp [cArr]) (by
      intro j u hu
      have e : (⟨g, 0, none⟩ : Addr).add j = ⟨g, j, none⟩ := by
        unfold Addr.add
        split
        · rename_i h; subst h; rfl
        · simp
      rw [e]
      simp only [World.cell?, hg]
      simpa using hu) (by
      intro u hu
      simp [cArr] at hu
      rcases hu with rfl | rfl | rfl <;> rfl) (by unfold maxLen; omega) (by
      have : (n + 1) * i.bytes ≤ 1000001 * 64 := Nat.mul_le_mul (by omega) h2
      omega) hbase
    exact ⟨v', w', a1, a2, a3⟩

/-- A step of a plain region: append, its run known by an equation. -/
theorem wpList_append_run {P : Program} {ops : Array Oper} {rest : List Oper} {o : Oper} {a : Act} {w : World} {Q : Exit → Act → World → Prop} (hgd : o.guard = none) (s x : Operand) (tS tX : TypeId)
    (ho : o.op = .call { callee := .builtin .append, args := #[s, x], argTypes := #[tS, tX] }) (v u : Value) (hs : a.eval s = v) (hx : a.eval x = u) {v' : Value} {w' : World} (hr : (Builtin.append_ #[tS, tX] o.type #[v, u]).run P w = .ok v' w')
    (h : wpList P ops Q rest (a.put o.dst v') w') : wpList P ops Q (o :: rest) a w := by
  refine wpList_plain hgd fun K hK => ?_
  unfold Oper.wp execOp
  simp only [ho, resolve, invoke, builtin, Sem.run_bind, Sem.run_pure, Result.andThen_ok, List.map_toArray, List.map_cons, List.map_nil, hs, hx, hr]
  exact hK _ _ h

/-- What the delay writes: its count, its log. -/
structure Logged (w w' : World) (B kb lg q : Nat) (lv : Value) (E : List Call) (c : Call) : Prop where
  os : w'.os = w.os
  tape : w'.tape = w.tape
  output : w'.output = w.output
  size : w.heap.size ≤ w'.heap.size
  block : ∀ k, k < w.heap.size → k ≠ kb → k ≠ lg → lv.ownBlock ≠ some k → w'.heap[k]? = w.heap[k]?
  count : w'.heap[kb]? = some (.cells #[.int .i64 ((q : Nat) + 1 : Nat)] 3 (0, 0))
  log : ∃ lv', w'.heap[lg]? = some (.cells #[lv'] 68 (0, 0)) ∧ w'.ownsRow B 70 4 lv' (E.length + 1) (logCells (E ++ [c]))

theorem logged_of {w w2 : World} {B kb lg q : Nat} {lv lv' : Value} {E : List Call} {c : Call} (hkb : w.heap[kb]? = some (.cells #[.int .i64 (q : Nat)] 3 (0, 0))) (hlg : w.heap[lg]? = some (.cells #[lv] 68 (0, 0))) (hlog : w.ownsRow B 70 4 lv E.length (logCells E))
    (hg : ((w.setCell ⟨kb, 0, none⟩ (.int .i64 ((q + 1 : Nat) : Int))).alloc (.cells (cArr c).toArray 70)).grownBy w2 lv.ownBlock) (ho : w2.ownsRow B 70 4 lv' (E.length + 1) (logCells E ++ cArr c)) :
    Logged w (w2.setCell ⟨lg, 0, none⟩ lv') B kb lg q lv E c := by
  have hkl : kb ≠ lg := fun e => by
    rw [e, hlg] at hkb
    simp at hkb
  have nk : lv.ownBlock ≠ some kb := fun e => by
    obtain ⟨_, c', h2⟩ := own_type hlog e
    rw [hkb] at h2
    simp at h2
  have nl : lv.ownBlock ≠ some lg := fun e => by
    obtain ⟨_, c', h2⟩ := own_type hlog e
    rw [hlg] at h2
    simp at h2
  have hk1 : kb < w.heap.size := (Array.getElem?_eq_some_iff.1 hkb).1
  have hl1 : lg < w.heap.size := (Array.getElem?_eq_some_iff.1 hlg).1
  have hsz : ((w.setCell ⟨kb, 0, none⟩ (.int .i64 ((q + 1 : Nat) : Int))).alloc (.cells (cArr c).toArray 70)).heap.size = w.heap.size + 1 := by simp
  have hb2 : ∀ k, k < w.heap.size → k ≠ kb → lv.ownBlock ≠ some k → w2.heap[k]? = w.heap[k]? := fun k hk h1 h2 =>
    (hg.block k (by omega) (fun e => h2 e.symm)).trans ((Below.heap_alloc _ _ _ (by simpa using hk)).trans (Below.heap_setCell _ _ _ _ h1))
  have hkb2 : w2.heap[kb]? = some (.cells #[.int .i64 ((q + 1 : Nat) : Int)] 3 (0, 0)) := by
    refine (hg.block kb (by omega) (fun e => nk e.symm)).trans ((Below.heap_alloc _ _ _ (by simpa using hk1)).trans ?_)
    simp [World.setCell, Array.getElem?_modify, hkb]
  have hlg2 : w2.heap[lg]? = some (.cells #[lv] 68 (0, 0)) := (hb2 lg hl1 (Ne.symm hkl) nl).trans hlg
  have ho3 : lv'.ownBlock ≠ some lg := fun e => by
    obtain ⟨_, c', h2⟩ := own_type ho e
    rw [hlg2] at h2
    simp at h2
  refine ⟨hg.os, hg.tape, hg.output, ?_, fun k hk h1 h2 h3 => (Below.heap_setCell _ _ _ _ h2).trans (hb2 k hk h1 h3), (Below.heap_setCell _ _ _ _ hkl).trans hkb2, lv', ?_, ?_⟩
  · have := hg.size
    have h2 := (grownBy_setCell w2 ⟨lg, 0, none⟩ lv').size
    omega
  · simp [World.setCell, Array.getElem?_modify, hlg2]
  · rw [logCells_snoc]
    exact own_block ho fun g hg' => Below.heap_setCell _ _ _ _ (fun e => ho3 (by rw [hg', e]))

/-- The append onto the log, at whatever world has these blocks. -/
theorem log_append {w u : World} {B kb lg q : Nat} {lv : Value} {E : List Call} (c : Call)
    (hkb : w.heap[kb]? = some (.cells #[.int .i64 (q : Nat)] 3 (0, 0))) (hlg : w.heap[lg]? = some (.cells #[lv] 68 (0, 0))) (hlog : w.ownsRow B 70 4 lv E.length (logCells E)) (hE : E.length ≤ 1000000) (hB : B ≤ w.heap.size)
    (hu : ((w.setCell ⟨kb, 0, none⟩ (.int .i64 ((q + 1 : Nat) : Int))).alloc (.cells (cArr c).toArray 70)).grownBy u none) :
    ∃ gl nn cc w2, (Builtin.append_ #[68, 68] 68 #[lv, .slice (some ⟨w.heap.size, 0, none⟩) 1 1]).run Ybaf.prog u = .ok (.slice (some ⟨gl, 0, none⟩) nn cc) w2 ∧ w2.cell? ⟨lg, 0, none⟩ = some lv ∧ w2.frozen? ⟨lg, 0, none⟩ = false ∧ Logged w (w2.setCell ⟨lg, 0, none⟩ (.slice (some ⟨gl, 0, none⟩) nn cc)) B kb lg q lv E c := by
  have hkl' : lg ≠ kb := fun e => by
    rw [← e, hlg] at hkb
    simp at hkb
  have hl1 : lg < w.heap.size := (Array.getElem?_eq_some_iff.1 hlg).1
  have hsz : ((w.setCell ⟨kb, 0, none⟩ (.int .i64 ((q + 1 : Nat) : Int))).alloc (.cells (cArr c).toArray 70)).heap.size = w.heap.size + 1 := by simp
  have hus := hu.size
  have hown : u.ownsRow B 70 4 lv E.length (logCells E) := by
    refine own_block hlog fun g hg => ?_
    have hgg := (hlog.lt g hg).2
    refine (hu.block g (by omega) (by simp)).trans ((Below.heap_alloc _ _ _ (by simpa using hgg)).trans (Below.heap_setCell _ _ _ _ fun e => ?_))
    obtain ⟨_, c', h2⟩ := own_type hlog hg
    rw [e, hkb] at h2
    simp at h2
  obtain ⟨lv', w2, a1, a2, a3⟩ := append70 hown w.heap.size c (by
    have := (MapKept.heap_alloc (w.setCell ⟨kb, 0, none⟩ (.int .i64 ((q + 1 : Nat) : Int))) (.cells (cArr c).toArray 70)).1
    rw [show (w.setCell ⟨kb, 0, none⟩ (.int .i64 ((q + 1 : Nat) : Int))).heap.size = w.heap.size from by simp] at this
    exact (hu.block w.heap.size (by omega) (by simp)).trans this) hE (by omega)
  have hfin := logged_of hkb hlg hlog (grownBy_trans (grownBy_none hu _) a3) a2
  have : w2.heap[lg]? = some (.cells #[lv] 68 (0, 0)) := (a3.block lg (by omega) (fun e => by
      obtain ⟨_, c', h2⟩ := own_type hlog e.symm
      rw [hlg] at h2
      simp at h2)).trans ((hu.block lg (by omega) (by simp)).trans ((Below.heap_alloc _ _ _ (by simpa using hl1)).trans ((Below.heap_setCell _ _ _ _ hkl').trans hlg)))
  obtain ⟨gl, cc, hlv⟩ := own_some a2 (by omega)
  subst hlv
  exact ⟨gl, _, cc, w2, a1, by simp [World.cell?, this], by simp [World.frozen?, this], hfin⟩

set_option maxRecDepth 100000 in
set_option maxHeartbeats 1000000 in
theorem delay_call {w : World} {B A kb lg q : Nat} {lv : Value} {E : List Call} {dad : Option Addr} {db doff dl dc : Nat} {z : Int} (to : Int)
    (hA : w.cell? ⟨A, 0, none⟩ = some (.slice dad dl dc)) (hkb : w.heap[kb]? = some (.cells #[.int .i64 (q : Nat)] 3 (0, 0))) (hlg : w.heap[lg]? = some (.cells #[lv] 68 (0, 0))) (hlog : w.ownsRow B 70 4 lv E.length (logCells E))
    (hidx : ∀ W, 0 < dl → (Instr.indexAt 35 (.slice dad dl dc) (.int .i64 ((q % dl : Nat) : Int))).run Ybaf.prog W = .ok (.pointer (some ⟨db, doff + q % dl, none⟩)) W)
    (hz : 0 < dl → w.cell? ⟨db, doff + q % dl, none⟩ = some (.int .u8 z)) (hz0 : 0 ≤ z) (hz1 : z ≤ 255) (hq : q ≤ 100000) (hE : E.length ≤ 1000000) (hB : B ≤ w.heap.size) :
    Calls Ybaf.prog 6 #[.int .i64 0, .int .i64 0, .int .i64 to, .pointer (some ⟨A, 0, none⟩), .pointer (some ⟨kb, 0, none⟩), .pointer (some ⟨lg, 0, none⟩)] w fun e w' => e = .returned (.int .i64 (if 0 < dl then 1 + z else 1)) ∧ Logged w w' B kb lg q lv E (to, if 0 < dl then 1 + z else 1) := by
  have ck : w.cell? ⟨kb, 0, none⟩ = some (.int .i64 (q : Nat)) := by simp [World.cell?, hkb]
  have fk : w.frozen? ⟨kb, 0, none⟩ = false := by simp [World.frozen?, hkb]
  have cl : w.cell? ⟨lg, 0, none⟩ = some lv := by simp [World.cell?, hlg]
  have hkl : kb ≠ lg := fun e => by
    rw [e, hlg] at hkb
    simp at hkb
  have hk1 : kb < w.heap.size := (Array.getElem?_eq_some_iff.1 hkb).1
  have hl1 : lg < w.heap.size := (Array.getElem?_eq_some_iff.1 hlg).1
  have hkl' : lg ≠ kb := Ne.symm hkl
  have hn1 : ((q + 1 : Nat) : Int) = (q : Int) + 1 := by omega
  by_cases hd : 0 < dl
  · have hmod : ((q % dl : Nat) : Int) = ((q : Nat) : Int) % ((dl : Nat) : Int) := by omega
    have hix := fun W => hidx W hd
    rw [hmod] at hix
    have hzz := hz hd
    generalize doff + q % dl = o at *
    have hgt : (0 : Int) < (dl : Int) := by omega
    rw [if_pos hd]
    obtain ⟨gl, nn, cc, w2, a1, cl2, fl2, hfin⟩ := log_append (u := (((w.setCell ⟨kb, 0, none⟩ (.int .i64 ((q + 1 : Nat) : Int))).alloc (.cells (cArr (to, 1 + z)).toArray 70)).drew)) (to, 1 + z) hkb hlg hlog hE hB (grownBy_dr _ _)
    simp only [hn1, cArr] at a1
    clear hz hidx hlog hlg hkb
    go_enter Ybaf.func6, Ybaf.ntmps6
    go_wp2
    go_region
    go_wp2_with (at_builtin; refine wpList_append_run rfl (.tmp 26) (.tmp 32) 68 68 rfl _ _ rfl rfl a1 ?_)
    go_ret
    exact ⟨rfl, hfin⟩
  · have hd0 : dl = 0 := by omega
    subst hd0
    rw [if_neg hd]
    obtain ⟨gl, nn, cc, w2, a1, cl2, fl2, hfin⟩ := log_append (u := ((w.setCell ⟨kb, 0, none⟩ (.int .i64 ((q + 1 : Nat) : Int))).alloc (.cells (cArr (to, 1)).toArray 70))) (to, 1) hkb hlg hlog hE hB (grownBy_refl _ _)
    simp only [hn1, cArr] at a1
    clear hz hidx hlog hlg hkb
    go_enter Ybaf.func6, Ybaf.ntmps6
    go_wp2_with (at_builtin; refine wpList_append_run rfl (.tmp 26) (.tmp 32) 68 68 rfl _ _ rfl rfl a1 ?_)
    go_ret
    exact ⟨rfl, hfin⟩
end Go.Proofs.YbulkaihcFmt
