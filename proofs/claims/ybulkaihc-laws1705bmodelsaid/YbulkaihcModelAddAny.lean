/-
  'LawS1705BModel': the contract of add (function 9), out of its walks. By the prover of seat 061 (an AI agent).
-/
import Derived.Test.YbulkaihcModelAdd
namespace Go.Proofs.Ybulkaihc
open Go Go.MapKept Go.Maps Go.ChangeMaps Go.RowKit
open Vote (ME vf lim Step upd)

section
variable {w w' w'' : World} {ib vb mb : Nat}
theorem Same3.refl (w : World) (a b c : Nat) : Same3 w w a b c := ⟨rfl, rfl, rfl, Nat.le_refl _, fun _ _ _ _ _ => rfl⟩
theorem Same3.trans {a b c : Nat} (h : Same3 w w' a b c) (k : Same3 w' w'' a b c) : Same3 w w'' a b c :=
  ⟨k.os.trans h.os, k.tape.trans h.tape, k.output.trans h.output, Nat.le_trans h.size k.size, fun i hi h1 h2 h3 => (k.block i (Nat.lt_of_lt_of_le hi h.size) h1 h2 h3).trans (h.block i hi h1 h2 h3)⟩
theorem Same3.grown {a b c : Nat} {row : Option Nat} (hg : w.grownBy w' row) (h : row = none ∨ row = some a ∨ row = some b ∨ row = some c) : Same3 w w' a b c := by
  refine ⟨hg.os, hg.tape, hg.output, hg.size, fun k hk h1 h2 h3 => hg.block k hk ?_⟩
  rcases h with rfl | rfl | rfl | rfl
  · simp
  · simpa using h1
  · simpa using h2
  · simpa using h3
theorem grownBy_setCell (w : World) (a : Addr) (v : Value) : w.grownBy (w.setCell a v) (some a.block) :=
  ⟨rfl, rfl, rfl, by simp [World.setCell], fun k _ hk => Below.heap_setCell w a v k (fun e => hk (by rw [e]))⟩
theorem grownBy_dr (w : World) (row : Option Nat) : w.grownBy w.drew row := ⟨rfl, rfl, rfl, Nat.le_refl _, fun _ _ _ => rfl⟩
end

theorem blk_set {w : World} {b j : Nat} {c : Array Value} {t : TypeId} {v : Value} (h : w.heap[b]? = some (.cells c t (0, 0))) : (w.setCell ⟨b, j, none⟩ v).heap[b]? = some (.cells (c.setIfInBounds j v) t (0, 0)) := by
  simp [World.setCell, Array.getElem?_modify, h]

theorem inst_ne {w : World} {ib vb mb n : Nat} {cs : Array Value} {f : Nat → Value} {l : List (Value × Value)} (hr : w.heap[ib]? = some (.cells cs 57 (0, 0))) (hvo : w.rowIs vb 66 n f) (hm : MapIs Yba.prog 3 w mb l) : ib ≠ vb ∧ ib ≠ mb ∧ vb ≠ mb := by
  obtain ⟨c, hb, _⟩ := hvo
  obtain ⟨es, clock, he, _⟩ := hm
  refine ⟨?_, ?_, ?_⟩
  · intro e; rw [e, hb] at hr; simp at hr
  · intro e; rw [e, he] at hr; simp at hr
  · intro e; rw [e, he] at hb; simp at hb

/-- Behind the store into the votes' map: what add does last. -/
theorem add_end {w wb w2 : World} {ib vb mb n : Nat} {q0 q1 tot bk m asd : Int} {vt eq : Bool} {V : Nat → Int} {l l' : List (Value × Value)} {k : Nat} {c p : Int}
    (hb : Same3 w wb ib vb mb) (hz : wb.heap.size = w.heap.size) (hr : wb.heap[ib]? = some (.cells (instCells q0 q1 m vb n mb tot bk asd vt eq) 57 (0, 0))) (hvo : wb.rowIs vb 66 n (fun i => .int .u16 (V i))) (hm : MapIs Yba.prog 3 wb mb l)
    (hm2 : MapIs Yba.prog 3 w2 mb l') (ht : ((wb.alloc (.cells #[.int .i64 c, .int .u16 p] 68)).drew.drew).mapTurned w2 mb) (hk : k < n) (hVk : V k = 0) :
    (w2.cell? ⟨ib, 3, none⟩ = some (.slice (some ⟨vb, 0, none⟩) n n) ∧ w2.cell? ⟨w.heap.size, 1, none⟩ = some (.int .u16 p) ∧ w2.cell? ⟨vb, k, none⟩ = some (.int .u16 0) ∧ w2.frozen? ⟨vb, k, none⟩ = false) ∧
    ∀ x : Int, ∃ w', w' = (w2.setCell ⟨vb, k, none⟩ (.int .u16 x)).drew ∧ (∃ (q0 q1 tot bk : Int) (vt eq : Bool), w'.heap[ib]? = some (.cells (instCells q0 q1 m vb n mb tot bk asd vt eq) 57 (0, 0))) ∧ w'.rowIs vb 66 n (fun i => .int .u16 (upd V k x i)) ∧ MapIs Yba.prog 3 w' mb l' ∧ Same3 w w' ib vb mb := by
  obtain ⟨n1, n2, n3⟩ := inst_ne hr hvo hm
  have hg := grownBy_of_turned ht
  have hib : ib < wb.heap.size := (Array.getElem?_eq_some_iff.1 hr).1
  have hvb : vb < wb.heap.size := hvo.lt
  have hmb : mb < wb.heap.size := hm.lt
  have hz1 : ((wb.alloc (.cells #[.int .i64 c, .int .u16 p] 68)).drew.drew).heap.size = wb.heap.size + 1 := by
    show (wb.alloc _).heap.size = _
    simp
  have bi : w2.heap[ib]? = some (.cells (instCells q0 q1 m vb n mb tot bk asd vt eq) 57 (0, 0)) := by
    rw [hg.block ib (by omega) (by simpa using n2)]
    exact (Below.heap_alloc wb _ ib hib).trans hr
  have bv : w2.rowIs vb 66 n (fun i => .int .u16 (V i)) := by
    refine hvo.of_block ?_
    rw [hg.block vb (by omega) (by simpa using n3)]
    exact Below.heap_alloc wb _ vb hvb
  refine ⟨⟨by simp [World.cell?, bi, instCells], ?_, by rw [bv.cell hk, hVk], bv.frozen k⟩, fun x => ⟨_, rfl, ⟨q0, q1, tot, bk, vt, eq, ?_⟩, ?_, (hm2.setCell _ _).drew, ?_⟩⟩
  · refine hg.cell ?_ (by simp; omega)
    show (wb.alloc _).cell? _ = _
    rw [World.cell?_alloc_at _ _ _ _ hz.symm]
    rfl
  · show (w2.setCell _ _).heap[ib]? = _
    rw [Below.heap_setCell _ _ _ _ n1]
    exact bi
  · refine ((bv.set k (.int .u16 x)).congr ?_).drew
    intro i _
    unfold upd
    by_cases e : i = k <;> simp [e]
  · refine hb.trans ((Same3.grown (row := none) (World.grownBy_alloc wb _ none) (Or.inl rfl)).trans ((Same3.grown (grownBy_dr _ none) (Or.inl rfl)).trans ((Same3.grown (grownBy_dr _ none) (Or.inl rfl)).trans ((Same3.grown hg (by simp)).trans ((Same3.grown (grownBy_setCell w2 ⟨vb, k, none⟩ _) (by simp)).trans (Same3.grown (grownBy_dr _ none) (Or.inl rfl)))))))

/-- add's contract. -/
theorem add_any {w : World} {ib vb mb n : Nat} {m asd : Int} {M : List ME} {V : Nat → Int} (h : Inst w ib vb mb n m asd M V) (hs : Small M) (hM : M.length ≤ 2000) (fr x : Int) (h1 : 1 ≤ fr) (hfn : fr ≤ n) (hn : n ≤ 10) (hm0 : 0 ≤ m) (hm3 : m ≤ 3) (hx0 : 0 ≤ x) (hx3 : x ≤ 3) :
    Calls Yba.prog 9 #[.pointer (some ⟨ib, 0, none⟩), .int .i64 fr, .int .i64 x] w fun r w' => (∃ b, r = .returned (.bool b)) ∧ ∃ M' V', Step M V (fr.toNat - 1) x M' V' ∧ Inst w' ib vb mb n m asd M' V' ∧ Same3 w w' ib vb mb := by
  obtain ⟨q0, q1, tot, bk, vt, eq, hr⟩ := h.row
  obtain ⟨n1, n2, n3⟩ := inst_ne hr h.voters h.votes
  have hi : fr.toNat - 1 < n := by omega
  have hq : keyOf Yba.prog 3 (.int .i64 x) = some (.int .i64 x) := keyOf_int_mk Yba.underlying3 (WalkArith.wf_i64 (by omega))
  have hkeys : ∀ p ∈ encM M, p.1 = .int .i64 x → ∃ e ∈ M, e.1 = x ∧ p = (ekey e.1, eval e.2) := by
    intro p hp hpx
    obtain ⟨e, he, rfl⟩ := List.mem_map.1 hp
    simp only [ekey, Value.int.injEq, true_and] at hpx
    exact ⟨e, he, hpx, rfl⟩
  by_cases hv : V (fr.toNat - 1) = 0
  · by_cases hx : x = 0
    · subst hx
      have hlk : ∃ cn c p, (Instr.lookup 55 (.map (some mb)) (.int .i64 0) true).run Yba.prog w = .ok (.tuple #[.agg #[.int .i64 c, .int .u16 p], .bool cn]) w := by
        by_cases hin : ∃ e ∈ M, e.1 = 0
        · obtain ⟨e, he, h0⟩ := hin
          refine ⟨true, e.2.1, e.2.2, ?_⟩
          have := h.votes.look_hit keyed3 Yba.underlying55 (x := ekey e.1) (v := eval e.2) (List.mem_map.2 ⟨e, he, rfl⟩) true
          rw [h0] at this
          exact this
        · exact ⟨false, 0, 0, h.votes.look_miss keyed3 Yba.underlying55 (zero68 _) hq (fun p hp e => by
            obtain ⟨e', he', h0, _⟩ := hkeys p hp e
            exact hin ⟨e', he', h0⟩) true⟩
      obtain ⟨cn, c, p, hlk⟩ := hlk
      refine (add_nil hr h.voters fr h1 hfn hn hv cn c p hlk).mono ?_
      rintro r w' ⟨hb, tot', rfl⟩
      refine ⟨hb, M, upd V (fr.toNat - 1) 1, Or.inr (Or.inl ⟨hv, rfl, rfl, rfl⟩), ?_, ?_⟩
      · have r5 : (w.setCell ⟨ib, 5, none⟩ (.int .i64 tot')).heap[ib]? = some (.cells (instCells q0 q1 m vb n mb tot' bk asd vt eq) 57 (0, 0)) := blk_set hr
        have v5 := h.voters.setOther (a := ⟨ib, 5, none⟩) (Ne.symm n1) (.int .i64 tot')
        refine Inst.grown ⟨⟨q0, q1, tot', bk, vt, eq, ?_⟩, ?_, (h.votes.setCell _ _).setCell _ _⟩ (World.grownBy_alloc _ _ none)
        · rw [Below.heap_setCell _ _ _ _ n1]; exact r5
        · refine (v5.set (fr.toNat - 1) (.int .u16 1)).congr ?_
          intro i _
          unfold upd
          by_cases e : i = fr.toNat - 1 <;> simp [e]
      · exact (Same3.grown (grownBy_setCell w ⟨ib, 5, none⟩ _) (by simp)).trans ((Same3.grown (grownBy_setCell _ ⟨vb, fr.toNat - 1, none⟩ _) (by simp)).trans (Same3.grown (World.grownBy_alloc _ _ none) (Or.inl rfl)))
    · have hx' : (x == 0) = false := beq_eq_false_iff_ne.2 hx
      have S5 : Same3 w (w.setCell ⟨ib, 5, none⟩ (.int .i64 (wrap64 (tot + 1)))) ib vb mb := Same3.grown (grownBy_setCell w ⟨ib, 5, none⟩ _) (by simp)
      have r5 : (w.setCell ⟨ib, 5, none⟩ (.int .i64 (wrap64 (tot + 1)))).heap[ib]? = some (.cells (instCells q0 q1 m vb n mb (wrap64 (tot + 1)) bk asd vt eq) 57 (0, 0)) := blk_set hr
      have v5 := h.voters.setOther (a := ⟨ib, 5, none⟩) (Ne.symm n1) (.int .i64 (wrap64 (tot + 1)))
      have m5 := h.votes.setCell ⟨ib, 5, none⟩ (.int .i64 (wrap64 (tot + 1)))
      have z5 : (w.setCell ⟨ib, 5, none⟩ (.int .i64 (wrap64 (tot + 1)))).heap.size = w.heap.size := by simp [World.setCell]
      have S6 : Same3 w ((w.setCell ⟨ib, 5, none⟩ (.int .i64 (wrap64 (tot + 1)))).setCell ⟨ib, 6, none⟩ (.int .i64 (wrap64 (bk + 1)))) ib vb mb := S5.trans (Same3.grown (grownBy_setCell _ ⟨ib, 6, none⟩ _) (by simp))
      have r6 : ((w.setCell ⟨ib, 5, none⟩ (.int .i64 (wrap64 (tot + 1)))).setCell ⟨ib, 6, none⟩ (.int .i64 (wrap64 (bk + 1)))).heap[ib]? = some (.cells (instCells q0 q1 m vb n mb (wrap64 (tot + 1)) (wrap64 (bk + 1)) asd vt eq) 57 (0, 0)) := blk_set r5
      have v6 := v5.setOther (a := ⟨ib, 6, none⟩) (Ne.symm n1) (.int .i64 (wrap64 (bk + 1)))
      have m6 := m5.setCell ⟨ib, 6, none⟩ (.int .i64 (wrap64 (bk + 1)))
      have z6 : ((w.setCell ⟨ib, 5, none⟩ (.int .i64 (wrap64 (tot + 1)))).setCell ⟨ib, 6, none⟩ (.int .i64 (wrap64 (bk + 1)))).heap.size = w.heap.size := by simp [World.setCell]
      by_cases hin : ∃ e ∈ M, e.1 = x
      · obtain ⟨⟨y, c, p⟩, he, hy⟩ := hin
        simp only at hy
        subst hy
        obtain ⟨b1, b2, b3, b4⟩ := hs _ he
        simp only at b1 b2 b3 b4
        obtain ⟨M1, M2, rfl⟩ := List.append_of_mem he
        have hlk := h.votes.look_hit keyed3 Yba.underlying55 (x := ekey y) (v := eval (c, p)) (List.mem_map.2 ⟨_, he, rfl⟩) true
        have enc1 : encM (M1 ++ (y, c, p) :: M2) = encM M1 ++ (ekey y, eval (c, p)) :: encM M2 := by simp [encM]
        have enc2 : encM (M1 ++ (y, c + 1, p) :: M2) = encM M1 ++ (ekey y, eval (c + 1, p)) :: encM M2 := by simp [encM]
        cases heq : (c + 1 == m + 1)
        · have mm := (m5.alloc (.cells #[.int .i64 (c + 1), .int .u16 p] 68)).drew.drew
          rw [enc1] at mm
          obtain ⟨w2, hrun, hm2, ht⟩ := mm.store_old keyed3 Yba.underlying55 (eval (c + 1, p))
          rw [← enc2] at hm2
          obtain ⟨⟨k3, kt, kv, kf⟩, hfin⟩ := add_end S5 z5 r5 v5 m5 hm2 ht hi hv
          refine (add_more hr h.voters fr y h1 hfn hn hv hx' c p b1 b2 b3 b4 hm0 hm3 hlk heq hrun k3 kt kv kf).mono ?_
          rintro r w' ⟨hb, rfl⟩
          obtain ⟨w', rfl, hr', hv', hm', hS⟩ := hfin (p + 2)
          exact ⟨hb, _, _, Or.inr (Or.inr (Or.inr ⟨hv, hx, M1, M2, c, p, rfl, rfl, rfl⟩)), ⟨hr', hv', hm'⟩, hS⟩
        · have mm := (m6.alloc (.cells #[.int .i64 (c + 1), .int .u16 p] 68)).drew.drew
          rw [enc1] at mm
          obtain ⟨w2, hrun, hm2, ht⟩ := mm.store_old keyed3 Yba.underlying55 (eval (c + 1, p))
          rw [← enc2] at hm2
          obtain ⟨⟨k3, kt, kv, kf⟩, hfin⟩ := add_end S6 z6 r6 v6 m6 hm2 ht hi hv
          refine (add_more_backed hr h.voters fr y h1 hfn hn hv hx' c p b1 b2 b3 b4 hm0 hm3 hlk heq hrun k3 kt kv kf).mono ?_
          rintro r w' ⟨hb, rfl⟩
          obtain ⟨w', rfl, hr', hv', hm', hS⟩ := hfin (p + 2)
          exact ⟨hb, _, _, Or.inr (Or.inr (Or.inr ⟨hv, hx, M1, M2, c, p, rfl, rfl, rfl⟩)), ⟨hr', hv', hm'⟩, hS⟩
      · have hnot : ∀ p ∈ encM M, p.1 ≠ .int .i64 x := fun p hp e => by
          obtain ⟨e', he', h0, _⟩ := hkeys p hp e
          exact hin ⟨e', he', h0⟩
        have hlk := h.votes.look_miss keyed3 Yba.underlying55 (zero68 _) hq hnot true
        have hln := (m5.alloc (.cells #[.int .i64 0, .int .u16 0] 68)).len Yba.underlying55 3
        have hll : (encM M).length = M.length := by simp [encM]
        rw [hll] at hln
        have enc3 : encM (M ++ [(x, (1, (M.length : Int)))]) = encM M ++ [(ekey x, eval (1, (M.length : Int)))] := by simp [encM]
        have hno : ∀ e ∈ M, e.1 ≠ x := fun e he q => hin ⟨e, he, q⟩
        cases heq : ((1 : Int) == m + 1)
        · obtain ⟨w2, hrun, hm2, ht⟩ := (m5.alloc (.cells #[.int .i64 1, .int .u16 (M.length : Int)] 68)).drew.drew.store_new keyed3 Yba.underlying55 hq hnot (eval (1, (M.length : Int)))
          have hm3' : MapIs Yba.prog 3 w2 mb (encM (M ++ [(x, (1, (M.length : Int)))])) := by rw [enc3]; exact hm2
          obtain ⟨⟨k3, kt, kv, kf⟩, hfin⟩ := add_end S5 z5 r5 v5 m5 hm3' ht hi hv
          refine (add_new hr h.voters fr x h1 hfn hn hv hx' (M.length : Int) (by omega) (by omega) hm0 hm3 hlk heq hln hrun k3 kt kv kf).mono ?_
          rintro r w' ⟨hb, rfl⟩
          obtain ⟨w', rfl, hr', hv', hm', hS⟩ := hfin ((M.length : Int) + 2)
          exact ⟨hb, _, _, Or.inr (Or.inr (Or.inl ⟨hv, hx, hno, rfl, rfl⟩)), ⟨hr', hv', hm'⟩, hS⟩
        · obtain ⟨w2, hrun, hm2, ht⟩ := (m6.alloc (.cells #[.int .i64 1, .int .u16 (M.length : Int)] 68)).drew.drew.store_new keyed3 Yba.underlying55 hq hnot (eval (1, (M.length : Int)))
          have hm3' : MapIs Yba.prog 3 w2 mb (encM (M ++ [(x, (1, (M.length : Int)))])) := by rw [enc3]; exact hm2
          obtain ⟨⟨k3, kt, kv, kf⟩, hfin⟩ := add_end S6 z6 r6 v6 m6 hm3' ht hi hv
          refine (add_new_backed hr h.voters fr x h1 hfn hn hv hx' (M.length : Int) (by omega) (by omega) hm0 hm3 hlk heq hln hrun k3 kt kv kf).mono ?_
          rintro r w' ⟨hb, rfl⟩
          obtain ⟨w', rfl, hr', hv', hm', hS⟩ := hfin ((M.length : Int) + 2)
          exact ⟨hb, _, _, Or.inr (Or.inr (Or.inl ⟨hv, hx, hno, rfl, rfl⟩)), ⟨hr', hv', hm'⟩, hS⟩
  · have hlk : ∃ cn c p, (Instr.lookup 55 (.map (some mb)) (.int .i64 x) true).run Yba.prog w = .ok (.tuple #[.agg #[.int .i64 c, .int .u16 p], .bool cn]) w := by
      by_cases hin : ∃ e ∈ M, e.1 = x
      · obtain ⟨e, he, h0⟩ := hin
        refine ⟨true, e.2.1, e.2.2, ?_⟩
        have := h.votes.look_hit keyed3 Yba.underlying55 (x := ekey e.1) (v := eval e.2) (List.mem_map.2 ⟨e, he, rfl⟩) true
        rw [h0] at this
        exact this
      · exact ⟨false, 0, 0, h.votes.look_miss keyed3 Yba.underlying55 (zero68 _) hq (fun p hp e => by
          obtain ⟨e', he', h0, _⟩ := hkeys p hp e
          exact hin ⟨e', he', h0⟩) true⟩
    obtain ⟨cn, c, p, hlk⟩ := hlk
    refine (add_voted hr h.voters fr x h1 hfn hn (by simpa using hv) cn c p hlk).mono ?_
    rintro r w' ⟨hb, eq', rfl⟩
    refine ⟨hb, M, V, Or.inl ⟨hv, rfl, rfl⟩, ?_, ?_⟩
    · have r9 : (w.setCell ⟨ib, 9, none⟩ (.bool eq')).heap[ib]? = some (.cells (instCells q0 q1 m vb n mb tot bk asd vt eq') 57 (0, 0)) := blk_set hr
      exact Inst.grown ⟨⟨q0, q1, tot, bk, vt, eq', r9⟩, h.voters.setOther (a := ⟨ib, 9, none⟩) (Ne.symm n1) _, h.votes.setCell _ _⟩ (World.grownBy_alloc _ _ none)
    · exact (Same3.grown (grownBy_setCell w ⟨ib, 9, none⟩ _) (by simp)).trans (Same3.grown (World.grownBy_alloc _ _ none) (Or.inl rfl))

end Go.Proofs.Ybulkaihc
