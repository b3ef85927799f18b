/-
  carry (function 7) under a schedule, to one node. By the prover of seat 061 (an AI agent).
-/
import Derived.Test.YbulkaihcFmtAir
namespace Go.Proofs.YbulkaihcFmt
open Go Go.MapKept Go.Maps Go.ChangeMaps Go.RowKit

theorem neq_func (k : Nat) (cap : Array Value) (W : World) : (binOp .neq 31 (.func (.func k) #[] cap) .nilFunc).run Ybaf.prog W = .ok (.bool true) W := by kernel_rfl
theorem index_node (b n i : Nat) (W : World) (hi : i < n) : (Instr.indexAt 24 (.slice (some ⟨b, 0, none⟩) n n) (.int .i64 (i : Int))).run Ybaf.prog W = .ok (.pointer (some ⟨b, i, none⟩)) W := by
  have hadd : (⟨b, 0, none⟩ : Addr).add i = ⟨b, i, none⟩ := by
    unfold Addr.add
    split
    · rename_i h0; rw [h0]
    · simp
  simp [Instr.indexAt, asIntOf, run_underlying Ybaf.underlying24, hi, hadd, Result.andThen]

attribute [local go_sem ↓] Go.wp_at_zero Go.wp_at_succ

set_option maxRecDepth 100000 in
set_option maxHeartbeats 2000000 in
theorem carry_one {e : Gear} {w : World} {L : List Sent} {G : List Ent} {q : Nat} {E : List Call} (ho : e.Ok) (h : Sky w e.B e.cb e.nv e.dv L G) (hX : Fixed e w) (hW : Wind e w q E) (i : Nat) (hi : i < e.n) (rq : ByteArray) (hL : L.length ≤ 100000) (hq : q ≤ 100000) (hE : E.length ≤ 100000) :
    Calls Ybaf.prog 7 #[.pointer (some ⟨e.cb, 0, none⟩), .int .i64 0, .agg #[.int .i64 (-1), .int .i64 (i : Int), .pointer none, .string rq, .int .i64 0]] w fun r w' => r = .returned (.tuple #[]) ∧ ∃ G', Sky w' e.B e.cb e.nv e.dv (L ++ [(e.T q, ((i : Int), rq))]) G' ∧ Wind e w' (q + 1) (E ++ [(e.ids i, e.T q)]) ∧ Spare w G w' G' ∧ Blown e w w' := by
  obtain ⟨lv, hlg, hlog⟩ := hW.log
  have hr : ∃ tv av, w.heap[e.cb]? = some (.cells (clCells e.nv tv (.map av) e.dv (L.length : Nat)) 43 (0, 0)) := by
    obtain ⟨tv, av, hF, _⟩ := h
    exact ⟨tv, av, hF.row⟩
  obtain ⟨tv, av, hr⟩ := hr
  have hcb : e.cb < w.heap.size := (Array.getElem?_eq_some_iff.1 hr).1
  have c5 : w.cell? ⟨e.cb, 5, none⟩ = some (.pointer none) := by simp [World.cell?, hr, clCells]
  have c0 : w.cell? ⟨e.cb, 0, none⟩ = some (.slice (some ⟨e.nb, 0, none⟩) e.n e.n) := by simp [World.cell?, hr, clCells, Gear.nv]
  have c4 : w.cell? ⟨e.cb, 4, none⟩ = some (.func (.func 6) #[] #[.pointer (some ⟨e.A, 0, none⟩), .pointer (some ⟨e.kb, 0, none⟩), .pointer (some ⟨e.lg, 0, none⟩)]) := by simp [World.cell?, hr, clCells, Gear.dv]
  obtain ⟨n0, n1, n2⟩ := hX.node i hi
  have hgD : ∀ g ∈ G, g.2.1.ownBlock ≠ some w.heap.size := by
    obtain ⟨tv, av, hF, hb⟩ := h
    intro g hg e
    have := ((hF.vals g hg).1.lt _ e).2
    omega
  -- the world behind the box and the draw
  have k1 := (Kept.alloc w (.cells (dArr ((i : Int), rq)) 49) e.B e.cb).trans (Kept.drew _ e.B e.cb)
  have s1 := (Spare.alloc w (.cells (dArr ((i : Int), rq)) 49) G).trans (Spare.drew _ G)
  have hD1 : (w.alloc (.cells (dArr ((i : Int), rq)) 49)).drew.heap[w.heap.size]? = some (.cells (dArr ((i : Int), rq)) 49 (0, 0)) := (MapKept.heap_alloc w _).1
  have hX1 := hX.blown ho (Blown.of_kept k1)
  have hW1 := hW.kept ho k1
  obtain ⟨lv1, hlg1, hlog1⟩ := hW1.log
  have hcall := delay_call (A := e.A) (z := if 0 < e.dl then e.Ds (q % e.dl) else 0) (e.ids i) hX1.box hW1.count hlg1 hlog1 (fun W hd => ho.idx (q % e.dl) W (Nat.mod_lt _ hd)) (fun hd => by rw [if_pos hd]; exact hX1.ds _ (Nat.mod_lt _ hd))
    (by split
        · rename_i hd; exact (ho.Ds _ (Nat.mod_lt _ hd)).1
        · omega) (by split
                     · rename_i hd; exact (ho.Ds _ (Nat.mod_lt _ hd)).2
                     · omega) hq (by omega) hX1.size
  have hT : (if 0 < e.dl then 1 + (if 0 < e.dl then e.Ds (q % e.dl) else 0) else 1) = e.T q := by
    unfold Gear.T
    split <;> rfl
  rw [hT] at hcall
  have hbd := T_bd ho q
  generalize e.T q = t at *
  obtain ⟨t1, t2⟩ := hbd
  have hnf := neq_func 6
  have hix := fun W => index_node e.nb e.n i W hi
  have hi1 : ((i : Int) == -1) = false := by simp
  have hc1 : ∀ (u : World) (tv : Value) (av : Option Nat) (st : Int), u.heap[e.cb]? = some (.cells (clCells e.nv tv (.map av) e.dv st) 43 (0, 0)) → u.heap[w.heap.size]? = some (.cells (dArr ((i : Int), rq)) 49 (0, 0)) → Fixed e u →
      u.cell? ⟨e.cb, 0, none⟩ = some (.slice (some ⟨e.nb, 0, none⟩) e.n e.n) ∧ u.cell? ⟨e.cb, 4, none⟩ = some (.func (.func 6) #[] #[.pointer (some ⟨e.A, 0, none⟩), .pointer (some ⟨e.kb, 0, none⟩), .pointer (some ⟨e.lg, 0, none⟩)]) ∧ u.cell? ⟨w.heap.size, 1, none⟩ = some (.int .i64 (i : Int)) ∧ u.cell? ⟨e.nb, i, none⟩ = some (.pointer (some ⟨e.N i, 0, none⟩)) ∧ u.cell? ⟨e.N i, 0, none⟩ = some (.pointer (some ⟨e.P i, 0, none⟩)) ∧ u.cell? ⟨e.P i, 0, none⟩ = some (.int .i64 (e.ids i)) := by
    intro u tv av st h1 h2 h3
    obtain ⟨n0, n1, n2⟩ := h3.node i hi
    exact ⟨by simp [World.cell?, h1, clCells, Gear.nv], by simp [World.cell?, h1, clCells, Gear.dv], by simp [World.cell?, h2, dArr], n0, n1, n2⟩
  have hr1 : (w.alloc (.cells (dArr ((i : Int), rq)) 49)).drew.heap[e.cb]? = some (.cells (clCells e.nv tv (.map av) e.dv (L.length : Nat)) 43 (0, 0)) := (Below.heap_alloc _ _ _ hcb).trans hr
  have kS1 := hc1 _ _ _ _ hr1 hD1 hX1
  have hcall' : Calls Ybaf.prog 6 #[.int .i64 0, .int .i64 0, .int .i64 (e.ids i), .pointer (some ⟨e.A, 0, none⟩), .pointer (some ⟨e.kb, 0, none⟩), .pointer (some ⟨e.lg, 0, none⟩)] (w.alloc (.cells (dArr ((i : Int), rq)) 49)).drew fun r w2 => r = .returned (.int .i64 t) ∧
      (w2.cell? ⟨e.cb, 0, none⟩ = some (.slice (some ⟨e.nb, 0, none⟩) e.n e.n) ∧ w2.cell? ⟨e.cb, 4, none⟩ = some (.func (.func 6) #[] #[.pointer (some ⟨e.A, 0, none⟩), .pointer (some ⟨e.kb, 0, none⟩), .pointer (some ⟨e.lg, 0, none⟩)]) ∧ w2.cell? ⟨w.heap.size, 1, none⟩ = some (.int .i64 (i : Int)) ∧ w2.cell? ⟨e.nb, i, none⟩ = some (.pointer (some ⟨e.N i, 0, none⟩)) ∧ w2.cell? ⟨e.N i, 0, none⟩ = some (.pointer (some ⟨e.P i, 0, none⟩)) ∧ w2.cell? ⟨e.P i, 0, none⟩ = some (.int .i64 (e.ids i))) ∧
      w2.heap[w.heap.size]? = some (.cells (dArr ((i : Int), rq)) 49 (0, 0)) ∧ Sky w2 e.B e.cb e.nv e.dv L G ∧ Wind e w2 (q + 1) (E ++ [(e.ids i, t)]) ∧ Spare w G w2 G ∧ Blown e w w2 := by
    refine hcall.mono ?_
    rintro r w2 ⟨rfl, hlogd⟩
    obtain ⟨a1, a2, a3, a4⟩ := hlogd.all ho hW1.count hlg1 hlog1
    have hD2 := (a3 G _ _ hD1 hgD).1
    obtain ⟨tv, av, hF, hb⟩ := h
    have hF2 := a4 (hF.alloc (.cells (dArr ((i : Int), rq)) 49)).drew
    exact ⟨rfl, hc1 _ _ _ _ hF2.row hD2 (hX1.blown ho a2), hD2, ⟨tv, av, hF2, hb⟩, a1, s1.trans (a3 G), (Blown.of_kept k1).trans a2⟩
  clear hcall hr1 hc1 hX1 hW1 hlg1 hlog1 hD1 k1 s1 hlg hlog hr hX hW h n0 n1 n2 hT
  unfold dArr at hcall' kS1
  go_enter Ybaf.func7, Ybaf.ntmps7
  go_wp2_with fail
  go_region_held3 (fun u => u.cell? ⟨e.cb, 0, none⟩ = some (.slice (some ⟨e.nb, 0, none⟩) e.n e.n) ∧ u.cell? ⟨e.cb, 4, none⟩ = some (.func (.func 6) #[] #[.pointer (some ⟨e.A, 0, none⟩), .pointer (some ⟨e.kb, 0, none⟩), .pointer (some ⟨e.lg, 0, none⟩)]) ∧ u.cell? ⟨w.heap.size, 1, none⟩ = some (.int .i64 (i : Int)) ∧ u.cell? ⟨e.nb, i, none⟩ = some (.pointer (some ⟨e.N i, 0, none⟩)) ∧ u.cell? ⟨e.N i, 0, none⟩ = some (.pointer (some ⟨e.P i, 0, none⟩)) ∧ u.cell? ⟨e.P i, 0, none⟩ = some (.int .i64 (e.ids i)))
    (first
      | assumption
      | go_keep)
    (first | (go_at_call 6; refine hcall'.mono ?_; rintro r w2 ⟨rfl, kS2, hD2, hS2, hW2, s2, b2⟩))
  clear hcall' kS1 kS2 c0 c4 c5
  have hadd := (show Sky w2.drew e.B e.cb e.nv e.dv L G from by
    obtain ⟨tv, av, hF, hb⟩ := hS2
    exact ⟨tv, av, hF.drew, hb⟩).add t (i : Int) rq (by omega) (by omega) (by omega) (D := w.heap.size) hD2 hgD
  have d0 : w2.cell? ⟨w.heap.size, 0, none⟩ = some (.int .i64 (-1)) ∧ w2.cell? ⟨w.heap.size, 1, none⟩ = some (.int .i64 (i : Int)) ∧ w2.cell? ⟨w.heap.size, 2, none⟩ = some (.pointer none) ∧ w2.cell? ⟨w.heap.size, 3, none⟩ = some (.string rq) ∧ w2.cell? ⟨w.heap.size, 4, none⟩ = some (.int .i64 0) := by simp [World.cell?, hD2]
  have hw3 : t ≤ 9223372036854775807 := by omega
  have hwt : IntKind.i64.wrap t = t := by rw [IntKind.wrap_i64]; omega
  clear hS2 hgD hnf hix
  go_wp2_with fail
  go_region_held3 (fun w' => w'.cell? ⟨w.heap.size, 0, none⟩ = some (.int .i64 (-1)) ∧ w'.cell? ⟨w.heap.size, 1, none⟩ = some (.int .i64 (i : Int)) ∧ w'.cell? ⟨w.heap.size, 2, none⟩ = some (.pointer none) ∧ w'.cell? ⟨w.heap.size, 3, none⟩ = some (.string rq) ∧ w'.cell? ⟨w.heap.size, 4, none⟩ = some (.int .i64 0))
    (first
      | assumption
      | go_keep)
    (first | (go_at_call 10; refine hadd.mono ?_; rintro r w3 ⟨rfl, hD3, tv3, av3, G3, hF3, hb3, s3, k3⟩; have kS3 : w3.cell? ⟨w.heap.size, 0, none⟩ = some (.int .i64 (-1)) ∧ w3.cell? ⟨w.heap.size, 1, none⟩ = some (.int .i64 (i : Int)) ∧ w3.cell? ⟨w.heap.size, 2, none⟩ = some (.pointer none) ∧ w3.cell? ⟨w.heap.size, 3, none⟩ = some (.string rq) ∧ w3.cell? ⟨w.heap.size, 4, none⟩ = some (.int .i64 0) := by simp [World.cell?, hD3]))
  have hcall2 := onWay_one hF3.drew (by omega) (by omega)
  have hcD : w.heap.size ≠ e.cb := by omega
  have d4 := kS3.2.2.2.2
  clear kS3 hadd d0
  go_wp2_with fail
  go_region_held3 (fun w' => w'.cell? ⟨w.heap.size, 4, none⟩ = some (.int .i64 0))
    (first
      | assumption
      | go_keep)
    (first | (go_at_call 8; refine hcall2.mono ?_; rintro r w4 ⟨rfl, hsame, hF4, s4, k4⟩; have d44 : w4.cell? ⟨w.heap.size, 4, none⟩ = some (.int .i64 0) := (same_cell (hsame _ hcD) 4).trans d4))
  have hL' : (L ++ [(t, ((i : Int), rq))]).length = L.length + 1 := by simp
  have kk := ((Kept.drew w2 e.B e.cb).trans k3).trans ((Kept.drew w3 e.B e.cb).trans k4)
  have hfin : Sky w4 e.B e.cb e.nv e.dv (L ++ [(t, ((i : Int), rq))]) G3 := ⟨tv3, av3, by rw [hL']; exact hF4, hb3⟩
  have bfin := b2.trans (Blown.of_kept kk)
  have wfin := hW2.kept ho kk
  have sfin := s2.trans (((Spare.drew w2 G).trans s3).trans ((Spare.drew w3 G3).trans s4))
  clear hcall2 k3 k4 s2 s3 s4 hF3 hF4 kk b2
  go_wp2
  go_end0
  exact ⟨rfl, G3, hfin, wfin, sfin, bfin⟩
end Go.Proofs.YbulkaihcFmt
