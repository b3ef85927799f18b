/-
  onWay (function 8) and carry (function 7) under the unit-delay schedule. By the prover of seat 061 (an AI agent).
-/
import Derived.Test.YbulkaihcFmtSky
namespace Go.Proofs.YbulkaihcFmt
open Go Go.MapKept Go.Maps Go.ChangeMaps Go.RowKit

theorem onWay_one {w : World} {B cb : Nat} {nv dv : Value} {st : Int} {tv : Value} {ts : List Int} {av : Option Nat} {G : List Ent} (h : Fly w B cb nv dv st tv ts av G) (h0 : 0 ≤ st) (h1 : st ≤ 1000000) :
    Calls Ybaf.prog 8 #[.pointer (some ⟨cb, 11, none⟩), .int .i64 0, .int .i64 1] w fun e w' => e = .returned (.tuple #[]) ∧ (∀ k, k ≠ cb → w'.heap[k]? = w.heap[k]?) ∧ Fly w' B cb nv dv (st + 1) tv ts av G ∧ Spare w G w' G ∧ Kept w w' B cb := by
  have hr := h.row
  have hcb : cb < w.heap.size := (Array.getElem?_eq_some_iff.1 hr).1
  have c12 : w.cell? ⟨cb, 12, none⟩ = some (.int .i64 st) := by simp [World.cell?, hr, clCells]
  have f12 : w.frozen? ⟨cb, 12, none⟩ = false := by simp [World.frozen?, hr]
  obtain ⟨h2, k2⟩ := h.stir (st + 1)
  have s2 := Spare.set (i := 12) (v := .int .i64 (st + 1)) hr G
  clear hr h
  go_enter Ybaf.func8, Ybaf.ntmps8
  go_wp2
  go_end0
  exact ⟨rfl, fun k hk => Below.heap_setCell _ _ _ _ hk, h2, s2, k2⟩

/-- What is in flight after L was sent. -/
def Sky (w : World) (B cb : Nat) (nv dv : Value) (L : List Sent) (G : List Ent) : Prop := ∃ tv av, Fly w B cb nv dv (L.length : Nat) tv (timesOf L) av G ∧ bare G = rowsOf L

/-- add and onWay, on what is in flight. -/
theorem Sky.add {w : World} {B cb : Nat} {nv dv : Value} {L : List Sent} {G : List Ent} (h : Sky w B cb nv dv L G) (t to : Int) (rq : ByteArray) (ht0 : 0 ≤ t) (ht1 : t ≤ 1000000) (hL : L.length ≤ 500000) {D : Nat} {c : Array Value} (hD : w.heap[D]? = some (.cells c 49 (0, 0))) (hg : ∀ g ∈ G, g.2.1.ownBlock ≠ some D) :
    Calls Ybaf.prog 10 #[.pointer (some ⟨cb, 1, none⟩), .int .i64 t, .agg #[.int .i64 (-1), .int .i64 to, .pointer none, .string rq, .int .i64 0]] w fun e w' => e = .returned (.tuple #[]) ∧ w'.heap[D]? = some (.cells c 49 (0, 0)) ∧ ∃ tv' av' G', Fly w' B cb nv dv (L.length : Nat) tv' (timesOf (L ++ [(t, (to, rq))])) av' G' ∧ bare G' = rowsOf (L ++ [(t, (to, rq))]) ∧ Spare w G w' G' ∧ Kept w w' B cb := by
  obtain ⟨tv, av, hF, hb⟩ := h
  have hR := right_of L
  have hlen := timesOf_le L []
  simp only [List.length_nil, Nat.zero_add] at hlen
  refine (add_any hF t to rq ht0 ht1 (fun u => by rw [hb]; exact hR.keys u) (Nat.le_trans hlen (by omega)) (fun g hg => by
    rw [hb] at hg
    rw [hR.rows g hg]
    exact Nat.le_trans (sentAt_le _ _) (by omega)) hR.sorted).mono ?_
  rintro e w' ⟨rfl, tv', av', G', h1, h2, h3, h4⟩
  exact ⟨rfl, (h3 D c hD hg).1, tv', av', G', by rw [timesOf_snoc]; exact h1, by rw [rowsOf_snoc, h2, hb], h3, h4⟩

theorem same_cell {w w' : World} {k : Nat} (h : w'.heap[k]? = w.heap[k]?) (i : Nat) : w'.cell? ⟨k, i, none⟩ = w.cell? ⟨k, i, none⟩ := by
  simp only [World.cell?, h]
theorem neq_nilFunc (W : World) : (binOp .neq 31 .nilFunc .nilFunc).run Ybaf.prog W = .ok (.bool false) W := by kernel_rfl

attribute [local go_sem ↓] Go.wp_at_zero Go.wp_at_succ

set_option maxRecDepth 100000 in
set_option maxHeartbeats 1000000 in
theorem carry_unit {w : World} {B cb : Nat} {nv : Value} {L : List Sent} {G : List Ent} (h : Sky w B cb nv .nilFunc L G) (rq : ByteArray) (hL : L.length ≤ 500000) :
    Calls Ybaf.prog 7 #[.pointer (some ⟨cb, 0, none⟩), .int .i64 0, .agg #[.int .i64 (-1), .int .i64 (-1), .pointer none, .string rq, .int .i64 0]] w fun e w' => e = .returned (.tuple #[]) ∧ ∃ G', Sky w' B cb nv .nilFunc (L ++ [(1, (-1, rq))]) G' ∧ Spare w G w' G' ∧ Kept w w' B cb := by
  have hr : ∃ tv av, w.heap[cb]? = some (.cells (clCells nv tv (.map av) .nilFunc (L.length : Nat)) 43 (0, 0)) := by
    obtain ⟨tv, av, hF, _⟩ := h
    exact ⟨tv, av, hF.row⟩
  obtain ⟨tv, av, hr⟩ := hr
  have hcb : cb < w.heap.size := (Array.getElem?_eq_some_iff.1 hr).1
  have c4 : w.cell? ⟨cb, 4, none⟩ = some .nilFunc := by simp [World.cell?, hr, clCells]
  have c5 : w.cell? ⟨cb, 5, none⟩ = some (.pointer none) := by simp [World.cell?, hr, clCells]
  have h1 : Sky (w.alloc (.cells (dArr (-1, rq)) 49)).drew B cb nv .nilFunc L G := by
    obtain ⟨tv, av, hF, hb⟩ := h
    exact ⟨tv, av, (hF.alloc _).drew, hb⟩
  have hgD : ∀ g ∈ G, g.2.1.ownBlock ≠ some w.heap.size := by
    obtain ⟨tv, av, hF, hb⟩ := h
    intro g hg e
    have := ((hF.vals g hg).1.lt _ e).2
    omega
  have hcall := h1.add 1 (-1) rq (by omega) (by omega) hL (D := w.heap.size) (MapKept.heap_alloc w _).1 hgD
  have k1 := (Kept.alloc w (.cells (dArr (-1, rq)) 49) B cb).trans (Kept.drew _ B cb)
  have s1 := (Spare.alloc w (.cells (dArr (-1, rq)) 49) G).trans (Spare.drew _ G)
  have hL' : (L ++ [((1 : Int), ((-1 : Int), rq))]).length = L.length + 1 := by simp
  unfold dArr at hcall k1 s1
  clear hr h h1 hgD
  go_enter Ybaf.func7, Ybaf.ntmps7
  have hnf := neq_nilFunc
  go_wp2_with fail
  go_region_held3 (fun w' => w'.cell? ⟨w.heap.size, 0, none⟩ = some (.int .i64 (-1)) ∧ w'.cell? ⟨w.heap.size, 1, none⟩ = some (.int .i64 (-1)) ∧ w'.cell? ⟨w.heap.size, 2, none⟩ = some (.pointer none) ∧ w'.cell? ⟨w.heap.size, 3, none⟩ = some (.string rq) ∧ w'.cell? ⟨w.heap.size, 4, none⟩ = some (.int .i64 0))
    (first
      | assumption
      | go_keep)
    (first | (go_at_call 10; refine hcall.mono ?_; rintro e w2 ⟨rfl, hD2, tv2, av2, G2, hF2, hb2, s2, k2⟩; have kS2 : w2.cell? ⟨w.heap.size, 0, none⟩ = some (.int .i64 (-1)) ∧ w2.cell? ⟨w.heap.size, 1, none⟩ = some (.int .i64 (-1)) ∧ w2.cell? ⟨w.heap.size, 2, none⟩ = some (.pointer none) ∧ w2.cell? ⟨w.heap.size, 3, none⟩ = some (.string rq) ∧ w2.cell? ⟨w.heap.size, 4, none⟩ = some (.int .i64 0) := by simp [World.cell?, hD2]))
  have hcall2 := onWay_one hF2.drew (by omega) (by omega)
  have hcD : w.heap.size ≠ cb := by omega
  have d4 := kS2.2.2.2.2
  clear kS2 hcall
  go_wp2_with fail
  go_region_held3 (fun w' => w'.cell? ⟨w.heap.size, 4, none⟩ = some (.int .i64 0))
    (first
      | assumption
      | go_keep)
    (first | (go_at_call 8; refine hcall2.mono ?_; rintro e w3 ⟨rfl, hsame, hF3, s3, k3⟩; have d43 : w3.cell? ⟨w.heap.size, 4, none⟩ = some (.int .i64 0) := (same_cell (hsame _ hcD) 4).trans d4))
  have hfin : Sky w3 B cb nv .nilFunc (L ++ [(1, (-1, rq))]) G2 := ⟨tv2, av2, by rw [hL']; exact hF3, hb2⟩
  have kfin := k1.trans (k2.trans ((Kept.drew w2 B cb).trans k3))
  have sfin := s1.trans (s2.trans ((Spare.drew w2 G2).trans s3))
  clear hcall2 k1 k2 k3 s1 s2 s3 hF3 hF2
  go_wp2
  go_end0
  exact ⟨rfl, G2, hfin, sfin, kfin⟩
end Go.Proofs.YbulkaihcFmt
