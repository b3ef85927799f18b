/-
  carry (function 7) under a schedule, to every node; and submit (function 5). By the prover of seat 061 (an AI agent).
-/
import Derived.Test.YbulkaihcFmtCarryOne
namespace Go.Proofs.YbulkaihcFmt
open Go Go.MapKept Go.Maps Go.ChangeMaps Go.RowKit

/-- What carry sends of one request to the first k nodes, from call q on; what the log gains. -/
def sentTo (e : Gear) (q : Nat) (rq : ByteArray) (k : Nat) : List Sent := (List.range k).map fun i => (e.T (q + i), ((i : Int), rq))
def loggedTo (e : Gear) (q k : Nat) : List Call := (List.range k).map fun i => (e.ids i, e.T (q + i))
theorem sentTo_succ (e : Gear) (q : Nat) (rq : ByteArray) (k : Nat) : sentTo e q rq (k + 1) = sentTo e q rq k ++ [(e.T (q + k), ((k : Int), rq))] := by simp [sentTo, List.range_succ]
theorem loggedTo_succ (e : Gear) (q k : Nat) : loggedTo e q (k + 1) = loggedTo e q k ++ [(e.ids k, e.T (q + k))] := by simp [loggedTo, List.range_succ]
theorem sentTo_length (e : Gear) (q : Nat) (rq : ByteArray) (k : Nat) : (sentTo e q rq k).length = k := by simp [sentTo]
theorem loggedTo_length (e : Gear) (q k : Nat) : (loggedTo e q k).length = k := by simp [loggedTo]

/-- A write into a spare variable that holds a delivery. -/
theorem set_spare {e : Gear} {w : World} {L : List Sent} {G : List Ent} {q : Nat} {E : List Call} {D j : Nat} {c : Array Value} {v : Value} (ho : e.Ok) (h : Sky w e.B e.cb e.nv e.dv L G) (hX : Fixed e w) (hW : Wind e w q E) (hB : e.B ≤ D) (hD : w.heap[D]? = some (.cells c 49 (0, 0))) (hg : ∀ g ∈ G, g.2.1.ownBlock ≠ some D) :
    Sky (w.setCell ⟨D, j, none⟩ v) e.B e.cb e.nv e.dv L G ∧ Fixed e (w.setCell ⟨D, j, none⟩ v) ∧ Wind e (w.setCell ⟨D, j, none⟩ v) q E ∧ Blown e w (w.setCell ⟨D, j, none⟩ v) := by
  have hb : ∀ k, k ≠ D → (w.setCell ⟨D, j, none⟩ v).heap[k]? = w.heap[k]? := fun k hk => Below.heap_setCell _ _ _ _ hk
  have hs := (grownBy_setCell w ⟨D, j, none⟩ v).size
  have hBl : Blown e w (w.setCell ⟨D, j, none⟩ v) := ⟨rfl, rfl, rfl, hs, fun k _ hl => hb k (by have := hl.1; omega)⟩
  refine ⟨?_, hX.blown ho hBl, ⟨(hb _ (by have := ho.kb; omega)).trans hW.count, ?_⟩, hBl⟩
  · obtain ⟨tv, av, hF, hbare⟩ := h
    refine ⟨tv, av, hF.of_blocks hs fun k hk hc => hb k fun e1 => ?_, hbare⟩
    subst e1
    rcases hc with hc | ⟨_, hc⟩
    · have := ho.cb
      omega
    · rcases hc c 49 hD with h1 | ⟨_, g, h1, h2⟩
      · exact absurd h1 (by decide)
      · exact hg g h1 h2
  · obtain ⟨lv, h1, h2⟩ := hW.log
    refine ⟨lv, (hb _ (by have := ho.lg; omega)).trans h1, own_block h2 fun g hg' => hb g fun e1 => ?_⟩
    obtain ⟨_, c', h3⟩ := own_type h2 hg'
    rw [e1, hD] at h3
    simp at h3

attribute [local go_sem ↓] Go.wp_at_zero Go.wp_at_succ

set_option maxRecDepth 100000 in
set_option maxHeartbeats 2000000 in
theorem carry_all {e : Gear} {w : World} {L : List Sent} {G : List Ent} {q : Nat} {E : List Call} (ho : e.Ok) (h : Sky w e.B e.cb e.nv e.dv L G) (hX : Fixed e w) (hW : Wind e w q E) (rq : ByteArray) (hL : L.length ≤ 90000) (hq : q ≤ 90000) (hE : E.length ≤ 90000) (hn : e.n ≤ 256) :
    Calls Ybaf.prog 7 #[.pointer (some ⟨e.cb, 0, none⟩), .int .i64 0, .agg #[.int .i64 (-1), .int .i64 (-1), .pointer none, .string rq, .int .i64 0]] w fun r w' => r = .returned (.tuple #[]) ∧ ∃ G', Sky w' e.B e.cb e.nv e.dv (L ++ sentTo e q rq e.n) G' ∧ Wind e w' (q + e.n) (E ++ loggedTo e q e.n) ∧ Blown e w w' := by
  have hr : ∃ tv av, w.heap[e.cb]? = some (.cells (clCells e.nv tv (.map av) e.dv (L.length : Nat)) 43 (0, 0)) := by
    obtain ⟨tv, av, hF, _⟩ := h
    exact ⟨tv, av, hF.row⟩
  obtain ⟨tv, av, hr⟩ := hr
  have hcb : e.cb < w.heap.size := (Array.getElem?_eq_some_iff.1 hr).1
  have c5 : w.cell? ⟨e.cb, 5, none⟩ = some (.pointer none) := by simp [World.cell?, hr, clCells]
  have c0 : w.cell? ⟨e.cb, 0, none⟩ = some (.slice (some ⟨e.nb, 0, none⟩) e.n e.n) := by simp [World.cell?, hr, clCells, Gear.nv]
  have c4 : w.cell? ⟨e.cb, 4, none⟩ = some (.func (.func 6) #[] #[.pointer (some ⟨e.A, 0, none⟩), .pointer (some ⟨e.kb, 0, none⟩), .pointer (some ⟨e.lg, 0, none⟩)]) := by simp [World.cell?, hr, clCells, Gear.dv]
  have hgD : ∀ g ∈ G, g.2.1.ownBlock ≠ some w.heap.size := by
    obtain ⟨tv, av, hF, hb⟩ := h
    intro g hg e
    have := ((hF.vals g hg).1.lt _ e).2
    omega
  have k1 := Kept.alloc w (.cells (dArr (-1, rq)) 49) e.B e.cb
  have hD1 : (w.alloc (.cells (dArr (-1, rq)) 49)).heap[w.heap.size]? = some (.cells (dArr (-1, rq)) 49 (0, 0)) := (MapKept.heap_alloc w _).1
  have hX1 := hX.blown ho (Blown.of_kept k1)
  have hW1 := hW.kept ho k1
  have hS1 : Sky (w.alloc (.cells (dArr (-1, rq)) 49)) e.B e.cb e.nv e.dv L G := by
    obtain ⟨tv, av, hF, hb⟩ := h
    exact ⟨tv, av, hF.alloc _, hb⟩
  have hBw := hX.size
  have hnf := neq_func 6
  have hstart : ∃ (k : Nat) (G' : List Ent) (x : Int), k ≤ e.n ∧ (Value.int .i64 0) = .int .i64 (k : Nat) ∧ Sky (w.alloc (.cells (dArr (-1, rq)) 49)) e.B e.cb e.nv e.dv (L ++ sentTo e q rq k) G' ∧ Fixed e (w.alloc (.cells (dArr (-1, rq)) 49)) ∧ Wind e (w.alloc (.cells (dArr (-1, rq)) 49)) (q + k) (E ++ loggedTo e q k) ∧ Blown e w (w.alloc (.cells (dArr (-1, rq)) 49)) ∧ (w.alloc (.cells (dArr (-1, rq)) 49)).heap[w.heap.size]? = some (.cells (dArr (x, rq)) 49 (0, 0)) ∧ ∀ g ∈ G', g.2.1.ownBlock ≠ some w.heap.size :=
    ⟨0, G, -1, Nat.zero_le _, rfl, by simpa [sentTo] using hS1, hX1, by simpa [loggedTo] using hW1, Blown.of_kept k1, hD1, hgD⟩
  unfold dArr at hstart
  clear hS1 hX1 hW1 hD1 k1 hgD h hX hW hr
  go_enter Ybaf.func7, Ybaf.ntmps7
  go_wp2_with fail
  go_loopw [41] (fun i wi => ∃ (k : Nat) (G' : List Ent) (x : Int), k ≤ e.n ∧ i = .int .i64 (k : Nat) ∧ Sky wi e.B e.cb e.nv e.dv (L ++ sentTo e q rq k) G' ∧ Fixed e wi ∧ Wind e wi (q + k) (E ++ loggedTo e q k) ∧ Blown e w wi ∧ wi.heap[w.heap.size]? = some (.cells #[.int .i64 (-1), .int .i64 x, .pointer none, .string rq, .int .i64 0] 49 (0, 0)) ∧ ∀ g ∈ G', g.2.1.ownBlock ≠ some w.heap.size) (fun i _ => e.n - (intOf i).toNat)
  case atStart => exact hstart
  case round =>
    clear hstart c0 c4 c5 hnf
    obtain ⟨k, G', x, hk, rfl, hS, hX, hW, hB, hD, hg⟩ := hrel
    by_cases hlt : k < e.n
    · obtain ⟨hS1, hX1, hW1, hB1⟩ := set_spare (j := 1) (v := .int .i64 (k : Int)) ho hS hX hW hBw hD hg
      have hD1 : (wr.setCell ⟨w.heap.size, 1, none⟩ (.int .i64 (k : Int))).heap[w.heap.size]? = some (.cells (dArr ((k : Int), rq)) 49 (0, 0)) := by
        simp [World.setCell, Array.getElem?_modify, hD, dArr]
      have d0 : wr.cell? ⟨w.heap.size, 0, none⟩ = some (.int .i64 (-1)) := by simp [World.cell?, hD]
      have d1 : wr.cell? ⟨w.heap.size, 1, none⟩ = some (.int .i64 x) := by simp [World.cell?, hD]
      have f1 : wr.frozen? ⟨w.heap.size, 1, none⟩ = false := by simp [World.frozen?, hD]
      have d2 : wr.cell? ⟨w.heap.size, 2, none⟩ = some (.pointer none) := by simp [World.cell?, hD]
      have d3 : wr.cell? ⟨w.heap.size, 3, none⟩ = some (.string rq) := by simp [World.cell?, hD]
      have d4 : wr.cell? ⟨w.heap.size, 4, none⟩ = some (.int .i64 0) := by simp [World.cell?, hD]
      have hcall := carry_one ho hS1 hX1 hW1 k hlt rq (by rw [List.length_append, sentTo_length]; omega) (by omega) (by rw [List.length_append, loggedTo_length]; omega)
      rw [List.append_assoc, ← sentTo_succ, List.append_assoc, ← loggedTo_succ] at hcall
      clear hS hX hW hD hS1 hW1
      go_wp2_with fail
      refine hcall.mono ?_
      rintro r w1 ⟨rfl, G2, hS2, hW2, s2, b2⟩
      obtain ⟨hD2, hg2⟩ := s2 _ _ hD1 hg
      have hX2 := hX1.blown ho b2
      have hB2 := hB.trans (hB1.trans b2)
      unfold dArr at hD2
      clear hcall hX1 hB hB1 b2 s2 hD1 hg d0 d1 d2 d3 d4 f1
      go_wp2
      go_roundw
      case rel => exact ⟨k + 1, G2, (k : Int), by omega, by go_num, hS2, hX2, by rw [← Nat.add_assoc]; exact hW2, hB2, hD2, hg2⟩
      case measure => simp [intOf]; omega
    · obtain rfl : k = e.n := by omega
      go_wp2
      refine bodyPost_ret (results_none rfl _ _ _) rfl ?_
      exact ⟨rfl, G', hS, hW, hB⟩
end Go.Proofs.YbulkaihcFmt
