/-
  'LawS1705CSchedule' (function 4): up to submit. By the prover of seat 061 (an AI agent).
-/
import Derived.Test.YbulkaihcFmtSubmitAll
import Derived.Test.YbulkaihcFmtUnitWalk
import Derived.Deep.OwnRows
namespace Go.Proofs.YbulkaihcFmt
open Go Go.MapKept Go.Maps Go.ChangeMaps Go.RowKit

theorem info51 : (Ybaf.prog.info? 51).map (fun i => (i.zero, i.size, decide (i.bytes ≤ 64))) = some (some (.pointer none), 1, true) := by kernel_rfl
theorem make_nodes (n : Nat) (hn : n ≤ 256) (w : World) : (Instr.makeSlice 24 (.int .i64 (n : Int)) (.int .i64 (n : Int))).run Ybaf.prog w = .ok (.slice (some ⟨w.heap.size, 0, none⟩) n n) (w.alloc (.cells (madeCells #[.pointer none] n) 51)) := by
  have h1 := info51
  cases hi : Ybaf.prog.info? 51 with
  | none => rw [hi] at h1; cases h1
  | some i =>
    rw [hi] at h1
    simp at h1
    obtain ⟨hz, hs, hb⟩ := h1
    have hbb : (i.bytes : Int) * (n : Int) ≤ 281474976710656 := by
      have : i.bytes * n ≤ 64 * 256 := Nat.mul_le_mul hb hn
      have : ((i.bytes * n : Nat) : Int) ≤ 281474976710656 := by omega
      rwa [Int.natCast_mul] at this
    have hr := run_make (P := Ybaf.prog) w 24 51 i (.pointer none) Ybaf.underlying24 hi hz .i64 .i64 n n (by omega) (Int.le_refl _) hbb (by omega)
    simp only [Int.toNat_natCast, hs, Nat.mul_one] at hr
    exact hr

/-- The nodes, as they are made. -/
structure Nodes (w wi : World) (s n k : Nat) (ids : Nat → Int) (bx : Value) : Prop where
  below : Below s w wi
  size : wi.heap.size = s + 2 + 2 * k
  box : wi.heap[s]? = some (.cells #[bx] 35 (0, 0))
  row : wi.rowIs (s + 1) 51 n (fun i => if i < k then .pointer (some ⟨s + 3 + 2 * i, 0, none⟩) else .pointer none)
  node : ∀ i, i < k → wi.cell? ⟨s + 3 + 2 * i, 0, none⟩ = some (.pointer (some ⟨s + 2 + 2 * i, 0, none⟩)) ∧ wi.cell? ⟨s + 2 + 2 * i, 0, none⟩ = some (.int .i64 (ids i))

theorem Nodes.start (w : World) (n : Nat) (ids : Nat → Int) (bx : Value) : Nodes w ((w.alloc (.cells #[bx] 35)).alloc (.cells (madeCells #[.pointer none] n) 51)) w.heap.size n 0 ids bx := by
  refine ⟨⟨rfl, rfl, rfl, by simp; omega, fun k hk => (Below.heap_alloc _ _ _ (by simp; omega)).trans (Below.heap_alloc _ _ _ hk)⟩, by simp, (Below.heap_alloc _ _ _ (by simp)).trans (MapKept.heap_alloc w _).1, ?_, by omega⟩
  have := World.rowIs_made (w.alloc (.cells #[bx] 35)) (.pointer none) n 51
  simpa using this

theorem Nodes.step {w wi : World} {n k : Nat} {ids : Nat → Int} {bx : Value} {c1 c2 : Array Value} (h : Nodes w wi w.heap.size n k ids bx) (h1 : c1[0]? = some (.int .i64 (ids k))) (h2 : c2[0]? = some (.pointer (some ⟨wi.heap.size, 0, none⟩))) :
    Nodes w (((wi.setCell ⟨w.heap.size + 1, k, none⟩ (.pointer (some ⟨wi.heap.size + 1, 0, none⟩))).alloc (.cells c1 61)).alloc (.cells c2 67)) w.heap.size n (k + 1) ids bx := by
  have hs := h.size
  obtain ⟨x, hx⟩ : ∃ x, x = wi.setCell ⟨w.heap.size + 1, k, none⟩ (.pointer (some ⟨wi.heap.size + 1, 0, none⟩)) := ⟨_, rfl⟩
  have hxs : x.heap.size = wi.heap.size := by rw [hx]; simp
  have hxb : ∀ j, j ≠ w.heap.size + 1 → x.heap[j]? = wi.heap[j]? := fun j hj => by rw [hx]; exact Below.heap_setCell _ _ _ _ hj
  have hxr : x.rowIs (w.heap.size + 1) 51 n (fun i => if i < k + 1 then .pointer (some ⟨w.heap.size + 3 + 2 * i, 0, none⟩) else .pointer none) := by
    rw [hx]
    refine (h.row.set k _).congr ?_
    intro i _
    by_cases e : i = k
    · subst e
      simp [hs]
    · by_cases e2 : i < k
      · simp [e, e2, show i < k + 1 by omega]
      · simp [e, e2, show ¬ i < k + 1 by omega]
  rw [← hx]
  have hb2 : ∀ j, j < wi.heap.size → ((x.alloc (.cells c1 61)).alloc (.cells c2 67)).heap[j]? = x.heap[j]? := fun j hj =>
    (Below.heap_alloc _ _ _ (by simp; omega)).trans (Below.heap_alloc _ _ _ (by omega))
  have hc : ∀ j i, j < wi.heap.size → j ≠ w.heap.size + 1 → ((x.alloc (.cells c1 61)).alloc (.cells c2 67)).cell? ⟨j, i, none⟩ = wi.cell? ⟨j, i, none⟩ := fun j i hj hne =>
    same_cell ((hb2 j hj).trans (hxb j hne)) i
  have hn1 : ((x.alloc (.cells c1 61)).alloc (.cells c2 67)).heap[wi.heap.size]? = some (.cells c1 61 (0, 0)) := by
    refine (Below.heap_alloc _ _ _ (by simp; omega)).trans ?_
    rw [← hxs]
    exact (MapKept.heap_alloc x _).1
  have hn2 : ((x.alloc (.cells c1 61)).alloc (.cells c2 67)).heap[wi.heap.size + 1]? = some (.cells c2 67 (0, 0)) := by
    have := (MapKept.heap_alloc (x.alloc (.cells c1 61)) (.cells c2 67)).1
    rw [show (x.alloc (.cells c1 61)).heap.size = wi.heap.size + 1 from by simp [hxs]] at this
    exact this
  refine ⟨⟨by rw [hx]; exact h.below.os, by rw [hx]; exact h.below.tape, by rw [hx]; exact h.below.output, ?_, fun j hj => ?_⟩, ?_, ?_, ?_, fun i hi => ?_⟩
  · have := h.below.size
    simp
    omega
  · exact (hb2 j (by omega)).trans ((hxb j (by omega)).trans (h.below.block j hj))
  · simp
    omega
  · exact (hb2 _ (by omega)).trans ((hxb _ (by omega)).trans h.box)
  · exact hxr.of_block (hb2 _ (by omega))
  · by_cases e : i = k
    · subst e
      refine ⟨?_, ?_⟩
      · rw [show w.heap.size + 3 + 2 * i = wi.heap.size + 1 by omega, show w.heap.size + 2 + 2 * i = wi.heap.size by omega]
        simp only [World.cell?, hn2]
        simpa using h2
      · rw [show w.heap.size + 2 + 2 * i = wi.heap.size by omega]
        simp only [World.cell?, hn1]
        simpa using h1
    · obtain ⟨a, b⟩ := h.node i (by omega)
      exact ⟨(hc _ _ (by omega) (by omega)).trans a, (hc _ _ (by omega) (by omega)).trans b⟩

/-- Where the law's variables lie, x blocks being there when the nodes are made. -/
def gearOf (s x n : Nat) (dad : Option Addr) (db doff dl dc : Nat) (ids Ds : Nat → Int) : Gear :=
  { B := x + 3, cb := x + 2, A := s, kb := x + 1, lg := x, nb := s + 1, n := n, dad := dad, db := db, doff := doff, dl := dl, dc := dc, N := fun i => s + 3 + 2 * i, P := fun i => s + 2 + 2 * i, ids := ids, Ds := Ds }

/-- What submit is handed. -/
theorem gear_start {w wr : World} {n : Nat} {dad : Option Addr} {db doff dl dc : Nat} {ids Ds : Nat → Int} (h : Nodes w wr w.heap.size n n ids (.slice dad dl dc)) (hbd : 0 < dl → db < w.heap.size) (hDs : ∀ i, i < dl → 0 ≤ Ds i ∧ Ds i ≤ 255)
    (hid : ∀ (i : Nat) (W : World), i < dl → (Instr.indexAt 35 (.slice dad dl dc) (.int .i64 (i : Int))).run Ybaf.prog W = .ok (.pointer (some ⟨db, doff + i, none⟩)) W)
    (hcd : ∀ i, i < dl → w.cell? ⟨db, doff + i, none⟩ = some (.int .u8 (Ds i))) {c : Array Value} {e : Gear} (he : e = gearOf w.heap.size wr.heap.size n dad db doff dl dc ids Ds) (hc : c = clCells e.nv (.slice none 0 0) (.map none) e.dv 0) {W : World} (hW : W = ((wr.alloc (.cells #[.slice none 0 0] 68)).alloc (.cells #[.int .i64 0] 3)).alloc (.cells c 43)) :
    e.Ok ∧ Sky W e.B e.cb e.nv e.dv [] [] ∧ Fixed e W ∧ Wind e W 0 [] ∧ Below w.heap.size w W ∧ (∀ b, b < w.heap.size → e.Low b) := by
  have hs := h.size
  have hWs : W.heap.size = wr.heap.size + 3 := by rw [hW]; simp
  have hb : ∀ j, j < wr.heap.size → W.heap[j]? = wr.heap[j]? := fun j hj => by
    rw [hW]
    exact (Below.heap_alloc _ _ _ (by simp; omega)).trans ((Below.heap_alloc _ _ _ (by simp; omega)).trans (Below.heap_alloc _ _ _ hj))
  have hlg : W.heap[wr.heap.size]? = some (.cells #[.slice none 0 0] 68 (0, 0)) := by
    rw [hW]
    exact (Below.heap_alloc _ _ _ (by simp; omega)).trans ((Below.heap_alloc _ _ _ (by simp)).trans (MapKept.heap_alloc wr _).1)
  have hkb : W.heap[wr.heap.size + 1]? = some (.cells #[.int .i64 0] 3 (0, 0)) := by
    rw [hW]
    have := (MapKept.heap_alloc (wr.alloc (.cells #[.slice none 0 0] 68)) (.cells #[.int .i64 0] 3)).1
    rw [show (wr.alloc (.cells #[.slice none 0 0] 68)).heap.size = wr.heap.size + 1 from by simp] at this
    exact (Below.heap_alloc _ _ _ (by simp)).trans this
  have hcb : W.heap[wr.heap.size + 2]? = some (.cells c 43 (0, 0)) := by
    rw [hW]
    have := (MapKept.heap_alloc ((wr.alloc (.cells #[.slice none 0 0] 68)).alloc (.cells #[.int .i64 0] 3)) (.cells c 43)).1
    rw [show ((wr.alloc (.cells #[.slice none 0 0] 68)).alloc (.cells #[.int .i64 0] 3)).heap.size = wr.heap.size + 2 from by simp] at this
    exact this
  have hbel : Below w.heap.size w W := ⟨by rw [hW]; exact h.below.os, by rw [hW]; exact h.below.tape, by rw [hW]; exact h.below.output, by omega, fun j hj => (hb j (by omega)).trans (h.below.block j hj)⟩
  have hlow : ∀ b, b < wr.heap.size → e.Low b := fun b hb' => by
    rw [he]
    show b < wr.heap.size + 3 ∧ b ≠ wr.heap.size + 2 ∧ b ≠ wr.heap.size + 1 ∧ b ≠ wr.heap.size
    omega
  refine ⟨⟨?_, ?_, ?_, ?_, ?_, ?_, ?_, ?_, ?_⟩, ⟨.slice none 0 0, none, ⟨?_, World.ownsRow_nil _ _ _ _, by simp, by simp, by simp, by simp, ?_⟩, rfl⟩, ⟨?_, ?_, ?_, ?_⟩, ⟨?_, .slice none 0 0, ?_, World.ownsRow_nil _ _ _ _⟩, hbel, fun b hb' => hlow b (by omega)⟩
  · rw [he]; show wr.heap.size + 2 < wr.heap.size + 3; omega
  · exact (by rw [he]; rfl : e.A = w.heap.size) ▸ hlow w.heap.size (by omega)
  · intro hd
    have hd : 0 < dl := by rw [he] at hd; exact hd
    exact (by rw [he]; rfl : e.db = db) ▸ hlow db (by have := hbd hd; omega)
  · intro i hi
    have hi : i < n := by rw [he] at hi; exact hi
    refine ⟨?_, ?_, ?_⟩
    · exact (by rw [he]; rfl : e.nb = w.heap.size + 1) ▸ hlow (w.heap.size + 1) (by omega)
    · exact (by rw [he]; rfl : e.N i = w.heap.size + 3 + 2 * i) ▸ hlow (w.heap.size + 3 + 2 * i) (by omega)
    · exact (by rw [he]; rfl : e.P i = w.heap.size + 2 + 2 * i) ▸ hlow (w.heap.size + 2 + 2 * i) (by omega)
  · rw [he]; show wr.heap.size + 1 < wr.heap.size + 3 ∧ wr.heap.size + 1 ≠ wr.heap.size + 2; omega
  · rw [he]; show wr.heap.size < wr.heap.size + 3 ∧ wr.heap.size ≠ wr.heap.size + 2; omega
  · rw [he]; show wr.heap.size + 1 ≠ wr.heap.size; omega
  · rw [he]; exact hDs
  · rw [he]; exact fun i W hi => hid i W hi
  · rw [hc] at hcb
    rw [show e.cb = wr.heap.size + 2 from by rw [he]; rfl]
    exact hcb
  · rw [he]; show wr.heap.size + 2 < wr.heap.size + 3 ∧ wr.heap.size + 3 ≤ W.heap.size; omega
  · rw [he]
    show W.cell? ⟨w.heap.size, 0, none⟩ = _
    simp only [World.cell?, hb w.heap.size (by omega), h.box]
    rfl
  · rw [he]
    exact fun i hi => (hbel.cell (p := ⟨db, doff + i, none⟩) (hbd (Nat.lt_of_le_of_lt (Nat.zero_le i) hi))).trans (hcd i hi)
  · rw [he]
    intro i hi
    have hi : i < n := hi
    obtain ⟨a1, a2⟩ := h.node i hi
    have a0 := h.row.cell hi
    rw [if_pos hi] at a0
    exact ⟨(same_cell (hb (w.heap.size + 1) (by omega)) _).trans a0, (same_cell (hb (w.heap.size + 3 + 2 * i) (by omega)) _).trans a1, (same_cell (hb (w.heap.size + 2 + 2 * i) (by omega)) _).trans a2⟩
  · rw [he]; show wr.heap.size + 3 ≤ W.heap.size; omega
  · rw [he]; exact hkb
  · rw [he]; exact hlg
end Go.Proofs.YbulkaihcFmt
