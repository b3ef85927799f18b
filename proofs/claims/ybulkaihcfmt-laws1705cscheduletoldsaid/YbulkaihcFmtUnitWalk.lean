/-
  'LawS1705CUnitDelay' (function 3): the walk. By the prover of seat 061 (an AI agent).
-/
import Derived.Test.YbulkaihcFmtSubmit
namespace Go.Proofs.YbulkaihcFmt
open Go Go.MapKept Go.Maps Go.ChangeMaps Go.RowKit

theorem unit_times (R : Nat → ByteArray) (k : Nat) : timesOf (unitL R (k + 1)) = [1] ∧ rowsOf (unitL R (k + 1)) = [(1, (List.range (k + 1)).map fun i => (-1, R i))] := by
  induction k with
  | zero => exact ⟨rfl, rfl⟩
  | succ k ih =>
    rw [unitL_succ R (k + 1), timesOf_snoc, rowsOf_snoc, ih.1, ih.2]
    refine ⟨rfl, ?_⟩
    simp [push, List.range_succ]

theorem eq_same (s : ByteArray) (t : Int) (W : World) : (Op.equalIn 10000 49 (.agg #[.int .i64 (-1), .int .i64 t, .pointer none, .string s, .int .i64 0]) (.agg #[.int .i64 (-1), .int .i64 t, .pointer none, .string s, .int .i64 0])).run Ybaf.prog W = .ok true W := by
  have hS : Ybaf.prog.underlying 49 = some (.struct (Ybaf.prog.fieldsOf 49)) := by kernel_rfl
  have hP : Ybaf.prog.underlying 46 = some (.pointer (Ybaf.prog.pointee 46)) := by kernel_rfl
  have hp : Ybaf.prog.stoodInHeld 49 = false := by kernel_rfl
  have e46 := fun d => run_equalIn_pointer_nil W d 46 none hP
  rw [show (10000 : Nat) = 9998 + 1 + 1 from rfl, run_equalIn_agg W 9999 49 _ _ hS hp]
  simp only [Program.fieldsOf, Ybaf.underlying49]
  simp [Op.eqFields, go_sem, e46]
theorem neq_same (s : ByteArray) (t : Int) (W : World) : (binOp .neq 49 (.agg #[.int .i64 (-1), .int .i64 t, .pointer none, .string s, .int .i64 0]) (.agg #[.int .i64 (-1), .int .i64 t, .pointer none, .string s, .int .i64 0])).run Ybaf.prog W = .ok (.bool false) W := by
  rw [run_neq_struct, eq_same]
  rfl

theorem delCells_get : ∀ (ds : List Del) (i j : Nat) (d : Del), ds[i]? = some d → j < 5 → (delCells ds)[i * 5 + j]? = (dArr d)[j]?
  | [], i, j, d, h, _ => by simp at h
  | a :: r, 0, j, d, h, hj => by
    simp at h
    subst h
    have hl : (dArr a).toList.length = 5 := by simp [dArr]
    show (delCells (a :: r))[0 * 5 + j]? = _
    rw [delCells, List.flatMap_cons, List.getElem?_append_left (by omega)]
    simp
  | a :: r, i + 1, j, d, h, hj => by
    have hl : (dArr a).toList.length = 5 := by simp [dArr]
    rw [delCells, List.flatMap_cons, List.getElem?_append_right (by omega), hl, show (i + 1) * 5 + j - 5 = i * 5 + j from by omega]
    exact delCells_get r i j d (by simpa using h) hj
/-- A delivery of an owned row. -/
theorem row_cell {W : World} {B gd n c : Nat} {ds : List Del} (hv : W.ownsRow B 49 5 (.slice (some ⟨gd, 0, none⟩) n c) n (delCells ds)) {i : Nat} {d : Del} (hi : ds[i]? = some d) (hn : i < n) :
    W.cell? ⟨gd, i * 5, none⟩ = some (.int .i64 (-1)) ∧ W.cell? ⟨gd, i * 5 + 1, none⟩ = some (.int .i64 d.1) ∧ W.cell? ⟨gd, i * 5 + 2, none⟩ = some (.pointer none) ∧ W.cell? ⟨gd, i * 5 + 3, none⟩ = some (.string d.2) ∧ W.cell? ⟨gd, i * 5 + 4, none⟩ = some (.int .i64 0) := by
  have h := fun j (hj : j < 5) => (hv.cellAt (i * 5 + j) (by omega)).trans (delCells_get ds i j d hi hj)
  exact ⟨h 0 (by omega), h 1 (by omega), h 2 (by omega), h 3 (by omega), h 4 (by omega)⟩
theorem index_row (g n c i : Nat) (W : World) (hi : i < n) :
    (Instr.indexAt 45 (.slice (some ⟨g, 0, none⟩) n c) (.int .i64 (i : Int))).run Ybaf.prog W = .ok (.pointer (some ⟨g, i * 5, none⟩)) W := by
  have hadd : (⟨g, 0, none⟩ : Addr).add (i * 5) = ⟨g, i * 5, none⟩ := by
    unfold Addr.add
    split
    · rename_i h0; rw [h0]
    · simp
  simp [Instr.indexAt, asIntOf, run_underlying Ybaf.underlying45, hi, hadd, Result.andThen]

theorem len_nilMap (ty : TypeId) (W : World) : (Builtin.len_ #[26] ty #[.map none]).run Ybaf.prog W = .ok (.int .i64 0) W := by kernel_rfl

theorem Kept.below {w w' : World} {o : Obj} (h : Kept (w.alloc o) w' (w.heap.size + 1) w.heap.size) : Below w.heap.size w w' := by
  have := h.size
  simp at this
  refine ⟨h.os, h.tape, h.output, by omega, fun k hk => ?_⟩
  exact (h.block k (by simp; omega) (by omega) (Or.inl (by omega))).trans (Below.heap_alloc w o k hk)

theorem unit_long (ad : Option Addr) (len cap : Nat) (w : World) (hl : (1024 : Int) < len) : Calls Ybaf.prog 3 #[.slice ad len cap] w fun e w' => e = .returned (.bool true) ∧ Below w.heap.size w w' := by
  go_enter Ybaf.func3, Ybaf.ntmps3
  go_wp2
  go_ret
  exact ⟨rfl, Below.refl _ _⟩

set_option maxRecDepth 100000 in
set_option maxHeartbeats 1000000 in
theorem unit_walk (ad : Option Addr) (b off len cap : Nat) (R : Nat → ByteArray) (w : World) (hlen : len ≤ 1024) (hb : 0 < len → b < w.heap.size)
    (hidx : ∀ (i : Nat) (W : World), i < len → (Instr.indexAt 22 (.slice ad len cap) (.int .i64 (i : Int))).run Ybaf.prog W = .ok (.pointer (some ⟨b, off + i, none⟩)) W)
    (hc : ∀ i, i < len → w.cell? ⟨b, off + i, none⟩ = some (.string (R i))) :
    Calls Ybaf.prog 3 #[.slice ad len cap] w fun e w' => e = .returned (.bool true) ∧ Below w.heap.size w w' := by
  have hl : ¬ (1024 : Int) < (len : Int) := by omega
  go_enter Ybaf.func3, Ybaf.ntmps3
  go_wp2_with fail
  have h0 : Sky (w.alloc (.cells (clCells (.slice none 0 0) (.slice none 0 0) (.map none) .nilFunc 0) 43)) (w.heap.size + 1) w.heap.size (.slice none 0 0) .nilFunc [] [] := by
    refine ⟨.slice none 0 0, none, ⟨(MapKept.heap_alloc w _).1, World.ownsRow_nil _ _ _ _, by simp, by simp, by simp, by simp, by simp, by simp⟩, rfl⟩
  refine (submit_unit h0 ad b off len cap R hlen hb hidx (fun i hi => (World.cell?_alloc_lt _ _ _ (hb (by omega))).trans (hc i hi))).mono ?_
  rintro e w1 ⟨rfl, G, ⟨tv, av, hF, hbare⟩, hK⟩
  have hB := hK.below
  rw [unitL_length] at hF
  have hrow := hF.row
  have c12 : w1.cell? ⟨w.heap.size, 12, none⟩ = some (.int .i64 len) := by simp [World.cell?, hrow, clCells]
  have c13 : w1.cell? ⟨w.heap.size, 13, none⟩ = some (.int .i64 0) := by simp [World.cell?, hrow, clCells]
  have c1 : w1.cell? ⟨w.heap.size, 1, none⟩ = some tv := by simp [World.cell?, hrow, clCells]
  have c2 : w1.cell? ⟨w.heap.size, 2, none⟩ = some (.map av) := by simp [World.cell?, hrow, clCells]
  clear hrow h0
  by_cases hz : len = 0
  · subst hz
    have hts : timesOf (unitL R 0) = [] := rfl
    have hG : G = [] := by
      have : bare G = [] := hbare
      simpa [bare] using this
    subst hG
    have hown := hF.times
    rw [hts] at hown
    obtain ⟨a, c, rfl⟩ : ∃ a c, tv = .slice a 0 c := by
      rcases hown.2 with ⟨rfl, _⟩ | ⟨g, cap, cur, rfl, _⟩
      · exact ⟨none, 0, rfl⟩
      · exact ⟨_, _, rfl⟩
    have hml : ∀ ty, (Builtin.len_ #[26] ty #[.map av]).run Ybaf.prog w1 = .ok (.int .i64 0) w1 := by
      intro ty
      cases av with
      | none => exact len_nilMap ty w1
      | some mb => exact (hF.hmap mb rfl).2.len Ybaf.underlying26 ty
    clear hK hF hbare hown hts hc hidx hb
    go_wp2
    go_ret
    exact ⟨rfl, hB⟩
  · obtain ⟨n, rfl⟩ : ∃ n, len = n + 1 := ⟨len - 1, by omega⟩
    obtain ⟨ht, hrw⟩ := unit_times R n
    rw [hrw] at hbare
    have hown := hF.times
    rw [ht] at hown
    obtain ⟨v, rfl⟩ : ∃ v, G = [(1, v, (List.range (n + 1)).map fun i => (-1, R i))] := by
      match G, hbare with
      | [], e => simp [bare] at e
      | [(t, v, ds)], e =>
        simp [bare] at e
        exact ⟨v, by rw [e.1, e.2]⟩
      | _ :: _ :: _, e => simp [bare] at e
    have hv := (hF.vals (1, v, (List.range (n + 1)).map fun i => (-1, R i)) (List.mem_singleton.2 rfl)).1
    simp only [List.length_map, List.length_range] at hv
    cases av with
    | none => exact absurd (hF.hnone rfl) (by simp)
    | some mb =>
      have hm := (hF.hmap mb rfl).2
      have hml : ∀ ty, (Builtin.len_ #[26] ty #[.map (some mb)]).run Ybaf.prog w1 = .ok (.int .i64 1) w1 := fun ty => hm.len Ybaf.underlying26 ty
      have hlk := hm.look_hit keyed3 Ybaf.underlying26 (x := .int .i64 1) (v := v) (by simp [encG]) false
      obtain ⟨gt, ct, rfl⟩ := own_some hown (by simp)
      obtain ⟨gd, cd, rfl⟩ := own_some hv (by omega)
      have ct0 : w1.cell? ⟨gt, 0, none⟩ = some (.int .i64 1) := hown.cellAt 0 (by simp)
      have hgd : gd < w1.heap.size := (hv.lt gd rfl).2
      have hidd := fun (i : Nat) (W : World) (hi : i < n + 1) => index_row gd (n + 1) cd i W hi
      have hcd := fun (i : Nat) (hi : i < n + 1) => row_cell hv (i := i) (d := (-1, R i)) (by simp [hi]) hi
      have hne := neq_same
      have hix0 : ∀ W, (Instr.indexAt 25 (.slice (some ⟨gt, 0, none⟩) [(1 : Int)].length ct) (.int .i64 0)).run Ybaf.prog W = .ok (.pointer (some ⟨gt, 0, none⟩)) W := by
        intro W
        simp [Instr.indexAt, asIntOf, run_underlying Ybaf.underlying25, Addr.add, Result.andThen]
      have hn0 : ((n : Int) + 1 == 0) = false := by simp; omega
      have hn1 : (((n + 1 : Nat) : Int) == 0) = false := by simp; omega
      clear hF hbare hown ht hrw hm hK
      go_wp2
      go_loopw [90] (fun i wi => ∃ (k : Nat), k ≤ n + 1 ∧ i = .int .i64 k ∧ w1.grownBy wi none) (fun i _ => n + 1 - (intOf i).toNat)
      case atStart => exact ⟨0, Nat.zero_le _, rfl, grownBy_refl _ _⟩
      case round =>
        obtain ⟨k, hk, rfl, hg⟩ := hrel
        have hBr : Below w.heap.size w wr := ⟨hg.os.trans hB.os, hg.tape.trans hB.tape, hg.output.trans hB.output, Nat.le_trans hB.size hg.size, fun j hj => (hg.block j (Nat.lt_of_lt_of_le hj hB.size) (by simp)).trans (hB.block j hj)⟩
        by_cases hlt : k < n + 1
        · have q0 : wr.cell? ⟨b, off + k, none⟩ = some (.string (R k)) := (hBr.cell (p := ⟨b, off + k, none⟩) (hb (by omega))).trans (hc k hlt)
          obtain ⟨r0, r1, r2, r3, r4⟩ := hcd k hlt
          have r0 := hg.cell r0 (by simp)
          have r1 := hg.cell r1 (by simp)
          have r2 := hg.cell r2 (by simp)
          have r3 := hg.cell r3 (by simp)
          have r4 := hg.cell r4 (by simp)
          have hgr : gd < wr.heap.size := Nat.lt_of_lt_of_le hgd hg.size
          have hix := fun W => hidx k W hlt
          have hix2 := fun W => hidd k W hlt
          have hlt' : (k : Int) < (n : Int) + 1 := by omega
          have hg2 := hg.trans (World.grownBy_alloc wr (.cells (dArr (-1, R k)) 49) none)
          unfold dArr at hg2
          clear hc hidx hidd hcd hB hBr
          go_wp2
          go_region
          go_wp2
          go_roundw
          case rel => exact ⟨k + 1, by omega, by go_num, hg2.trans (grownBy_dr _ _)⟩
          case measure => simp [intOf]; omega
        · obtain rfl : k = n + 1 := by omega
          clear hc hidx hidd hcd
          go_wp2
          go_ret
          exact ⟨rfl, hBr⟩
end Go.Proofs.YbulkaihcFmt
