/-
  'LawS1708BPlace' (function 3): the walk. By the prover of seat 061 (an AI agent).
-/
import Derived.Test.YbulkaiisIdx
namespace Go.Proofs.Ybulkaiis
open Go Go.MapKept Go.Maps Go.ChangeMaps Go.RowKit

set_option maxRecDepth 100000 in
theorem place_long (had pad : Option Addr) (n hc p pc : Nat) (k : Int) (ni : Bool) (w : World) (h : (1024 : Int) < n ∨ (¬ (1024 : Int) < n ∧ (1024 : Int) < p)) :
    Calls Yba.prog 3 #[.slice had n hc, .slice pad p pc, .int .u8 k, .bool ni] w fun e w' => e = .returned (.bool true) ∧ Below w.heap.size w w' := by
  rcases h with h | ⟨h, h2⟩
  · go_enter Yba.func3, Yba.ntmps3
    go_wp2
    go_ret
    exact ⟨rfl, Below.refl _ _⟩
  · go_enter Yba.func3, Yba.ntmps3
    go_wp2
    go_ret
    exact ⟨rfl, Below.refl _ _⟩

set_option maxRecDepth 100000 in
set_option maxHeartbeats 2000000 in
/-- No index. -/
theorem place_noIndex (had pad : Option Addr) (hb hoff n hc p pc : Nat) (H : Nat → ByteArray) (k : Int) (w : World) (hn : n ≤ 1024) (hp : p ≤ 1024) (hk0 : 0 ≤ k) (hk1 : k ≤ 255) (ha : 0 < n → had = some ⟨hb, hoff, none⟩ ∧ hb < w.heap.size)
    (hix : ∀ (i : Nat) (W : World), i < n → (Instr.indexAt 22 (.slice had n hc) (.int .i64 (i : Int))).run Yba.prog W = .ok (.pointer (some ⟨hb, hoff + i, none⟩)) W)
    (hH : ∀ i, i < n → w.cell? ⟨hb, hoff + i, none⟩ = some (.string (H i))) :
    Calls Yba.prog 3 #[.slice had n hc, .slice pad p pc, .int .u8 k, .bool true] w fun e w' => e = .returned (.bool true) ∧ Below w.heap.size w w' := by
  have g1 : ¬ (1024 : Int) < (n : Int) := by omega
  have g2 : ¬ (1024 : Int) < (p : Int) := by omega
  obtain ⟨s, hs⟩ : ∃ s : Nat, k % ((n : Int) + 2) = (s : Int) := ⟨(k % ((n : Int) + 2)).toNat, by have := Int.emod_nonneg k (show ((n : Int) + 2) ≠ 0 by omega); omega⟩
  have qT : ∀ (w : World) (r : Option Nat), (binOp .eql 26 (.map r) (.map none)).run Yba.prog w = .ok (.bool r.isNone) w := fun w r => run_eql_map_nil w _ _ _ r Yba.underlying26
  have hmk := make_strs n n (Nat.le_refl _) (by omega)
  have hmc := make_counts n (by omega)
  obtain ⟨w1, hcp, hrow, hbel, hsz⟩ := copy_hosts w had hb hoff n hc H ha hH
  go_enter Yba.func3, Yba.ntmps3
  go_wp2_with (at_builtin; refine wpList_copy_run rfl (.tmp 38) (.tmp 39) 22 22 rfl _ _ rfl rfl (hcp _) ?_)
  have hus : (w1.alloc (.cells (madeCells #[.int .u64 0] n) 52)).heap.size = w.heap.size + 2 := by simp [hsz]
  have hu : ((w1.alloc (.cells (madeCells #[.int .u64 0] n) 52)).alloc (.cells #[.slice (some ⟨w.heap.size, 0, none⟩) n n, .slice (some ⟨w.heap.size + 1, 0, none⟩) n n, .map none, .pointer none] 29)).heap[w.heap.size + 2]? = some (.cells #[.slice (some ⟨w.heap.size, 0, none⟩) n n, .slice (some ⟨w.heap.size + 1, 0, none⟩) n n, .map none, .pointer none] 29 (0, 0)) := by
    have := (MapKept.heap_alloc (w1.alloc (.cells (madeCells #[.int .u64 0] n) 52)) (.cells #[.slice (some ⟨w.heap.size, 0, none⟩) n n, .slice (some ⟨w.heap.size + 1, 0, none⟩) n n, .map none, .pointer none] 29)).1
    rw [hus] at this
    exact this
  have hub : Below w.heap.size w ((w1.alloc (.cells (madeCells #[.int .u64 0] n) 52)).alloc (.cells #[.slice (some ⟨w.heap.size, 0, none⟩) n n, .slice (some ⟨w.heap.size + 1, 0, none⟩) n n, .map none, .pointer none] 29)) :=
    ⟨hbel.os, hbel.tape, hbel.output, by simp; omega, fun j hj => (Below.heap_alloc _ _ _ (by simp; omega)).trans ((Below.heap_alloc _ _ _ (by omega)).trans (hbel.block j hj))⟩
  have hur := (hrow.alloc (.cells (madeCells #[.int .u64 0] n) 52)).alloc (.cells #[.slice (some ⟨w.heap.size, 0, none⟩) n n, .slice (some ⟨w.heap.size + 1, 0, none⟩) n n, .map none, .pointer none] 29)
  generalize ((w1.alloc (.cells (madeCells #[.int .u64 0] n) 52)).alloc (.cells #[.slice (some ⟨w.heap.size, 0, none⟩) n n, .slice (some ⟨w.heap.size + 1, 0, none⟩) n n, .map none, .pointer none] 29)) = u at *
  have c0 : u.cell? ⟨w.heap.size + 1 + 1, 0, none⟩ = some (.slice (some ⟨w.heap.size, 0, none⟩) n n) := by simp [World.cell?, hu]
  have c2 : u.cell? ⟨w.heap.size + 1 + 1, 2, none⟩ = some (.map none) := by simp [World.cell?, hu]
  clear hmk hmc hcp hrow hbel hsz hus hu
  refine (place_none u _ _ c2).mono ?_
  rintro e w2 ⟨rfl, rfl⟩
  go_wp2
  go_loopw [14] (fun i wi => ∃ (j : Nat), j ≤ n ∧ i = .int .i64 j ∧ w2.grownBy wi none) (fun i _ => n - (intOf i).toNat)
  case atStart => exact ⟨0, Nat.zero_le _, rfl, grownBy_refl _ _⟩
  case round =>
    obtain ⟨j, hj, rfl, hg⟩ := hrel
    have d0 := hg.cell c0 (by simp)
    have d2 := hg.cell c2 (by simp)
    have hBr : Below w.heap.size w wr := ⟨hg.os.trans hub.os, hg.tape.trans hub.tape, hg.output.trans hub.output, Nat.le_trans hub.size hg.size, fun j hj => (hg.block j (Nat.lt_of_lt_of_le hj hub.size) (by simp)).trans (hub.block j hj)⟩
    by_cases hlt : j < n
    · have q0 := hg.cell (hur.cell hlt) (by simp)
      have q1 : wr.cell? ⟨hb, hoff + j, none⟩ = some (.string (H j)) := (hBr.cell (p := ⟨hb, hoff + j, none⟩) (ha (by omega)).2).trans (hH j hlt)
      have hx1 := fun W => hix j W hlt
      have hx2 := fun W => index_str w.heap.size n n j W hlt
      have hltI : (j : Int) < (n : Int) := by omega
      clear hix hH ha hs c0 c2 hBr hub
      go_wp2
      go_region
      go_wp2
      go_roundw
      case rel => exact ⟨j + 1, by omega, by go_num, grownBy_trans hg (grownBy_dr _ _)⟩
      case measure => simp [intOf]; omega
    · obtain rfl : n = j := by omega
      clear hix hH ha hs
      go_wp2
      go_ret
      exact ⟨rfl, hBr⟩
end Go.Proofs.Ybulkaiis
