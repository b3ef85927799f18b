/-
  'LawS1708BPlace': what the law's variables hold. By the prover of seat 061 (an AI agent).
-/
import Derived.Test.YbulkaiisPlaceFrom
namespace Go.Proofs.Ybulkaiis
open Go Go.MapKept Go.Maps Go.ChangeMaps Go.RowKit

theorem infos : (Yba.prog.info? 9).map (fun i => (i.zero, i.size, decide (i.bytes ≤ 64))) = some (some (.string ByteArray.empty), 1, true) := by kernel_rfl
theorem size9 : (Yba.prog.info? 9).map (·.size) = some 1 := by kernel_rfl

theorem make_strs (l n : Nat) (hl : l ≤ n) (hn : n ≤ 4096) (w : World) : (Instr.makeSlice 22 (.int .i64 (l : Int)) (.int .i64 (n : Int))).run Yba.prog w = .ok (.slice (some ⟨w.heap.size, 0, none⟩) l n) (w.alloc (.cells (madeCells #[.string ByteArray.empty] n) 9)) := by
  have h1 := infos
  cases hi : Yba.prog.info? 9 with
  | none => rw [hi] at h1; cases h1
  | some i =>
    rw [hi] at h1
    simp at h1
    obtain ⟨hz, hs, hb⟩ := h1
    have hbb : (i.bytes : Int) * (n : Int) ≤ 281474976710656 := by
      have : i.bytes * n ≤ 64 * 4096 := Nat.mul_le_mul hb hn
      have : ((i.bytes * n : Nat) : Int) ≤ 281474976710656 := by omega
      rwa [Int.natCast_mul] at this
    have hr := run_make (P := Yba.prog) w 22 9 i (.string ByteArray.empty) Yba.underlying22 hi hz .i64 .i64 l n (by omega) (by omega) hbb (by omega)
    simp only [Int.toNat_natCast, hs, Nat.mul_one] at hr
    exact hr

/-- copy(hs, hosts). -/
theorem copy_hosts (w : World) (had : Option Addr) (hb hoff n hc : Nat) (H : Nat → ByteArray) (ha : 0 < n → had = some ⟨hb, hoff, none⟩ ∧ hb < w.heap.size) (hH : ∀ i, i < n → w.cell? ⟨hb, hoff + i, none⟩ = some (.string (H i))) :
    ∃ w1, (∀ ty, (Builtin.copy_ #[22, 22] ty #[.slice (some ⟨w.heap.size, 0, none⟩) n n, .slice had n hc]).run Yba.prog (w.alloc (.cells (madeCells #[.string ByteArray.empty] n) 9)) = .ok (.int .i64 (n : Int)) w1) ∧ w1.rowIs w.heap.size 9 n (fun i => .string (H i)) ∧ Below w.heap.size w w1 ∧ w1.heap.size = w.heap.size + 1 := by
  have hnew := World.rowIs_made w (.string ByteArray.empty) n 9
  by_cases hn : n = 0
  · subst hn
    refine ⟨_, fun ty => run_copy_none _ 22 22 ty 9 _ _ _ _ _ _ Yba.underlying22 size9 rfl, ?_, ⟨rfl, rfl, rfl, by simp, fun k hk => Below.heap_alloc _ _ _ hk⟩, by simp⟩
    exact hnew.congr (fun i hi => by omega)
  · obtain ⟨rfl, hbw⟩ := ha (by omega)
    obtain ⟨c, hc1, hc2, hc3⟩ := hnew
    have hcs : ((List.range n).map fun i => Value.string (H i)).length = n := by simp
    have hrun := fun ty => run_copy_row (P := Yba.prog) (w.alloc (.cells (madeCells #[.string ByteArray.empty] n) 9)) 22 22 ty 9 w.heap.size 0 n n ⟨hb, hoff, none⟩ n hc c 9 ((List.range n).map fun i => Value.string (H i)) Yba.underlying22 size9 hc1 (by rw [hcs]; simp) (by
      intro j v hv
      have hj : j < n := by
        have := (List.getElem?_eq_some_iff.1 hv).1
        omega
      have e : (⟨hb, hoff, none⟩ : Addr).add j = ⟨hb, hoff + j, none⟩ := by
        unfold Addr.add
        split
        · rename_i h; subst h; rfl
        · simp
      rw [e]
      simp [hj] at hv
      subst hv
      exact (World.cell?_alloc_lt _ _ _ hbw).trans (hH j hj)) (by rw [hcs, hc2]; omega) (by
      intro v hv
      obtain ⟨i, _, rfl⟩ := List.mem_map.1 hv
      rfl)
    simp only [hcs] at hrun
    refine ⟨_, hrun, ⟨_, setRow_heap (w.alloc (.cells (madeCells #[.string ByteArray.empty] n) 9)) _ _ _ _ _ hc1, ?_, ?_⟩, ⟨rfl, rfl, rfl, by simp [World.setRow], fun k hk => (setRow_other _ _ _ _ (by omega)).trans (Below.heap_alloc _ _ _ hk)⟩, by simp [World.setRow]⟩
    · simp [hc2]
    · intro i hi
      simp
      rw [List.getElem?_append_left (by simpa using hi)]
      simp [hi]

theorem info52 : (Yba.prog.info? 52).map (fun i => (i.zero, i.size, decide (i.bytes ≤ 64))) = some (some (.int .u64 0), 1, true) := by kernel_rfl
theorem make_counts (n : Nat) (hn : n ≤ 4096) (w : World) : (Instr.makeSlice 25 (.int .i64 (n : Int)) (.int .i64 (n : Int))).run Yba.prog w = .ok (.slice (some ⟨w.heap.size, 0, none⟩) n n) (w.alloc (.cells (madeCells #[.int .u64 0] n) 52)) := by
  have h1 := info52
  cases hi : Yba.prog.info? 52 with
  | none => rw [hi] at h1; cases h1
  | some i =>
    rw [hi] at h1
    simp at h1
    obtain ⟨hz, hs, hb⟩ := h1
    have hbb : (i.bytes : Int) * (n : Int) ≤ 281474976710656 := by
      have : i.bytes * n ≤ 64 * 4096 := Nat.mul_le_mul hb hn
      have : ((i.bytes * n : Nat) : Int) ≤ 281474976710656 := by omega
      rwa [Int.natCast_mul] at this
    have hr := run_make (P := Yba.prog) w 25 52 i (.int .u64 0) Yba.underlying25 hi hz .i64 .i64 n n (by omega) (by omega) hbb (by omega)
    simp only [Int.toNat_natCast, hs, Nat.mul_one] at hr
    exact hr

/-- The law's variables, an index there. -/
structure Idx (w u : World) (s0 n : Nat) (H : Nat → ByteArray) (L : List KV) : Prop where
  below : Below s0 w u
  hosts : u.rowIs s0 9 n (fun i => .string (H i))
  e0 : u.cell? ⟨s0 + 2, 0, none⟩ = some (.slice (some ⟨s0, 0, none⟩) n n)
  e2 : u.cell? ⟨s0 + 2, 2, none⟩ = some (.map (some (s0 + 3)))
  map : MapIs Yba.prog 9 u (s0 + 3) (encM (puts L))
  size : s0 + 4 ≤ u.heap.size

section
variable {w u u' : World} {s0 n : Nat} {H : Nat → ByteArray} {L L' : List KV}
theorem Idx.kept (h : Idx w u s0 n H L) {row : Option Nat} (hg : u.grownBy u' row) (hr : ∀ r, row = some r → s0 + 4 ≤ r) : Idx w u' s0 n H L := by
  have hb : ∀ k, k < s0 + 4 → u'.heap[k]? = u.heap[k]? := fun k hk => hg.block k (Nat.lt_of_lt_of_le hk h.size) (fun e => by have := hr k e.symm; omega)
  exact ⟨⟨hg.os.trans h.below.os, hg.tape.trans h.below.tape, hg.output.trans h.below.output, Nat.le_trans h.below.size hg.size, fun k hk => (hb k (by omega)).trans (h.below.block k hk)⟩,
    h.hosts.of_block (hb _ (by omega)), (same_cell (hb _ (by omega)) _).trans h.e0, (same_cell (hb _ (by omega)) _).trans h.e2, h.map.block (hb _ (by omega)), Nat.le_trans h.size hg.size⟩
theorem Idx.same (h : Idx w u s0 n H L) (hg : u.grownBy u' none) : Idx w u' s0 n H L := h.kept hg (by simp)
theorem Idx.turn (h : Idx w u s0 n H L) (hg : u.grownBy u' (some (s0 + 3))) (hm : MapIs Yba.prog 9 u' (s0 + 3) (encM (puts L'))) : Idx w u' s0 n H L' := by
  have hb : ∀ k, k < s0 + 4 → k ≠ s0 + 3 → u'.heap[k]? = u.heap[k]? := fun k hk hne => hg.block k (Nat.lt_of_lt_of_le hk h.size) (by simpa using hne)
  exact ⟨⟨hg.os.trans h.below.os, hg.tape.trans h.below.tape, hg.output.trans h.below.output, Nat.le_trans h.below.size hg.size, fun k hk => (hb k (by omega) (by omega)).trans (h.below.block k hk)⟩,
    h.hosts.of_block (hb _ (by omega) (by omega)), (same_cell (hb _ (by omega) (by omega)) _).trans h.e0, (same_cell (hb _ (by omega) (by omega)) _).trans h.e2, hm, Nat.le_trans h.size hg.size⟩
theorem Idx.start {w1 : World} {c : Array Value} {uv cv : Value} (hb : Below w.heap.size w w1) (hs : w1.heap.size = w.heap.size + 1) (hh : w1.rowIs w.heap.size 9 n (fun i => .string (H i))) :
    Idx w (((w1.alloc (.cells c 52)).alloc (.cells #[.slice (some ⟨w.heap.size, 0, none⟩) n n, cv, .map (some (w.heap.size + 3)), uv] 29)).alloc (.map #[] 0)) w.heap.size n H [] := by
  have hsz : ((w1.alloc (.cells c 52)).alloc (.cells #[.slice (some ⟨w.heap.size, 0, none⟩) n n, cv, .map (some (w.heap.size + 3)), uv] 29)).heap.size = w.heap.size + 3 := by simp [hs]
  have hb1 : ∀ k, k < w.heap.size + 1 → (((w1.alloc (.cells c 52)).alloc (.cells #[.slice (some ⟨w.heap.size, 0, none⟩) n n, cv, .map (some (w.heap.size + 3)), uv] 29)).alloc (.map #[] 0)).heap[k]? = w1.heap[k]? := fun k hk =>
    (Below.heap_alloc _ _ _ (by omega)).trans ((Below.heap_alloc _ _ _ (by simp; omega)).trans (Below.heap_alloc _ _ _ (by omega)))
  have he : (((w1.alloc (.cells c 52)).alloc (.cells #[.slice (some ⟨w.heap.size, 0, none⟩) n n, cv, .map (some (w.heap.size + 3)), uv] 29)).alloc (.map #[] 0)).heap[w.heap.size + 2]? = some (.cells #[.slice (some ⟨w.heap.size, 0, none⟩) n n, cv, .map (some (w.heap.size + 3)), uv] 29 (0, 0)) := by
    refine (Below.heap_alloc _ _ _ (by omega)).trans ?_
    have := (MapKept.heap_alloc (w1.alloc (.cells c 52)) (.cells #[.slice (some ⟨w.heap.size, 0, none⟩) n n, cv, .map (some (w.heap.size + 3)), uv] 29)).1
    rw [show (w1.alloc (.cells c 52)).heap.size = w.heap.size + 2 from by simp [hs]] at this
    exact this
  refine ⟨⟨hb.os, hb.tape, hb.output, by simp; omega, fun k hk => (hb1 k (by omega)).trans (hb.block k hk)⟩, hh.of_block (hb1 _ (by omega)), ?_, ?_, ?_, by simp; omega⟩
  · simp [World.cell?, he]
  · simp [World.cell?, he]
  · have := mapIs_made ((w1.alloc (.cells c 52)).alloc (.cells #[.slice (some ⟨w.heap.size, 0, none⟩) n n, cv, .map (some (w.heap.size + 3)), uv] 29)) Yba.prog 9
    rw [hsz] at this
    exact this
end
end Go.Proofs.Ybulkaiis
