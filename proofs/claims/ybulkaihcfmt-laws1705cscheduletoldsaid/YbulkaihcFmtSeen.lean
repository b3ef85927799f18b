/-
  'LawS1705CSchedule': what the law finds behind submit. By the prover of seat 061 (an AI agent).
-/
import Derived.Test.YbulkaihcFmtSchedHead
import Derived.Test.YbulkaihcFmtSchedPlain
namespace Go.Proofs.YbulkaihcFmt
open Go Go.MapKept Go.Maps Go.ChangeMaps Go.RowKit

structure Seen (w u : World) (B cb lg : Nat) (nv dv : Value) (m : Nat) (I T : Nat → Int) (D : Nat → Del) (nt : Nat) (ta : Option Addr) (ct : Nat) (al : Option Addr) (cl : Nat) (av : Option Nat) (G : List Ent) : Prop where
  below : Below w.heap.size w u
  fly : Fly u B cb nv dv (m : Nat) (.slice ta nt ct) (timesOf (sentL T D m)) av G
  bare : bare G = rowsOf (sentL T D m)
  lcell : u.heap[lg]? = some (.cells #[.slice al m cl] 68 (0, 0))
  log : u.ownsRow B 70 4 (.slice al m cl) m (logCells ((List.range m).map fun p => (I p, T p)))
  num : nt = (timesOf (sentL T D m)).length

section
variable {w u u' : World} {B cb lg : Nat} {nv dv : Value} {m : Nat} {I T : Nat → Int} {D : Nat → Del} {nt : Nat} {ta : Option Addr} {ct : Nat} {al : Option Addr} {cl : Nat} {av : Option Nat} {G : List Ent}

theorem Seen.same (h : Seen w u B cb lg nv dv m I T D nt ta ct al cl av G) (hg : u.grownBy u' none) : Seen w u' B cb lg nv dv m I T D nt ta ct al cl av G := by
  refine ⟨⟨hg.os.trans h.below.os, hg.tape.trans h.below.tape, hg.output.trans h.below.output, Nat.le_trans h.below.size hg.size, fun j hj => (hg.block j (Nat.lt_of_lt_of_le hj h.below.size) (by simp)).trans (h.below.block j hj)⟩, h.fly.same hg, h.bare, (hg.block lg (Array.getElem?_eq_some_iff.1 h.lcell).1 (by simp)).trans h.lcell, h.log.kept hg ?_, h.num⟩
  cases (Value.slice al m cl).ownBlock <;> simp

theorem Seen.cells (h : Seen w u B cb lg nv dv m I T D nt ta ct al cl av G) : u.cell? ⟨cb, 12, none⟩ = some (.int .i64 (m : Nat)) ∧ u.cell? ⟨cb, 13, none⟩ = some (.int .i64 0) ∧ u.cell? ⟨cb, 1, none⟩ = some (.slice ta nt ct) ∧ u.cell? ⟨cb, 2, none⟩ = some (.map av) ∧ u.cell? ⟨lg, 0, none⟩ = some (.slice al m cl) := by
  have := h.fly.row
  simp [World.cell?, this, h.lcell, clCells]

theorem logCells_get : ∀ (E : List Call) (i j : Nat) (c : Call), E[i]? = some c → j < 4 → (logCells E)[i * 4 + j]? = (cArr c)[j]?
  | [], i, j, d, h, _ => by simp at h
  | a :: r, 0, j, d, h, hj => by
    simp at h
    subst h
    have hl : (cArr a).length = 4 := by simp [cArr]
    show (logCells (a :: r))[0 * 4 + j]? = _
    rw [logCells, List.flatMap_cons, List.getElem?_append_left (by omega)]
    simp
  | a :: r, i + 1, j, d, h, hj => by
    have hl : (cArr a).length = 4 := by simp [cArr]
    rw [logCells, List.flatMap_cons, List.getElem?_append_right (by omega), hl, show (i + 1) * 4 + j - 4 = i * 4 + j from by omega]
    exact logCells_get r i j d (by simpa using h) hj

theorem Seen.logAddr (h : Seen w u B cb lg nv dv m I T D nt ta ct al cl av G) : ∃ gl, 0 < m → al = some ⟨gl, 0, none⟩ := by
  rcases h.log.2 with ⟨e, h0⟩ | ⟨g, cap, cur, e, _⟩
  · exact ⟨0, fun hm => by omega⟩
  · refine ⟨g, fun _ => ?_⟩
    injection e
theorem Seen.timeAddr (h : Seen w u B cb lg nv dv m I T D nt ta ct al cl av G) : ∃ gt, 0 < nt → ta = some ⟨gt, 0, none⟩ := by
  rcases h.fly.times.2 with ⟨e, h0⟩ | ⟨g, cap, cur, e, _⟩
  · exact ⟨0, fun hm => by have := h.num; omega⟩
  · refine ⟨g, fun _ => ?_⟩
    injection e

theorem Seen.logAt (h : Seen w u B cb lg nv dv m I T D nt ta ct al cl av G) {gl : Nat} (ha : 0 < m → al = some ⟨gl, 0, none⟩) (q : Nat) (hq : q < m) :
    u.cell? ⟨gl, q * 4, none⟩ = some (.int .i64 0) ∧ u.cell? ⟨gl, q * 4 + 1, none⟩ = some (.int .i64 0) ∧ u.cell? ⟨gl, q * 4 + 2, none⟩ = some (.int .i64 (I q)) ∧ u.cell? ⟨gl, q * 4 + 3, none⟩ = some (.int .i64 (T q)) ∧ gl < u.heap.size := by
  have hl := h.log
  rw [ha (by omega)] at hl
  have h1 := fun j (hj : j < 4) => (hl.cellAt (q * 4 + j) (by omega)).trans (logCells_get _ q j (I q, T q) (by simp [hq]) hj)
  exact ⟨h1 0 (by omega), h1 1 (by omega), h1 2 (by omega), h1 3 (by omega), (hl.lt gl rfl).2⟩

theorem Seen.timeAt (h : Seen w u B cb lg nv dv m I T D nt ta ct al cl av G) {gt : Nat} (ha : 0 < nt → ta = some ⟨gt, 0, none⟩) {j : Nat} {t : Int} (hj : (timesOf (sentL T D m))[j]? = some t) :
    u.cell? ⟨gt, j, none⟩ = some (.int .i64 t) := by
  have hl := h.fly.times
  have hlt : j < (timesOf (sentL T D m)).length := (List.getElem?_eq_some_iff.1 hj).1
  have hn := h.num
  rw [ha (by omega), hn] at hl
  rw [hl.cellAt j (by omega), List.getElem?_map, hj]
  rfl

theorem Seen.look (h : Seen w u B cb lg nv dv m I T D nt ta ct al cl av G) {t : Int} (ht : t ∈ timesOf (sentL T D m)) :
    ∃ mb gd cd, av = some mb ∧ u.ownsRow B 49 5 (.slice (some ⟨gd, 0, none⟩) (cntT T t m) cd) (cntT T t m) (delCells (sentAt (sentL T D m) t)) ∧ (.int .i64 t, .slice (some ⟨gd, 0, none⟩) (cntT T t m) cd) ∈ encG G := by
  have hR := right_of (sentL T D m)
  have hk := (hR.keys t).1 ht
  rw [← h.bare] at hk
  obtain ⟨a, ha, rfl⟩ := List.mem_map.1 hk
  have hrow := hR.rows a (by rw [← h.bare]; exact ha)
  obtain ⟨⟨t', v, ds⟩, hg, rfl⟩ := List.mem_map.1 ha
  simp only at hrow ht ⊢
  subst hrow
  have hv := (h.fly.vals _ hg).1
  simp only [sentAt_length] at hv
  obtain ⟨gd, cd, rfl⟩ := own_some hv (cntT_pos T D m t' ht)
  cases hav : av with
  | none =>
    rw [h.fly.hnone hav] at hg
    cases hg
  | some mb => exact ⟨mb, gd, cd, rfl, hv, List.mem_map.2 ⟨_, hg, rfl⟩⟩

theorem Seen.mapLen (h : Seen w u B cb lg nv dv m I T D nt ta ct al cl av G) (ty : TypeId) : (Builtin.len_ #[26] ty #[.map av]).run Ybaf.prog u = .ok (.int .i64 (nt : Nat)) u := by
  have hR := (right_of (sentL T D m)).len
  rw [← h.bare, ← h.num] at hR
  simp only [YbulkaihcFmt.bare, List.length_map] at hR
  cases hav : av with
  | none =>
    have := h.fly.hnone hav
    subst this
    simp at hR
    subst hR
    exact len_nilMap ty u
  | some mb =>
    have := (h.fly.hmap mb hav).2.len Ybaf.underlying26 ty
    rw [this, hR]
    simp [encG]
end

/-- Behind submit. -/
theorem seen_of {w W w1 : World} {e : Gear} {R : Nat → ByteArray} {r : Nat} {G : List Ent} (hW : Below w.heap.size w W) (hlow : ∀ b, b < w.heap.size → e.Low b) (hS : Sky w1 e.B e.cb e.nv e.dv (allSent e R r) G) (hwd : Wind e w1 (r * e.n) (allLog e r)) (hb : Blown e W w1) :
    ∃ nt ta ct al cl av, Seen w w1 e.B e.cb e.lg e.nv e.dv (r * e.n) (fun p => e.ids (p % e.n)) e.T (fun p => (((p % e.n : Nat) : Int), R (p / e.n))) nt ta ct al cl av G := by
  obtain ⟨tv, av, hF, hbare⟩ := hS
  obtain ⟨lv, hl, hlog⟩ := hwd.log
  have hLe : allSent e R r = sentL e.T (fun p => (((p % e.n : Nat) : Int), R (p / e.n))) (r * e.n) := rfl
  rw [allSent_length, hLe] at hF
  rw [hLe] at hbare
  rw [allLog_length] at hlog
  obtain ⟨ta, ct, rfl⟩ : ∃ a c, tv = .slice a (timesOf (sentL e.T (fun p => (((p % e.n : Nat) : Int), R (p / e.n))) (r * e.n))).length c := by
    rcases hF.times.2 with ⟨rfl, h0⟩ | ⟨g, cap, cur, rfl, _⟩
    · exact ⟨none, 0, by rw [h0]⟩
    · exact ⟨_, _, rfl⟩
  obtain ⟨al, cl, rfl⟩ : ∃ a c, lv = .slice a (r * e.n) c := by
    rcases hlog.2 with ⟨rfl, h0⟩ | ⟨g, cap, cur, rfl, _⟩
    · exact ⟨none, 0, by rw [h0]⟩
    · exact ⟨_, _, rfl⟩
  exact ⟨_, ta, ct, al, cl, av, ⟨hb.os.trans hW.os, hb.tape.trans hW.tape, hb.output.trans hW.output, Nat.le_trans hW.size hb.size, fun j hj => (hb.block j (Nat.lt_of_lt_of_le hj hW.size) (hlow j hj)).trans (hW.block j hj)⟩, hF, hbare, hl, hlog, rfl⟩

/-- Submit, as the law calls it. -/
theorem submit_seen {w wr : World} {n : Nat} {dad rad : Option Addr} {db doff dl dc rb roff r rc : Nat} {ids Ds : Nat → Int} {R : Nat → ByteArray} {m : Nat} (hN : Nodes w wr w.heap.size n n ids (.slice dad dl dc)) (hn : n ≤ 256) (hr : r ≤ 256) (hm : m = r * n) (hbd : 0 < dl → db < w.heap.size) (hbr : 0 < r → rb < w.heap.size)
    (hid : ∀ (i : Nat) (W : World), i < dl → (Instr.indexAt 35 (.slice dad dl dc) (.int .i64 (i : Int))).run Ybaf.prog W = .ok (.pointer (some ⟨db, doff + i, none⟩)) W)
    (hir : ∀ (i : Nat) (W : World), i < r → (Instr.indexAt 22 (.slice rad r rc) (.int .i64 (i : Int))).run Ybaf.prog W = .ok (.pointer (some ⟨rb, roff + i, none⟩)) W)
    (hcd : ∀ i, i < dl → w.cell? ⟨db, doff + i, none⟩ = some (.int .u8 (Ds i))) (hDs : ∀ i, i < dl → 0 ≤ Ds i ∧ Ds i ≤ 255)
    (hcr : ∀ i, i < r → w.cell? ⟨rb, roff + i, none⟩ = some (.string (R i))) :
    ∃ T : Nat → Int, (∀ q, 1 ≤ T q ∧ T q ≤ 256) ∧ Calls Ybaf.prog 5 #[.pointer (some ⟨wr.heap.size + 1 + 1, 0, none⟩), .slice rad r rc] (((wr.alloc (.cells #[.slice none 0 0] 68)).alloc (.cells #[.int .i64 0] 3)).alloc (.cells #[.slice (some ⟨w.heap.size + 1, 0, none⟩) n n, .slice none 0 0, .map none, .nilIface, .func (.func 6) #[] #[.pointer (some ⟨w.heap.size, 0, none⟩), .pointer (some ⟨wr.heap.size + 1, 0, none⟩), .pointer (some ⟨wr.heap.size, 0, none⟩)], .pointer none, .nilIface, .slice none 0 0, .map none, .map none, .bool false, .int .i64 0, .int .i64 0, .int .i64 0, .bool false] 43))
      fun x w1 => x = .returned (.tuple #[]) ∧ ∃ B nv dv nt ta ct al cl av G, Seen w w1 B (wr.heap.size + 1 + 1) wr.heap.size nv dv m (fun p => ids (p % n)) T (fun p => (((p % n : Nat) : Int), R (p / n))) nt ta ct al cl av G := by
  obtain ⟨e, he⟩ : ∃ e, e = gearOf w.heap.size wr.heap.size n dad db doff dl dc ids Ds := ⟨_, rfl⟩
  obtain ⟨ho, hS, hX, hWd, hbel, hlow⟩ := gear_start hN hbd hDs hid hcd he rfl rfl
  have hsub := submit_all ho hS hX hWd rad rb roff r rc R hr (by rw [he]; exact hn) (fun h => hlow _ (hbr h)) hir (fun i hi => (hbel.cell (p := ⟨rb, roff + i, none⟩) (hbr (by omega))).trans (hcr i hi))
  refine ⟨e.T, T_bd ho, ?_⟩
  have hs2 := hsub.mono (fun x w1 h => (show x = .returned (.tuple #[]) ∧ ∃ B nv dv nt ta ct al cl av G, Seen w w1 B (wr.heap.size + 1 + 1) wr.heap.size nv dv m (fun p => ids (p % n)) e.T (fun p => (((p % n : Nat) : Int), R (p / n))) nt ta ct al cl av G from by
    obtain ⟨h1, G', h2, h3, h4⟩ := h
    refine ⟨h1, ?_⟩
    obtain ⟨nt, ta, ct, al, cl, av, hh⟩ := seen_of hbel hlow h2 h3 h4
    refine ⟨e.B, e.nv, e.dv, nt, ta, ct, al, cl, av, G', ?_⟩
    rw [hm]
    rw [he] at hh ⊢
    exact hh))
  clear hsub
  subst he
  exact hs2

theorem index_log (g n c i : Nat) (W : World) (hi : i < n) :
    (Instr.indexAt 68 (.slice (some ⟨g, 0, none⟩) n c) (.int .i64 (i : Int))).run Ybaf.prog W = .ok (.pointer (some ⟨g, i * 4, none⟩)) W := by
  have hadd : (⟨g, 0, none⟩ : Addr).add (i * 4) = ⟨g, i * 4, none⟩ := by
    unfold Addr.add
    split
    · rename_i h0; rw [h0]
    · simp
  simp [Instr.indexAt, asIntOf, run_underlying Ybaf.underlying68, hi, hadd, Result.andThen]
theorem index_time (g n c i : Nat) (W : World) (hi : i < n) :
    (Instr.indexAt 25 (.slice (some ⟨g, 0, none⟩) n c) (.int .i64 (i : Int))).run Ybaf.prog W = .ok (.pointer (some ⟨g, i, none⟩)) W := by
  have hadd : (⟨g, 0, none⟩ : Addr).add i = ⟨g, i, none⟩ := by
    unfold Addr.add
    split
    · rename_i h0; rw [h0]
    · simp
  simp [Instr.indexAt, asIntOf, run_underlying Ybaf.underlying25, hi, hadd, Result.andThen]

theorem take_succ_snoc {α : Type} (l : List α) (j : Nat) (a : α) (h : l[j]? = some a) : l.take (j + 1) = l.take j ++ [a] := by
  rw [List.take_add_one, h]
  rfl
theorem sumT_take_le (T : Nat → Int) (m : Nat) (ts : List Int) (hs : ts.Pairwise (· < ·)) (j : Nat) : sumT T m (ts.take j) ≤ m := by
  rw [sumT_le T m _ (hs.sublist (List.take_sublist j ts))]
  have := List.length_filter_le (fun p => decide (T p ∈ ts.take j)) (List.range m)
  simpa using this
theorem sorted_next {ts : List Int} (hs : ts.Pairwise (· < ·)) {j : Nat} {t : Int} (h : ts[j]? = some t) : ∀ t', ts[j + 1]? = some t' → t < t' := by
  intro t' h'
  obtain ⟨h1, rfl⟩ := List.getElem?_eq_some_iff.1 h
  obtain ⟨h2, rfl⟩ := List.getElem?_eq_some_iff.1 h'
  exact List.pairwise_iff_getElem.1 hs j (j + 1) h1 h2 (by omega)
theorem wrap_div (q n : Nat) (hq : q ≤ 20000) : wrap64 (((q : Nat) : Int) / ((n : Nat) : Int)) = ((q : Nat) : Int) / ((n : Nat) : Int) := by
  have h1 : ((q : Nat) : Int) / ((n : Nat) : Int) = ((q / n : Nat) : Int) := by omega
  have h2 := Nat.div_le_self q n
  rw [h1]
  generalize q / n = x at *
  clear h1
  unfold wrap64
  omega
theorem times_le (T : Nat → Int) (D : Nat → Del) (m : Nat) : (timesOf (sentL T D m)).length ≤ m := by
  have := timesOf_le (sentL T D m) []
  simp only [List.length_nil, Nat.zero_add] at this
  have h2 : (sentL T D m).length = m := by simp [sentL]
  rw [h2] at this
  exact this
end Go.Proofs.YbulkaihcFmt
