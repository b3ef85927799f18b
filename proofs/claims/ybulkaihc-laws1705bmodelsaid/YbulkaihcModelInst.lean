/-
  'LawS1705BModel': the instance in memory; the walks of liars, votesFor, valid, validBesides (functions 13, 12, 11, 10). By the prover of seat 061 (an AI agent).
-/
import Derived.Test.YbulkaihcKeep
import Derived.Test.YbulkaihcRange
import Derived.Test.YbulkaihcModelPlain
import Derived.Deep.OwnRows
import Derived.Deep.Draws
import Derived.Deep.QuietTactic
import Derived.BigQuiet
namespace Go.Proofs.Ybulkaihc
open Go Go.MapKept Go.Maps Go.ChangeMaps Go.RowKit
open Vote (ME vf lim)

theorem keyed3 : Keyed Yba.prog 3 := int_keyed Yba.underlying3
theorem zero68 (w : World) : (zeroValue 68).run Yba.prog w = .ok (.agg #[.int .i64 0, .int .u16 0]) w := by kernel_rfl

def ekey (y : Int) : Value := .int .i64 y
def eval (s : Int × Int) : Value := .agg #[.int .i64 s.1, .int .u16 s.2]
def encM (M : List ME) : List (Value × Value) := M.map fun e => (ekey e.1, eval e.2)

/-- The ten cells of an instance. -/
def instCells (q0 q1 m : Int) (vb n mb : Nat) (tot bk asd : Int) (vt eq : Bool) : Array Value :=
  #[.int .i64 q0, .int .i64 q1, .int .i64 m, .slice (some ⟨vb, 0, none⟩) n n, .map (some mb), .int .i64 tot, .int .i64 bk, .int .i64 asd, .bool vt, .bool eq]

structure Inst (w : World) (ib vb mb n : Nat) (m asd : Int) (M : List ME) (V : Nat → Int) : Prop where
  row : ∃ (q0 q1 tot bk : Int) (vt eq : Bool), w.heap[ib]? = some (.cells (instCells q0 q1 m vb n mb tot bk asd vt eq) 57 (0, 0))
  voters : w.rowIs vb 66 n (fun i => .int .u16 (V i))
  votes : MapIs Yba.prog 3 w mb (encM M)

section
variable {w w' : World} {ib vb mb n : Nat} {m asd : Int} {M : List ME} {V : Nat → Int}

theorem Inst.lt (h : Inst w ib vb mb n m asd M V) : ib < w.heap.size ∧ vb < w.heap.size ∧ mb < w.heap.size := by
  obtain ⟨q0, q1, tot, bk, vt, eq, hr⟩ := h.row
  exact ⟨(Array.getElem?_eq_some_iff.1 hr).1, h.voters.lt, h.votes.lt⟩

theorem Inst.blocks (h : Inst w ib vb mb n m asd M V) (h1 : w'.heap[ib]? = w.heap[ib]?) (h2 : w'.heap[vb]? = w.heap[vb]?) (h3 : w'.heap[mb]? = w.heap[mb]?) : Inst w' ib vb mb n m asd M V := by
  obtain ⟨q0, q1, tot, bk, vt, eq, hr⟩ := h.row
  exact ⟨⟨q0, q1, tot, bk, vt, eq, h1.trans hr⟩, h.voters.of_block h2, h.votes.block h3⟩

theorem Inst.grown (h : Inst w ib vb mb n m asd M V) (hg : w.grownBy w' none) : Inst w' ib vb mb n m asd M V :=
  h.blocks (hg.block _ h.lt.1 (by simp)) (hg.block _ h.lt.2.1 (by simp)) (hg.block _ h.lt.2.2 (by simp))

theorem Inst.cells (h : Inst w ib vb mb n m asd M V) : w.cell? ⟨ib, 2, none⟩ = some (.int .i64 m) ∧ w.cell? ⟨ib, 3, none⟩ = some (.slice (some ⟨vb, 0, none⟩) n n) ∧ w.cell? ⟨ib, 4, none⟩ = some (.map (some mb)) ∧ w.cell? ⟨ib, 7, none⟩ = some (.int .i64 asd) := by
  obtain ⟨q0, q1, tot, bk, vt, eq, hr⟩ := h.row
  simp [World.cell?, hr, instCells]

end

/-- 'xs[i]', elements of one cell. -/
theorem index1 {P : Program} {t e : TypeId} (ht : P.underlying t = some (.slice e)) (hs : ∀ w, (sizeOf e).run P w = .ok 1 w) (b n c : Nat) (i : Int) (h0 : 0 ≤ i) (h1 : i < n) (W : World) :
    (Instr.indexAt t (.slice (some ⟨b, 0, none⟩) n c) (.int .i64 i)).run P W = .ok (.pointer (some ⟨b, i.toNat, none⟩)) W := by
  have hadd : (⟨b, 0, none⟩ : Addr).add i.toNat = ⟨b, i.toNat, none⟩ := by
    unfold Addr.add
    split
    · rename_i h; rw [h]
    · simp
  simp [Instr.indexAt, asIntOf, run_underlying ht, hs, h0, h1, hadd, Result.andThen]

theorem size66 (w : World) : (sizeOf 66).run Yba.prog w = .ok 1 w := by kernel_rfl

set_option maxHeartbeats 400000 in
theorem liars_any {w : World} {ib vb mb n : Nat} {m asd : Int} {M : List ME} {V : Nat → Int} (h : Inst w ib vb mb n m asd M V) (hm0 : 0 ≤ m) (hm3 : m ≤ 3) :
    Calls Yba.prog 13 #[.pointer (some ⟨ib, 0, none⟩)] w fun e w' => e = .returned (.int .i64 (lim m asd)) ∧ w' = w := by
  obtain ⟨c2, c3, c4, c7⟩ := h.cells
  clear h
  by_cases h0 : asd = 0
  · have hl : lim m asd = m := by unfold lim; rw [if_neg (by simpa using h0)]
    rw [hl]
    have hb : (asd != 0) = false := by simp [h0]
    clear hl h0
    go_enter Yba.func13, Yba.ntmps13
    go_wp2
    go_ret
    exact ⟨rfl, rfl⟩
  · have hl : lim m asd = m - 1 := by unfold lim; rw [if_pos h0]
    rw [hl]
    have hb : (asd != 0) = true := by simp [h0]
    clear hl h0
    go_enter Yba.func13, Yba.ntmps13
    go_wp2
    go_ret
    exact ⟨rfl, rfl⟩

set_option maxHeartbeats 400000 in
theorem votesFor_any {w : World} {ib vb mb n : Nat} {m asd : Int} {M : List ME} {V : Nat → Int} (h : Inst w ib vb mb n m asd M V) (hn : n ≤ 10) (ha0 : 0 ≤ asd) (han : asd ≤ n) {y c p : Int} (he : (y, (c, p)) ∈ M) (hc0 : 0 ≤ c) (hc1 : c ≤ 2000) (hp0 : 0 ≤ p) (hp1 : p ≤ 2000) :
    Calls Yba.prog 12 #[.pointer (some ⟨ib, 0, none⟩), .int .i64 y] w fun e w' => e = .returned (.int .i64 (vf V asd (y, (c, p)))) ∧ w.grownBy w' none := by
  obtain ⟨c2, c3, c4, c7⟩ := h.cells
  have hlt := h.lt
  have hib : ib < w.heap.size := hlt.1
  have hvb : vb < w.heap.size := hlt.2.1
  have hlk := h.votes.look_hit keyed3 Yba.underlying55 (x := ekey y) (v := eval (c, p)) (List.mem_map.2 ⟨_, he, rfl⟩) true
  simp only [ekey, eval, if_true] at hlk
  by_cases h0 : asd = 0
  · have hv : vf V asd (y, (c, p)) = c := by unfold vf; rw [if_neg (by simp [h0])]
    rw [hv]
    have hb : (asd != 0) = false := by simp [h0]
    clear hv h0
    go_enter Yba.func12, Yba.ntmps12
    go_wp2
    go_quiet (fail)
    go_wp2
    go_ret
    exact ⟨rfl, (World.grownBy_alloc w _ _).trans ⟨rfl, rfl, rfl, Nat.le_refl _, fun _ _ _ => rfl⟩⟩
  · have hi : asd.toNat - 1 < n := by omega
    have hcv : w.cell? ⟨vb, asd.toNat - 1, none⟩ = some (.int .u16 (V (asd.toNat - 1))) := h.voters.cell hi
    have hix1 : (0 : Int) ≤ asd - 1 := by omega
    have hix2 : asd - 1 < (n : Int) := by omega
    have hwa : IntKind.i64.wrap (asd - 1) = asd - 1 := by rw [IntKind.wrap_i64]; omega
    have hwp : IntKind.u16.wrap (p + 2) = p + 2 := by rw [IntKind.wrap_u16]; omega
    have hrun := fun W => index1 (P := Yba.prog) (t := 54) (e := 66) Yba.underlying54 size66 vb n n (asd - 1) hix1 hix2 W
    have hb : (asd != 0) = true := by simp [h0]
    by_cases hvp : V (asd.toNat - 1) = p + 2
    · have hv : vf V asd (y, (c, p)) = c - 1 := by unfold vf; rw [if_pos ⟨h0, hvp⟩]
      rw [hv]
      rw [hvp] at hcv
      clear hv h0 hvp
      go_enter Yba.func12, Yba.ntmps12
      go_wp2
      go_quiet (fail)
      go_wp2
      go_ret
      exact ⟨rfl, (World.grownBy_alloc w _ _).trans ⟨rfl, rfl, rfl, Nat.le_refl _, fun _ _ _ => rfl⟩⟩
    · have hv : vf V asd (y, (c, p)) = c := by unfold vf; rw [if_neg (by rintro ⟨_, hh⟩; exact hvp hh)]
      rw [hv]
      have hne : (V (asd.toNat - 1) == p + 2) = false := beq_eq_false_iff_ne.2 hvp
      clear hv h0 hvp
      go_enter Yba.func12, Yba.ntmps12
      go_wp2
      go_quiet (fail)
      go_wp2
      go_ret
      exact ⟨rfl, (World.grownBy_alloc w _ _).trans ⟨rfl, rfl, rfl, Nat.le_refl _, fun _ _ _ => rfl⟩⟩
end Go.Proofs.Ybulkaihc
