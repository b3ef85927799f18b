/-
  'LawS1705BModel': the walks of valid and validBesides (functions 11, 10). By the prover of seat 061 (an AI agent).
-/
import Derived.Test.YbulkaihcModelInst
import Derived.Deep.LoopGhost
namespace Go.Proofs.Ybulkaihc
open Go Go.MapKept Go.Maps Go.ChangeMaps Go.RowKit
open Vote (ME vf lim)

/-- Is the entry's value valid? -/
def validB (V : Nat → Int) (m asd : Int) (e : ME) : Bool := decide (lim m asd < vf V asd e)

/-- The entries' numbers are small. -/
def Small (M : List ME) : Prop := ∀ e ∈ M, 0 ≤ e.2.1 ∧ e.2.1 ≤ 2000 ∧ 0 ≤ e.2.2 ∧ e.2.2 ≤ 2000

theorem vf_bd (V : Nat → Int) (asd : Int) (e : ME) (h0 : 0 ≤ e.2.1) (h1 : e.2.1 ≤ 2000) : -1 ≤ vf V asd e ∧ vf V asd e ≤ 2000 := by
  unfold vf; split <;> omega
theorem lim_bd (m asd : Int) (h0 : 0 ≤ m) (h1 : m ≤ 3) : -1 ≤ lim m asd ∧ lim m asd ≤ 3 := by
  unfold lim; split <;> omega

set_option maxHeartbeats 400000 in
theorem valid_any {w : World} {ib vb mb n : Nat} {m asd : Int} {M : List ME} {V : Nat → Int} (h : Inst w ib vb mb n m asd M V) (hn : n ≤ 10) (hm0 : 0 ≤ m) (hm3 : m ≤ 3) (ha0 : 0 ≤ asd) (han : asd ≤ n) (hs : Small M) {e : ME} (he : e ∈ M) :
    Calls Yba.prog 11 #[.pointer (some ⟨ib, 0, none⟩), .int .i64 e.1] w fun r w' => r = .returned (.bool (validB V m asd e)) ∧ w.grownBy w' none := by
  obtain ⟨b1, b2, b3, b4⟩ := hs e he
  have hb := vf_bd V asd e b1 b2
  have hl := lim_bd m asd hm0 hm3
  go_enter Yba.func11, Yba.ntmps11
  go_wp2_with fail
  refine (votesFor_any h hn ha0 han (y := e.1) (c := e.2.1) (p := e.2.2) he b1 b2 b3 b4).mono ?_
  rintro r w1 ⟨rfl, hg1⟩
  have h1 := h.grown hg1
  go_wp2_with fail
  refine (liars_any h1 hm0 hm3).mono ?_
  rintro r w2 ⟨rfl, rfl⟩
  clear h h1
  go_wp2
  go_ret
  exact ⟨rfl, hg1⟩

/-- Is some value other than x valid? -/
def besidesB (M : List ME) (V : Nat → Int) (m asd x : Int) : Bool := M.any fun e => (e.1 != x) && validB V m asd e

theorem grownBy_own {a b c : World} {r : Nat} (h1 : a.grownBy b none) (h2 : b.grownBy c (some r)) (hr : a.heap.size ≤ r) : a.grownBy c none :=
  ⟨h2.os.trans h1.os, h2.tape.trans h1.tape, h2.output.trans h1.output, Nat.le_trans h1.size h2.size, fun k hk _ => (h2.block k (Nat.lt_of_lt_of_le hk h1.size) (by simp; omega)).trans (h1.block k hk (by simp))⟩

theorem mem_encM {M : List ME} {key v : Value} (h : (key, v) ∈ encM M) : ∃ e ∈ M, key = .int .i64 e.1 ∧ v = .agg #[.int .i64 e.2.1, .int .u16 e.2.2] := by
  obtain ⟨e, he, hx⟩ := List.mem_map.1 h
  simp only [Prod.mk.injEq] at hx
  exact ⟨e, he, hx.1.symm, hx.2.symm⟩

theorem enc_inj {e e' : ME} (h : (ekey e.1, eval e.2) = (ekey e'.1, eval e'.2)) : e = e' := by
  obtain ⟨a, b, c⟩ := e
  obtain ⟨a', b', c'⟩ := e'
  simp [ekey, eval] at h
  obtain ⟨rfl, rfl, rfl⟩ := h
  rfl

set_option maxRecDepth 100000 in
set_option maxHeartbeats 400000 in
theorem besides_any {w : World} {ib vb mb n : Nat} {m asd : Int} {M : List ME} {V : Nat → Int} (h : Inst w ib vb mb n m asd M V) (hn : n ≤ 10) (hm0 : 0 ≤ m) (hm3 : m ≤ 3) (ha0 : 0 ≤ asd) (han : asd ≤ n) (hs : Small M) (x : Int) :
    Calls Yba.prog 10 #[.pointer (some ⟨ib, 0, none⟩), .int .i64 x] w fun r w' => r = .returned (.bool (besidesB M V m asd x)) ∧ w.grownBy w' none := by
  obtain ⟨c2, c3, c4, c7⟩ := h.cells
  obtain ⟨hlib, hlvb, hlmb⟩ := h.lt
  obtain ⟨o, hrange, hR⟩ := h.votes.range Yba.underlying55
  have h1 := h.grown (World.grownBy_alloc w o none)
  go_enter Yba.func10, Yba.ntmps10
  go_wp2_with fail
  go_loopg [5] M.length (fun k y wr => ∃ left, left.length ≤ k ∧ Ranging Yba.prog 3 wr w.heap.size mb (encM M) left ∧ Inst wr ib vb mb n m asd M V ∧ w.grownBy wr none ∧ ∀ e ∈ M, (ekey e.1, eval e.2) ∈ left ∨ ((e.1 != x) && validB V m asd e) = false)
  case atStart => exact ⟨encM M, by simp [encM], hR, h1, World.grownBy_alloc w o none, fun e he => Or.inl (List.mem_map.2 ⟨e, he, rfl⟩)⟩
  case round =>
    clear hR h1 hrange c2 c3 c4 c7 h
    obtain ⟨left, hlen, hR, hI, hg, hdone⟩ := hrel
    rcases hR.next 0 with ⟨hl0, hrun0⟩ | ⟨key, v, left', w1, hm, hml, hrun0, hR1, hsub, hlt, hg1, hz1, hen⟩
    · have hrun : ∀ ty, (Instr.next (.pointer (some ⟨w.heap.size, 0, none⟩)) false ty).run Yba.prog wr = .ok (.tuple #[.bool false]) wr := fun _ => hrun0
      clear hrun0
      have HB : Hid (besidesB M V m asd x = false) := by
        show M.any _ = false
        rw [List.any_eq_false]
        intro e he
        rcases hdone e he with q | q
        · rw [hl0] at q; simp at q
        · simpa using q
      clear hdone hl0
      go_wp2
      go_ret
      exact ⟨by rw [HB.out]; rfl, hg⟩
    · have hrun : ∀ ty, (Instr.next (.pointer (some ⟨w.heap.size, 0, none⟩)) false ty).run Yba.prog wr = .ok (.tuple #[.bool true, key, v]) w1 := fun _ => hrun0
      clear hrun0
      obtain ⟨e, he, rfl, rfl⟩ := mem_encM hml
      have hI1 : Inst w1 ib vb mb n m asd M V := by
        refine hI.blocks (hg1.block _ hI.lt.1 ?_) (hg1.block _ hI.lt.2.1 ?_) (hg1.block _ hI.lt.2.2 ?_)
        · simp; omega
        · simp; omega
        · simp; omega
      have hgw : w.grownBy w1 none := grownBy_own hg hg1 (Nat.le_refl _)
      by_cases hok : ((e.1 != x) && validB V m asd e) = true
      · have HB : Hid (besidesB M V m asd x = true) := List.any_eq_true.2 ⟨e, he, hok⟩
        obtain ⟨hx, hv⟩ : (e.1 != x) = true ∧ validB V m asd e = true := by simpa using hok
        have HV : Hid (validB V m asd e = true) := hv
        clear hok hv hsub hdone hm hml hR1
        go_wp2_with fail
        refine (valid_any hI1 hn hm0 hm3 ha0 han hs he).mono ?_
        rintro r w2 ⟨rfl, hg2⟩
        rw [HV.out]
        go_wp2
        go_ret
        exact ⟨by rw [HB.out]; rfl, grownBy_trans hgw hg2⟩
      · have hno : ((e.1 != x) && validB V m asd e) = false := by simpa using hok
        have hdone' : ∀ e' ∈ M, (ekey e'.1, eval e'.2) ∈ left' ∨ ((e'.1 != x) && validB V m asd e') = false := by
          intro e' he'
          rcases hdone e' he' with q | q
          · rcases hsub _ q with q | q
            · exact Or.inl q
            · rw [enc_inj (e := e') (e' := e) q]
              exact Or.inr hno
          · exact Or.inr q
        clear hdone hsub hm hml hok
        by_cases hx : (e.1 != x) = true
        · have hv : validB V m asd e = false := by rw [hx] at hno; simpa using hno
          have HV : Hid (validB V m asd e = false) := hv
          clear hno hv
          go_wp2_with fail
          refine (valid_any hI1 hn hm0 hm3 ha0 han hs he).mono ?_
          rintro r w2 ⟨rfl, hg2⟩
          rw [HV.out]
          go_wp2
          go_roundg left'.length
          case measure => omega
          case rel => exact ⟨left', Nat.le_refl _, hR1.kept hg2 (by simp) (by simp), hI1.grown hg2, grownBy_trans hgw hg2, hdone'⟩
        · have hx' : (e.1 != x) = false := by simpa using hx
          clear hno hx
          go_wp2
          go_roundg left'.length
          case measure => omega
          case rel => exact ⟨left', Nat.le_refl _, hR1, hI1, hgw, hdone'⟩
end Go.Proofs.Ybulkaihc
