/-
  PROOF OF 'Rows.LawS1705AScriptSaid'. By the prover of seat 061 (an AI agent).
-/
import Derived.Test.YbulkaihcScriptWalk
import Derived.Deep.Slices
import Derived.OpenShut
import Derived.ShutString
import Derived.SizedLaws
namespace Go.Proofs.Ybulkaihc.lawS1705AScript
open Go.ChangeShapes Go.WideShapes Go.ChangeAt Go.RowKit Go.Deep

theorem own : ownKnob Yba.prog.godebug = none := by kernel_rfl
theorem cells43 : Yba.prog.cellsOf 43 = 5 := by kernel_rfl
theorem cells5 : Yba.prog.cellsOf 5 = 1 := by kernel_rfl
theorem cells2 : Yba.prog.cellsOf 2 = 1 := by kernel_rfl

theorem five {α : Type} : ∀ (l : List α), l.length = 5 → ∃ a b c d e, l = [a, b, c, d, e]
  | [a, b, c, d, e], _ => ⟨a, b, c, d, e, rfl⟩

/-- One element of the script, off its five cells. -/
theorem open_op {H : Type} {enc : TypeId × Value → H} {w : World} {base : Nat} {spare : Nat → Bool} {held : Bool} {n : Nat} {cs : List Value} {x : DataW H × List MemPlace} (h : DataW.trod enc Yba.prog w base spare held n 43 cs = some x) :
    ∃ o : OpR, o.good ∧ cs = [.int .u8 o.1, .int .u8 o.2.1, .string o.2.2.1, .int .i64 o.2.2.2.1, .int .i64 o.2.2.2.2] := by
  obtain ⟨xs, k, _, _, hlen, hxl, hf⟩ := DataW.trod_struct Yba.underlying43 h
  rw [cells43] at hlen
  have hxl : xs.length = 5 := hxl
  obtain ⟨y0, y1, y2, y3, y4, rfl⟩ := five xs hxl
  obtain ⟨v0, v1, v2, v3, v4, rfl⟩ := five cs hlen
  have g0 := hf 0 _ rfl
  have g1 := hf 1 _ rfl
  have g2 := hf 2 _ rfl
  have g3 := hf 3 _ rfl
  have g4 := hf 4 _ rfl
  simp [cells5, cells2, cells9, cells3] at g0 g1 g2 g3 g4
  obtain ⟨o0, e0, _, w0⟩ := DataW.trod_int Yba.underlying5 g0
  obtain ⟨o1, e1, _, w1⟩ := DataW.trod_int Yba.underlying5 g1
  obtain ⟨o2, e2, _, w2⟩ := DataW.trod_string Yba.underlying9 g2
  obtain ⟨o3, e3, _, w3⟩ := DataW.trod_int Yba.underlying2 g3
  obtain ⟨o4, e4, _, w4⟩ := DataW.trod_int Yba.underlying3 g4
  simp at e0 e1 e2 e3 e4
  subst e0 e1 e2 e3 e4
  have b0 := bounds_u8 w0
  have b1 := bounds_u8 w1
  exact ⟨(o0, o1, o2, o3, o4), ⟨b0.1, b0.2, b1.1, b1.2, w2⟩, rfl⟩

set_option maxRecDepth 100000 in
theorem lifted (os : Os) (started : os.Started) (H : Type) (enc : TypeId × Value → H) :
    ReturnsInHanded {} Yba.checked os 3 .any (Rows.lawS1705AScriptSpec.pre6 enc Yba.prog Yba.f3 Rows.lawS1705AScriptRow.domain false) (Rows.lawS1705AScriptSpec.post enc Yba.prog Yba.f3 false true false false) := by
  refine returnsInHanded_of_change (C := Yba.checked) own started (by kernel_rfl) Yba.func3
    (ChangeSpec.witness6 (enc := enc) (C := Yba.checked) false ⟨#[], #[.slice none 0 0], []⟩ 8 (by kernel_rfl) (by kernel_rfl) (by kernel_rfl) (by kernel_rfl)) ?_
  intro W base args ds gs before hval0 hW hcnd _
  have hval : ∀ (j : Nat) t v, Yba.f3.params[j]? = some t → args[j]? = some v → Value.okWide Yba.prog W .any base t v := hval0
  have hW' := hW
  obtain ⟨p, q, hA0, hV, rfl, hfz, hnd⟩ := hW
  have hA : DataW.TrodAll enc Yba.prog W 0 (fun _ => true) true Yba.f3.params.toList args.toList ds p := hA0
  rw [Yba.params3] at hA hval
  obtain ⟨v0, d0, rfl, rfl, h0⟩ := trodAll_one hA
  obtain ⟨rfl, rfl⟩ := trodVars_none hV
  obtain ⟨a0, len, cap, rfl⟩ := okWide_slice Yba.underlying22 (hval 0 22 v0 rfl rfl)
  have h0k := h0
  obtain ⟨fuel, hf⟩ := h0
  clear hA0 hval0
  simp only [List.append_nil] at hW'
  have hlt : ∀ x ∈ p, x.block < W.heap.size := fun x hx => by simpa using hW'.lt x hx
  have hargs : ∀ (W' : World), Below W.heap.size W W' → DataW.Trod enc Yba.prog W' 0 (fun b => decide (b < W.heap.size)) true 22 (.slice a0 len cap) d0 p :=
    fun W' hn => Below.trod laidOut (by kernel_rfl) (of_decide_eq_true (by kernel_rfl)) h0k hn hlt
  have fin : ∀ (e : Ending) (W' : World), (e = .returned (.bool true) ∧ Below W.heap.size W W') →
      ∃ v, e = Ending.returned v ∧ Rows.lawS1705AScriptSpec.post enc Yba.checked.prog Yba.f3 false true false false W #[.slice a0 len cap] v W' := by
    intro e W' ⟨he, hb⟩
    subst he
    exact ⟨_, rfl, _, _, _, [], p, [], hW', trodAll_mk1 (shut_bool Yba.underlying4 _), trodAll_mk1 (hargs _ hb), rfl, hb.frame _, fun h => by cases h⟩
  by_cases hbig : (1024 : Int) < len
  · exact (script_long a0 len cap W hbig).mono fin
  by_cases hz : len = 0
  · subst hz
    exact (script_none a0 cap W).mono fin
  rcases open_slice Yba.underlying22 hf with ⟨hcs, _⟩ | ⟨a, len', cap', m, n, D, Pl, hcs, _, hl, hm, hmm, hx, hel⟩
  · simp [Value.cells] at hcs
    omega
  · simp [Value.cells] at hcs
    obtain ⟨rfl, rfl, rfl⟩ := hcs
    simp only [if_true] at hmm
    subst hmm
    obtain ⟨O, hO⟩ := choose_lt (α := OpR) (p := fun i o => o.good ∧ ∀ j v, [Value.int .u8 o.1, .int .u8 o.2.1, .string o.2.2.1, .int .i64 o.2.2.2.1, .int .i64 o.2.2.2.2][j]? = some v → W.cell? (a.add (i * 5 + j)) = some v) (fun i hi => by
      obtain ⟨cs', h1, h2⟩ := hel i hi
      obtain ⟨o, hg, hc⟩ := open_op h2
      rw [cells43] at h1
      obtain ⟨_, hlen, hcell⟩ := World.cells?_some h1
      refine ⟨o, hg, fun j v hv => ?_⟩
      rw [← hc] at hv
      have hj : j < 5 := by rw [← hlen]; exact (List.getElem?_eq_some_iff.1 hv).1
      have := hcell j hj
      rw [add_add] at this
      rw [this, hv])
    obtain ⟨b, off, spot⟩ := a
    have hspot : spot = none := by
      have := (hO 0 (by omega)).2 0 _ rfl
      simpa [Addr.add] using World.cell?_spot this
    subst hspot
    have hbW : b < W.heap.size := World.block_lt_of_cell? _ _ (by simpa [Addr.add] using (hO 0 (by omega)).2 0 _ rfl)
    have hadd : ∀ i, (⟨b, off, none⟩ : Addr).add i = ⟨b, off + i, none⟩ := fun i => add_plain _ _ _
    simp only [hadd] at hO
    refine (script_walk b off len _ O (fun i hi => (hO i (by omega)).1) W (by omega) hbW ?_ ?_ ?_ ?_ ?_).mono fin
    · exact fun i hi => (hO i (by omega)).2 0 _ rfl
    · exact fun i hi => (hO i (by omega)).2 1 _ rfl
    · exact fun i hi => (hO i (by omega)).2 2 _ rfl
    · exact fun i hi => (hO i (by omega)).2 3 _ rfl
    · exact fun i hi => (hO i (by omega)).2 4 _ rfl

theorem over : Rows.lawS1705AScriptRow.holds Yba.pinned (OpenSpec.ofChange Rows.lawS1705AScriptSpec) :=
  OpenClaim.holds_of_wide 3 Yba.f3 rfl rfl rfl rfl rfl rfl rfl ⟨rfl, rfl, rfl, rfl, rfl⟩ rfl rfl rfl rfl rfl (by kernel_rfl) Yba.func3 (by kernel_rfl)
    (of_decide_eq_true (by kernel_rfl)) (by unfold Func.isWrapper; first | (rw [if_pos (by decide +kernel)]; kernel_rfl) | (rw [if_neg (by decide +kernel)]; exact ⟨rfl, rfl⟩))
    (fun os started H enc _ => lifted os started H enc)

/-- THE STATEMENT -/
theorem proved : Rows.LawS1705AScriptSaid :=
  over
#print axioms proved
end Go.Proofs.Ybulkaihc.lawS1705AScript
