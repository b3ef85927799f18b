/-
  PROOF OF 'Rows.LawS1705BModelSaid'. By the prover of seat 061 (an AI agent).
-/
import Derived.Test.YbulkaihcModelWalk
import Derived.Deep.SlicePairs
import Derived.OpenShut
import Derived.ShutString
import Derived.SizedLaws
namespace Go.Proofs.Ybulkaihc.lawS1705BModel
open Go.ChangeShapes Go.WideShapes Go.ChangeAt Go.RowKit Go.Deep

theorem own : ownKnob Yba.prog.godebug = none := by kernel_rfl
theorem cells61 : Yba.prog.cellsOf 61 = 2 := by kernel_rfl
theorem cells5 : Yba.prog.cellsOf 5 = 1 := by kernel_rfl

theorem index_at (b off n c i : Nat) (W : World) (hi : i < n) :
    (Instr.indexAt 53 (.slice (some ⟨b, off, none⟩) n c) (.int .i64 (i : Int))).run Yba.prog W = .ok (.pointer (some ⟨b, off + i * 2, none⟩)) W := by
  have hadd : (⟨b, off, none⟩ : Addr).add (i * 2) = ⟨b, off + i * 2, none⟩ := add_plain _ _ _
  simp [Instr.indexAt, asIntOf, run_underlying Yba.underlying53, hi, hadd, Result.andThen]

set_option maxRecDepth 100000 in
theorem lifted (os : Os) (started : os.Started) (H : Type) (enc : TypeId × Value → H) :
    ReturnsInHanded {} Yba.checked os 5 .any (Rows.lawS1705BModelSpec.pre6 enc Yba.prog Yba.f5 Rows.lawS1705BModelRow.domain false) (Rows.lawS1705BModelSpec.post enc Yba.prog Yba.f5 false true false false) := by
  refine returnsInHanded_of_change (C := Yba.checked) own started (by kernel_rfl) Yba.func5
    (ChangeSpec.witness6 (enc := enc) (C := Yba.checked) false ⟨#[], #[.int .u8 0, .int .u8 0, .int .u8 0, .int .u8 0, .slice none 0 0], []⟩ 8 (by kernel_rfl) (by kernel_rfl) (by kernel_rfl) (by kernel_rfl)) ?_
  intro W base args ds gs before hval0 hW hcnd _
  have hval : ∀ (j : Nat) t v, Yba.f5.params[j]? = some t → args[j]? = some v → Value.okWide Yba.prog W .any base t v := hval0
  have hW' := hW
  obtain ⟨p, q, hA0, hV, rfl, hfz, hnd⟩ := hW
  have hA : DataW.TrodAll enc Yba.prog W 0 (fun _ => true) true Yba.f5.params.toList args.toList ds p := hA0
  rw [Yba.params5] at hA hval
  obtain ⟨v0, vs0, d0, ds0, p0, q0, hargs, rfl, rfl, h0, r0⟩ := trodAll_cons hA
  obtain ⟨v1, vs1, d1, ds1, p1, q1, rfl, rfl, rfl, h1, r1⟩ := trodAll_cons r0
  obtain ⟨v2, vs2, d2, ds2, p2, q2, rfl, rfl, rfl, h2, r2⟩ := trodAll_cons r1
  obtain ⟨v3, vs3, d3, ds3, p3, q3, rfl, rfl, rfl, h3, r3⟩ := trodAll_cons r2
  obtain ⟨v4, vs4, d4, ds4, p4, q4, rfl, rfl, rfl, h4, r4⟩ := trodAll_cons r3
  obtain ⟨rfl, rfl, rfl⟩ := trodAll_nil r4
  obtain rfl : args = #[v0, v1, v2, v3, v4] := by cases args; simp_all
  obtain ⟨rfl, rfl⟩ := trodVars_none hV
  obtain ⟨a0, rfl, rfl, rfl, w0⟩ := open_int Yba.underlying5 (hval 0 5 v0 rfl rfl) h0
  obtain ⟨a1, rfl, rfl, rfl, w1⟩ := open_int Yba.underlying5 (hval 1 5 v1 rfl rfl) h1
  obtain ⟨a2, rfl, rfl, rfl, w2⟩ := open_int Yba.underlying5 (hval 2 5 v2 rfl rfl) h2
  obtain ⟨a3, rfl, rfl, rfl, w3⟩ := open_int Yba.underlying5 (hval 3 5 v3 rfl rfl) h3
  obtain ⟨ad, len, cap, rfl⟩ := okWide_slice Yba.underlying53 (hval 4 53 v4 rfl rfl)
  have h4k := h4
  obtain ⟨fuel, hf⟩ := h4
  clear hA0 hval0
  simp only [List.append_nil, List.nil_append] at hW'
  have hlt : ∀ x ∈ p4, x.block < W.heap.size := fun x hx => by simpa using hW'.lt x hx
  have hargs' : ∀ (W' : World), Below W.heap.size W W' → DataW.Trod enc Yba.prog W' 0 (fun b => decide (b < W.heap.size)) true 53 (.slice ad len cap) d4 p4 :=
    fun W' hn => Below.trod laidOut (by kernel_rfl) (of_decide_eq_true (by kernel_rfl)) h4k hn hlt
  have fin : ∀ (e : Ending) (W' : World), (e = .returned (.bool true) ∧ Below W.heap.size W W') →
      ∃ v, e = Ending.returned v ∧ Rows.lawS1705BModelSpec.post enc Yba.checked.prog Yba.f5 false true false false W #[.int .u8 a0, .int .u8 a1, .int .u8 a2, .int .u8 a3, .slice ad len cap] v W' := by
    intro e W' ⟨he, hb⟩
    subst he
    refine ⟨_, rfl, _, _, _, [], p4, [], hW', trodAll_mk1 (shut_bool Yba.underlying4 _), ?_, rfl, hb.frame _, fun h => by cases h⟩
    have := trodAll_cons_mk (shut_int (enc := enc) (w := W') (base := 0) (spare := fun b => decide (b < W.heap.size)) (held := true) Yba.underlying5 w0) (trodAll_cons_mk (shut_int Yba.underlying5 w1) (trodAll_cons_mk (shut_int Yba.underlying5 w2) (trodAll_cons_mk (shut_int Yba.underlying5 w3) (trodAll_cons_mk (hargs' _ hb) trodAll_mk0))))
    simp only [List.append_nil, List.nil_append] at this
    exact this
  by_cases hbig : (1024 : Int) < len
  · exact (model_long _ _ _ _ ad len cap W hbig).mono fin
  by_cases hz : len = 0
  · subst hz
    exact (model_walk a0 a1 a2 a3 (bounds_u8 w0) (bounds_u8 w1) (bounds_u8 w2) (bounds_u8 w3) ad 0 0 0 cap (fun _ => 0) (fun _ => 0) W (by omega) (by omega) (by omega) (by omega) (by omega) (by omega) (by omega)).mono fin
  rcases open_slice_pairs Yba.underlying53 Yba.underlying61 cells61 rfl rfl cells5 cells5 hf with ⟨hcs, _⟩ | ⟨a, len', cap', m, n, V0, V1, D0, D1, P0, P1, hcs, _, hl, hm, hmm, hx, hel⟩
  · simp [Value.cells] at hcs
    omega
  · simp [Value.cells] at hcs
    obtain ⟨rfl, rfl, rfl⟩ := hcs
    simp only [if_true] at hmm
    obtain ⟨Q, hQ⟩ := choose_lt (α := Int × Int) (n := len) (p := fun i o => (0 ≤ o.1 ∧ o.1 ≤ 255) ∧ (0 ≤ o.2 ∧ o.2 ≤ 255) ∧ W.cell? (a.add (i * 2)) = some (.int .u8 o.1) ∧ W.cell? (a.add (i * 2 + 1)) = some (.int .u8 o.2)) (fun i hi => by
      obtain ⟨c0, c1, t0, t1⟩ := hel i (by omega)
      obtain ⟨o0, e0, _, g0⟩ := DataW.trod_int Yba.underlying5 t0
      obtain ⟨o1, e1, _, g1⟩ := DataW.trod_int Yba.underlying5 t1
      simp at e0 e1
      rw [e0] at c0
      rw [e1] at c1
      exact ⟨(o0, o1), bounds_u8 g0, bounds_u8 g1, c0, c1⟩)
    obtain ⟨b, off, spot⟩ := a
    have hspot : spot = none := by
      have := (hQ 0 (by omega)).2.2.1
      simpa [Addr.add] using World.cell?_spot this
    subst hspot
    have hbW : b < W.heap.size := World.block_lt_of_cell? _ _ (by simpa [Addr.add] using (hQ 0 (by omega)).2.2.1)
    have hadd : ∀ i, (⟨b, off, none⟩ : Addr).add i = ⟨b, off + i, none⟩ := fun i => add_plain _ _ _
    simp only [hadd] at hQ
    refine (model_walk a0 a1 a2 a3 (bounds_u8 w0) (bounds_u8 w1) (bounds_u8 w2) (bounds_u8 w3) (some ⟨b, off, none⟩) b off len _ (fun i => (Q i).1) (fun i => (Q i).2) W (by omega) (fun _ => hbW) (fun i W hi => index_at b off len _ i W hi) ?_ ?_ ?_ ?_).mono fin
    · exact fun i hi => (hQ i hi).1
    · exact fun i hi => (hQ i hi).2.1
    · exact fun i hi => (hQ i hi).2.2.1
    · exact fun i hi => (hQ i hi).2.2.2

theorem over : Rows.lawS1705BModelRow.holds Yba.pinned (OpenSpec.ofChange Rows.lawS1705BModelSpec) :=
  OpenClaim.holds_of_wide 5 Yba.f5 rfl rfl rfl rfl rfl rfl rfl ⟨rfl, rfl, rfl, rfl, rfl⟩ rfl rfl rfl rfl rfl (by kernel_rfl) Yba.func5 (by kernel_rfl)
    (of_decide_eq_true (by kernel_rfl)) (by unfold Func.isWrapper; first | (rw [if_pos (by decide +kernel)]; kernel_rfl) | (rw [if_neg (by decide +kernel)]; exact ⟨rfl, rfl⟩))
    (fun os started H enc _ => lifted os started H enc)

/-- THE STATEMENT -/
theorem proved : Rows.LawS1705BModelSaid :=
  over
#print axioms proved
end Go.Proofs.Ybulkaihc.lawS1705BModel
