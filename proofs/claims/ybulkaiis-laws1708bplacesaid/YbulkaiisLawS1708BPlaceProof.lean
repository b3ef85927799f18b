/-
  PROOF OF 'Rows.LawS1708BPlaceSaid'. By the prover of seat 061 (an AI agent).
-/
import Derived.Test.YbulkaiisPlaceIndex
import Derived.Deep.SlicePairs
import Derived.Deep.Strs
import Derived.OpenShut
import Derived.ShutString
import Derived.SizedLaws
namespace Go.Proofs.Ybulkaiis.lawS1708BPlace
open Go.ChangeShapes Go.WideShapes Go.ChangeAt Go.RowKit Go.Deep

theorem own : ownKnob Yba.prog.godebug = none := by kernel_rfl
theorem laidOut : laidOutB Yba.prog = true := by kernel_rfl
theorem cells9 : Yba.prog.cellsOf 9 = 1 := by kernel_rfl
theorem cells3 : Yba.prog.cellsOf 3 = 1 := by kernel_rfl
theorem cells31 : Yba.prog.cellsOf 31 = 2 := by kernel_rfl

theorem add_one (b off i : Nat) : (⟨b, off, none⟩ : Addr).add i = ⟨b, off + i, none⟩ := add_plain _ _ _
theorem index22 (b off n c i : Nat) (W : World) (hi : i < n) :
    (Instr.indexAt 22 (.slice (some ⟨b, off, none⟩) n c) (.int .i64 (i : Int))).run Yba.prog W = .ok (.pointer (some ⟨b, off + i, none⟩)) W := by
  simp [Instr.indexAt, asIntOf, run_underlying Yba.underlying22, hi, Result.andThen]
  simpa using add_one b off i
theorem index23 (b off n c i : Nat) (W : World) (hi : i < n) :
    (Instr.indexAt 23 (.slice (some ⟨b, off, none⟩) n c) (.int .i64 (i : Int))).run Yba.prog W = .ok (.pointer (some ⟨b, off + i * 2, none⟩)) W := by
  have hadd : (⟨b, off, none⟩ : Addr).add (i * 2) = ⟨b, off + i * 2, none⟩ := add_plain _ _ _
  simp [Instr.indexAt, asIntOf, run_underlying Yba.underlying23, hi, hadd, Result.andThen]

set_option maxRecDepth 100000 in
theorem lifted (os : Os) (started : os.Started) (H : Type) (enc : TypeId × Value → H) :
    ReturnsInHanded {} Yba.checked os 3 .any (Rows.lawS1708BPlaceSpec.pre6 enc Yba.prog Yba.f3 Rows.lawS1708BPlaceRow.domain false) (Rows.lawS1708BPlaceSpec.post enc Yba.prog Yba.f3 false true false false) := by
  refine returnsInHanded_of_change (C := Yba.checked) own started (by kernel_rfl) Yba.func3
    (ChangeSpec.witness6 (enc := enc) (C := Yba.checked) false ⟨#[], #[.slice none 0 0, .slice none 0 0, .int .u8 0, .bool false], []⟩ 8 (by kernel_rfl) (by kernel_rfl) (by kernel_rfl) (by kernel_rfl)) ?_
  intro W base args ds gs before hval0 hW hcnd _
  have hval : ∀ (j : Nat) t v, Yba.f3.params[j]? = some t → args[j]? = some v → Value.okWide Yba.prog W .any base t v := hval0
  have hW' := hW
  obtain ⟨p, q, hA0, hV, rfl, hfz, hnd⟩ := hW
  have hA : DataW.TrodAll enc Yba.prog W 0 (fun _ => true) true Yba.f3.params.toList args.toList ds p := hA0
  rw [Yba.params3] at hA hval
  obtain ⟨v0, vs0, d0, ds0, p0, q0, hargs, rfl, rfl, h0, r0⟩ := trodAll_cons hA
  obtain ⟨v1, vs1, d1, ds1, p1, q1, rfl, rfl, rfl, h1, r1⟩ := trodAll_cons r0
  obtain ⟨v2, vs2, d2, ds2, p2, q2, rfl, rfl, rfl, h2, r2⟩ := trodAll_cons r1
  obtain ⟨v3, vs3, d3, ds3, p3, q3, rfl, rfl, rfl, h3, r3⟩ := trodAll_cons r2
  obtain ⟨rfl, rfl, rfl⟩ := trodAll_nil r3
  obtain rfl : args = #[v0, v1, v2, v3] := by cases args; simp_all
  obtain ⟨rfl, rfl⟩ := trodVars_none hV
  obtain ⟨had, n, hc, rfl⟩ := okWide_slice Yba.underlying22 (hval 0 22 v0 rfl rfl)
  obtain ⟨pad, m, pc, rfl⟩ := okWide_slice Yba.underlying23 (hval 1 23 v1 rfl rfl)
  obtain ⟨k, rfl, rfl, rfl, wk⟩ := open_int Yba.underlying5 (hval 2 5 v2 rfl rfl) h2
  obtain ⟨ni, rfl, rfl, rfl⟩ := open_bool Yba.underlying4 (hval 3 4 v3 rfl rfl) h3
  have h0k := h0
  have h1k := h1
  obtain ⟨fuel0, hf0⟩ := h0
  obtain ⟨fuel1, hf1⟩ := h1
  clear hA0 hval0
  simp only [List.append_nil] at hW'
  have hlt : ∀ x ∈ p0 ++ p1, x.block < W.heap.size := fun x hx => by simpa using hW'.lt x hx
  have fin : ∀ (e : Ending) (W' : World), (e = .returned (.bool true) ∧ Below W.heap.size W W') →
      ∃ v, e = Ending.returned v ∧ Rows.lawS1708BPlaceSpec.post enc Yba.checked.prog Yba.f3 false true false false W #[.slice had n hc, .slice pad m pc, .int .u8 k, .bool ni] v W' := by
    intro e W' ⟨he, hb⟩
    subst he
    refine ⟨_, rfl, _, _, _, [], p0 ++ p1, [], hW', trodAll_mk1 (shut_bool Yba.underlying4 _), ?_, rfl, hb.frame _, fun h => by cases h⟩
    have a0 := Below.trod laidOut (by kernel_rfl) (of_decide_eq_true (by kernel_rfl)) h0k hb (fun x hx => hlt x (by simp [hx]))
    have a1 := Below.trod laidOut (by kernel_rfl) (of_decide_eq_true (by kernel_rfl)) h1k hb (fun x hx => hlt x (by simp [hx]))
    have := trodAll_cons_mk a0 (trodAll_cons_mk a1 (trodAll_cons_mk (shut_int (enc := enc) (w := W') (base := 0) (spare := fun b => decide (b < W.heap.size)) (held := true) Yba.underlying5 wk) (trodAll_cons_mk (shut_bool Yba.underlying4 ni) trodAll_mk0)))
    simp only [List.append_nil] at this
    exact this
  have hkb := bounds_u8 wk
  by_cases g1 : (1024 : Int) < n
  · exact (place_long had pad n hc m pc k ni W (Or.inl g1)).mono fin
  by_cases g2 : (1024 : Int) < m
  · exact (place_long had pad n hc m pc k ni W (Or.inr ⟨g1, g2⟩)).mono fin
  obtain ⟨hb, hoff, Hs, i1, i2, i3⟩ : ∃ (hb hoff : Nat) (Hs : Nat → ByteArray), (0 < n → had = some ⟨hb, hoff, none⟩ ∧ hb < W.heap.size) ∧ (∀ (i : Nat) (W : World), i < n → (Instr.indexAt 22 (.slice had n hc) (.int .i64 (i : Int))).run Yba.prog W = .ok (.pointer (some ⟨hb, hoff + i, none⟩)) W) ∧ (∀ i, i < n → W.cell? ⟨hb, hoff + i, none⟩ = some (.string (Hs i)) ∧ (Hs i).size ≤ maxLen) := by
    by_cases hz : 0 < n
    · rcases open_strs Yba.underlying22 Yba.underlying9 cells9 hf0 with ⟨hcs, _⟩ | ⟨a, len', cap', mm, R, hcs, _, hl, hm, hmm, hx, hel⟩
      · simp [Value.cells] at hcs
        omega
      · simp [Value.cells] at hcs
        obtain ⟨rfl, rfl, rfl⟩ := hcs
        simp only [if_true] at hmm
        subst hmm
        obtain ⟨b, off, spot⟩ := a
        have hspot : spot = none := by
          have := (hel 0 (by omega)).1
          simpa [Addr.add] using World.cell?_spot this
        subst hspot
        refine ⟨b, off, R, fun _ => ⟨rfl, World.block_lt_of_cell? _ _ (by simpa [Addr.add] using (hel 0 (by omega)).1)⟩, fun i W hi => index22 b off n _ i W hi, fun i hi => ?_⟩
        have := hel i (by omega)
        rwa [add_one] at this
    · exact ⟨0, 0, fun _ => ByteArray.empty, by omega, by omega, by omega⟩
  cases ni with
  | true => exact (place_noIndex had pad hb hoff n hc m pc Hs k W (by omega) (by omega) hkb.1 hkb.2 i1 i2 (fun i hi => (i3 i hi).1)).mono fin
  | false =>
    obtain ⟨pb, poff, K, A, j1, j2, j3⟩ : ∃ (pb poff : Nat) (K : Nat → ByteArray) (A : Nat → Int), (0 < m → pb < W.heap.size) ∧ (∀ (i : Nat) (W : World), i < m → (Instr.indexAt 23 (.slice pad m pc) (.int .i64 (i : Int))).run Yba.prog W = .ok (.pointer (some ⟨pb, poff + i * 2, none⟩)) W) ∧ (∀ i, i < m → W.cell? ⟨pb, poff + i * 2, none⟩ = some (.string (K i)) ∧ W.cell? ⟨pb, poff + i * 2 + 1, none⟩ = some (.int .i64 (A i)) ∧ (K i).size ≤ maxLen) := by
      by_cases hz : 0 < m
      · rcases open_slice_pairs Yba.underlying23 Yba.underlying31 cells31 rfl rfl cells9 cells3 hf1 with ⟨hcs, _⟩ | ⟨a, len', cap', mm, nn, V0, V1, D0, D1, P0, P1, hcs, _, hl, hm, hmm, hx, hel⟩
        · simp [Value.cells] at hcs
          omega
        · simp [Value.cells] at hcs
          obtain ⟨rfl, rfl, rfl⟩ := hcs
          simp only [if_true] at hmm
          obtain ⟨Q, hQ⟩ := choose_lt (α := ByteArray × Int) (n := m) (p := fun i o => W.cell? (a.add (i * 2)) = some (.string o.1) ∧ W.cell? (a.add (i * 2 + 1)) = some (.int .i64 o.2) ∧ o.1.size ≤ maxLen) (fun i hi => by
            obtain ⟨c0, c1, t0, t1⟩ := hel i (by omega)
            obtain ⟨o0, e0, _, g0⟩ := DataW.trod_string Yba.underlying9 t0
            obtain ⟨o1, e1, _, g1⟩ := DataW.trod_int Yba.underlying3 t1
            simp at e0 e1
            rw [e0] at c0
            rw [e1] at c1
            exact ⟨(o0, o1), c0, c1, g0⟩)
          obtain ⟨b, off, spot⟩ := a
          have hspot : spot = none := by
            have := (hQ 0 (by omega)).1
            simpa [Addr.add] using World.cell?_spot this
          subst hspot
          refine ⟨b, off, fun i => (Q i).1, fun i => (Q i).2, fun _ => World.block_lt_of_cell? _ _ (by simpa [Addr.add] using (hQ 0 (by omega)).1), fun i W hi => index23 b off m _ i W hi, fun i hi => ?_⟩
          have := hQ i hi
          simp only [add_one] at this
          exact this
      · exact ⟨0, 0, fun _ => ByteArray.empty, fun _ => 0, by omega, by omega, by omega⟩
    exact (place_index had pad hb hoff n hc pb poff m pc Hs K A k W (by omega) (by omega) hkb.1 hkb.2 i1 j1 i2 j2 i3 j3).mono fin

theorem over : Rows.lawS1708BPlaceRow.holds Yba.pinned (OpenSpec.ofChange Rows.lawS1708BPlaceSpec) :=
  OpenClaim.holds_of_wide 3 Yba.f3 rfl rfl rfl rfl rfl rfl rfl ⟨rfl, rfl, rfl, rfl, rfl⟩ rfl rfl rfl rfl rfl (by kernel_rfl) Yba.func3 (by kernel_rfl)
    (of_decide_eq_true (by kernel_rfl)) (by unfold Func.isWrapper; first | (rw [if_pos (by decide +kernel)]; kernel_rfl) | (rw [if_neg (by decide +kernel)]; exact ⟨rfl, rfl⟩))
    (fun os started H enc _ => lifted os started H enc)

/-- THE STATEMENT -/
theorem proved : Rows.LawS1708BPlaceSaid :=
  over
#print axioms proved
end Go.Proofs.Ybulkaiis.lawS1708BPlace
