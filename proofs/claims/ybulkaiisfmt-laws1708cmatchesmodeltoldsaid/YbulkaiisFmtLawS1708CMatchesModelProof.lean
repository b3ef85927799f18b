/-
  PROOF OF 'Rows.LawS1708CMatchesModelToldSaid'. By the prover of seat 061 (an AI agent).
-/
import Derived.Test.YbulkaiisFmtMatchWalk
import Derived.Test.YbulkaiisFmtCards
import Derived.ChangeSlices
import Derived.ChangeSame
import Derived.ChangeMaps5
import Derived.JoinedOf
import Derived.Carry
import Derived.OpenShut
import Derived.Deep.Slices
import Derived.Stop.JoinedAt
import Derived.Stop.Texts
import Derived.Stop.JoinedTold
import Derived.SizedLaws
import Derived.SevenToldRow
namespace Go.Proofs.YbulkaiisFmt.lawS1708CMatchesModel
open Go.ChangeShapes Go.WideShapes Go.ChangeAt Go.RowKit Go.Kit Go.Deep
open Go.Extern.Stop Go.Stop Go.Extern
open Go.ChangeMaps (open_string shut_string)

theorem own : ownKnob Ybaf.prog.godebug = none := by kernel_rfl
theorem laidOut : laidOutB Ybaf.pinned.checked.prog = true := by kernel_rfl
theorem cells5 : Ybaf.prog.cellsOf 5 = 1 := by kernel_rfl
theorem stops : Ybaf.pinned.checked.prog.stops = ["fmt.Sprintf, its operands' methods called", "fmt.errorf"] := by kernel_rfl
theorem stopKnobs : Ybaf.pinned.checked.prog.stopKnobs = [] := by kernel_rfl
theorem quiet (os : Os) : Stop.quiet Ybaf.pinned.checked.prog os := by
  intro k hk
  rw [stopKnobs] at hk
  cases hk

/-- A slice of bytes, opened. -/
theorem bytes_arg {H : Type} {enc : TypeId × Value → H} {W : World} {ad : Option Addr} {len cap fuel : Nat} {x : DataW H × List MemPlace} (hf : DataW.trod enc Ybaf.prog W 0 (fun _ => true) true fuel 26 [.slice ad len cap] = some x) :
    ∃ l, Bytes W ad len l ∧ (ad = none → cap = 0) := by
  rcases open_ints Ybaf.underlying26 Ybaf.underlying5 cells5 hf with ⟨hcs, _⟩ | ⟨a, len', cap', zs, hcs, _, hl, hm, hz, hx, hcell, hwz⟩
  · simp at hcs
    obtain ⟨rfl, rfl, rfl⟩ := hcs
    exact ⟨[], ⟨rfl, fun _ => rfl, fun a h => by cases h⟩, fun _ => rfl⟩
  · simp at hcs
    obtain ⟨rfl, rfl, rfl⟩ := hcs
    simp only [if_true] at hz
    have hlen : ((zs.take len).map fun z => UInt8.ofNat z.toNat).length = len := by
      rw [List.length_map, List.length_take]
      omega
    refine ⟨(zs.take len).map fun z => UInt8.ofNat z.toNat, ⟨hlen, by simp, fun a' ha j hj => ?_⟩, by simp⟩
    cases ha
    rw [hlen] at hj
    rw [hcell j (by omega)]
    have hjz : j < zs.length := by omega
    have hb := bounds_u8 (hwz _ (List.getElem_mem hjz))
    have e1 : zs.getD j 0 = zs[j] := by simp [hjz]
    rw [e1]
    simp only [List.getElem_map, List.getElem_take]
    have e2 : (UInt8.ofNat (zs[j]).toNat).toNat = (zs[j]).toNat := by
      rw [UInt8.toNat_ofNat']
      omega
    rw [e2]
    congr 2
    omega

set_option maxRecDepth 100000 in
theorem lifted (os : Os) (started : os.Started) (H : Type) (enc : TypeId × Value → H) :
    ReturnsInTold none {} Ybaf.checked os 5 .any Input.okWide ((OpenSpec.ofChange Rows.lawS1708CMatchesModelSpec).preRow enc Ybaf.prog Ybaf.f5 [] false []) (fun F => ((OpenSpec.ofChange Rows.lawS1708CMatchesModelSpec).at F).post enc Ybaf.prog Ybaf.f5 false true false false) (aloneAtReturn Ybaf.prog) nothingAlways := by
  refine returnsInTold_of_row (C := Ybaf.checked) (s := OpenSpec.ofChange Rows.lawS1708CMatchesModelSpec) (by kernel_rfl) own started (by kernel_rfl) Ybaf.func5
    (OpenSpec.witness_stopped (enc := enc) (C := Ybaf.checked) false ⟨#[], #[.slice none 0 0, .int .u64 0, .int .i64 0, .string ByteArray.empty], []⟩ 8 (by kernel_rfl) (by kernel_rfl) (by kernel_rfl) (by kernel_rfl)) ?_
  intro F W base args ds gs before _ hF hval0 hW _ _ hsz _ _
  have hval : ∀ (j : Nat) t v, Ybaf.f5.params[j]? = some t → args[j]? = some v → Value.okWide Ybaf.prog W .any base t v := hval0
  have hW' := hW
  obtain ⟨p, q, hA0, hV, rfl, _, _⟩ := hW
  have hA : DataW.TrodAll enc Ybaf.prog W 0 (fun _ => true) true Ybaf.f5.params.toList args.toList ds p := hA0
  rw [Ybaf.params5] at hA hval
  obtain ⟨v0, vs0, d0, ds0, p0, q0, hargs, rfl, rfl, h0, r0⟩ := trodAll_cons hA
  obtain ⟨v1, vs1, d1, ds1, p1, q1, rfl, rfl, rfl, h1, r1⟩ := trodAll_cons r0
  obtain ⟨v2, vs2, d2, ds2, p2, q2, rfl, rfl, rfl, h2, r2⟩ := trodAll_cons r1
  obtain ⟨v3, vs3, d3, ds3, p3, q3, rfl, rfl, rfl, h3, r3⟩ := trodAll_cons r2
  obtain ⟨rfl, rfl, rfl⟩ := trodAll_nil r3
  obtain rfl : args = #[v0, v1, v2, v3] := by cases args; simp_all
  obtain ⟨rfl, rfl⟩ := trodVars_none hV
  obtain ⟨ad, n, c, rfl⟩ := okWide_slice Ybaf.underlying26 (hval 0 26 v0 rfl rfl)
  obtain ⟨qi, rfl, rfl, rfl, wq⟩ := open_int Ybaf.underlying27 (hval 1 27 v1 rfl rfl) h1
  obtain ⟨at', rfl, rfl, rfl, wa⟩ := open_int Ybaf.underlying3 (hval 2 3 v2 rfl rfl) h2
  obtain ⟨what, rfl, rfl, rfl, ws⟩ := open_string Ybaf.underlying9 (hval 3 9 v3 rfl rfl) h3
  have h0k := h0
  obtain ⟨fuel0, hf0⟩ := h0
  clear hA0 hval0
  simp only [List.append_nil] at hW'
  have hlt : ∀ x ∈ p0, x.block < W.heap.size := fun x hx => by simpa using hW'.lt x hx
  have fin : ∀ (e : Ending) (W' : World), (e = .returned (.bool true) ∧ Below W.heap.size W W') →
      ∃ v, e = Ending.returned v ∧ ((OpenSpec.ofChange Rows.lawS1708CMatchesModelSpec).at F.told).post enc Ybaf.checked.prog Ybaf.f5 false true false false W #[.slice ad n c, .int .u64 qi, .int .i64 at', .string what] v W' := by
    intro e W' ⟨he, hb⟩
    subst he
    refine ⟨_, rfl, _, _, _, [], p0, [], hW', trodAll_mk1 (shut_bool Ybaf.underlying4 _), ?_, rfl, hb.frame _, fun h => by cases h⟩
    have a0 := Below.trod laidOut (by kernel_rfl) (of_decide_eq_true (by kernel_rfl)) h0k hb hlt
    have := trodAll_cons_mk a0 (trodAll_cons_mk (shut_int (enc := enc) (w := W') (base := 0) (spare := fun b => decide (b < W.heap.size)) (held := true) Ybaf.underlying27 wq) (trodAll_cons_mk (shut_int Ybaf.underlying3 wa) (trodAll_cons_mk (shut_string Ybaf.underlying9 ws) trodAll_mk0)))
    simp only [List.append_nil] at this
    exact this
  have hqb : 0 ≤ qi ∧ qi < 18446744073709551616 := by
    have := wq
    have e1 : IntKind.u64.min = 0 := by decide
    have e2 : IntKind.u64.max = 18446744073709551615 := by decide
    simp [Lit.wf, e1, e2] at this
    omega
  by_cases g1 : (1024 : Int) < n
  · exact (match_long ad n c qi at' what W g1).mono fin
  obtain ⟨D, hD, _⟩ := bytes_arg hf0
  obtain ⟨q, rfl⟩ : ∃ q : Nat, qi = (q : Int) := ⟨qi.toNat, by omega⟩
  exact (match_walk F.told W hF ad n c q at' what D (by omega) (by omega) hD).mono fin

/-- THE STATEMENT -/
theorem proved : Rows.LawS1708CMatchesModelToldSaid :=
  Claim7.holds_of_told_any 5 Ybaf.f5 "fmt.Sprintf, its operands' methods called" ["fmt.errorf"] [] _ _ _ (by kernel_rfl) rfl rfl rfl laidOut (by kernel_rfl) rfl ⟨rfl, rfl, rfl, rfl, rfl, rfl, rfl⟩ rfl rfl (by kernel_rfl) (by kernel_rfl) Ybaf.func5 (by kernel_rfl)
    (of_decide_eq_true (by kernel_rfl)) (of_decide_eq_true (by kernel_rfl)) stops.symm rfl stopKnobs.symm (by kernel_rfl)
    (by kernel_rfl) (by kernel_rfl) (by kernel_rfl) (by kernel_rfl) (by kernel_rfl) (by kernel_rfl) (by kernel_rfl) (by kernel_rfl) (by kernel_rfl) rfl (by kernel_rfl) rfl rfl
    rfl rfl
    rfl (by kernel_rfl) (by kernel_rfl) (by kernel_rfl) (by decide) (by kernel_rfl)
    (OpenClaim.moreEntering_of (by kernel_rfl) (by kernel_rfl) (by kernel_rfl) (by kernel_rfl) (by kernel_rfl) (by kernel_rfl) (by kernel_rfl) (by kernel_rfl) (by kernel_rfl) (by kernel_rfl))
    ⟨_, WideRow.started_initial, quiet _⟩
    (fun os started _ H enc _ => lifted os started H enc)
#print axioms proved
end Go.Proofs.YbulkaiisFmt.lawS1708CMatchesModel
