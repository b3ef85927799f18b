/-
  PROOF OF 'Rows.LawS1705CScheduleToldSaid'. By the prover of seat 061 (an AI agent).
-/
import Derived.Test.YbulkaihcFmtSchedWalk
import Derived.Test.YbulkaihcFmtCards
import Derived.Deep.Strs
import Derived.ProofKit
import Derived.ChangeSlices
import Derived.ChangeSame
import Derived.ChangeMaps5
import Derived.JoinedOf
import Derived.Carry
import Derived.OpenShut
import Derived.Stop.JoinedAt
import Derived.Stop.Texts
import Derived.Stop.JoinedTold
import Derived.SizedLaws
import Derived.SevenToldRow
namespace Go.Proofs.YbulkaihcFmt.lawS1705CSchedule
open Go.ChangeShapes Go.WideShapes Go.ChangeAt Go.RowKit Go.Kit Go.Deep
open Go.Extern.Stop Go.Stop Go.Extern

theorem own : ownKnob Ybaf.prog.godebug = none := by kernel_rfl
theorem laidOut : laidOutB Ybaf.pinned.checked.prog = true := by kernel_rfl
theorem cells9 : Ybaf.prog.cellsOf 9 = 1 := by kernel_rfl
theorem cells3 : Ybaf.prog.cellsOf 3 = 1 := by kernel_rfl
theorem cells5 : Ybaf.prog.cellsOf 5 = 1 := by kernel_rfl
theorem stops : Ybaf.pinned.checked.prog.stops = ["fmt.errorf"] := by kernel_rfl
theorem stopKnobs : Ybaf.pinned.checked.prog.stopKnobs = [] := by kernel_rfl
theorem quiet (os : Os) : Stop.quiet Ybaf.pinned.checked.prog os := by
  intro k hk
  rw [stopKnobs] at hk
  cases hk

theorem add_one (b off i : Nat) : (⟨b, off, none⟩ : Addr).add i = ⟨b, off + i, none⟩ := add_plain _ _ _
theorem index22 (b off n c i : Nat) (W : World) (hi : i < n) :
    (Instr.indexAt 22 (.slice (some ⟨b, off, none⟩) n c) (.int .i64 (i : Int))).run Ybaf.prog W = .ok (.pointer (some ⟨b, off + i, none⟩)) W := by
  simp [Instr.indexAt, asIntOf, run_underlying Ybaf.underlying22, hi, Result.andThen]
  simpa using add_one b off i
theorem index25 (b off n c i : Nat) (W : World) (hi : i < n) :
    (Instr.indexAt 25 (.slice (some ⟨b, off, none⟩) n c) (.int .i64 (i : Int))).run Ybaf.prog W = .ok (.pointer (some ⟨b, off + i, none⟩)) W := by
  simp [Instr.indexAt, asIntOf, run_underlying Ybaf.underlying25, hi, Result.andThen]
  simpa using add_one b off i
theorem index35 (b off n c i : Nat) (W : World) (hi : i < n) :
    (Instr.indexAt 35 (.slice (some ⟨b, off, none⟩) n c) (.int .i64 (i : Int))).run Ybaf.prog W = .ok (.pointer (some ⟨b, off + i, none⟩)) W := by
  simp [Instr.indexAt, asIntOf, run_underlying Ybaf.underlying35, hi, Result.andThen]
  simpa using add_one b off i

section
variable {H : Type} {enc : TypeId × Value → H} {W : World}
/-- A slice of ints, opened. -/
theorem ints_arg {t e : TypeId} {k : IntKind} {ad : Option Addr} {len cap fuel : Nat} {x : DataW H × List MemPlace} (ht : Ybaf.prog.underlying t = some (.slice e)) (he : Ybaf.prog.underlying e = some (.int k)) (hc : Ybaf.prog.cellsOf e = 1) (hf : DataW.trod enc Ybaf.prog W 0 (fun _ => true) true fuel t [.slice ad len cap] = some x) (hpos : 0 < len) :
    ∃ (b off : Nat) (Z : Nat → Int), ad = some ⟨b, off, none⟩ ∧ b < W.heap.size ∧ (∀ i, i < len → W.cell? ⟨b, off + i, none⟩ = some (.int k (Z i))) ∧ ∀ i, i < len → (Lit.int k (Z i)).wf = true := by
  rcases open_ints ht he hc hf with ⟨hcs, _⟩ | ⟨a, len', cap', zs, hcs, _, hl, hm, hz, hx, hcell, hwz⟩
  · simp at hcs
    omega
  · simp at hcs
    obtain ⟨rfl, rfl, rfl⟩ := hcs
    simp only [if_true] at hz
    obtain ⟨b, off, spot⟩ := a
    have hspot : spot = none := by
      have := hcell 0 (by omega)
      simpa [Addr.add] using World.cell?_spot this
    subst hspot
    refine ⟨b, off, fun i => zs.getD i 0, rfl, World.block_lt_of_cell? _ _ (by simpa [Addr.add] using hcell 0 (by omega)), fun i hi => ?_, fun i hi => ?_⟩
    · have := hcell i (by omega)
      rwa [add_one] at this
    · have hi' : i < zs.length := by omega
      have : zs.getD i 0 = zs[i] := by simp [hi']
      show (Lit.int k (zs.getD i 0)).wf = true
      rw [this]
      exact hwz _ (List.getElem_mem hi')
/-- A slice of strings, opened. -/
theorem strs_arg {ad : Option Addr} {len cap fuel : Nat} {x : DataW H × List MemPlace} (hf : DataW.trod enc Ybaf.prog W 0 (fun _ => true) true fuel 22 [.slice ad len cap] = some x) (hpos : 0 < len) :
    ∃ (b off : Nat) (R : Nat → ByteArray), ad = some ⟨b, off, none⟩ ∧ b < W.heap.size ∧ ∀ i, i < len → W.cell? ⟨b, off + i, none⟩ = some (.string (R i)) := by
  rcases open_strs Ybaf.underlying22 Ybaf.underlying9 cells9 hf with ⟨hcs, _⟩ | ⟨a, len', cap', m, R, hcs, _, hl, hm, hmm, hx, hel⟩
  · simp at hcs
    omega
  · simp at hcs
    obtain ⟨rfl, rfl, rfl⟩ := hcs
    simp only [if_true] at hmm
    subst hmm
    obtain ⟨b, off, spot⟩ := a
    have hspot : spot = none := by
      have := (hel 0 (by omega)).1
      simpa [Addr.add] using World.cell?_spot this
    subst hspot
    refine ⟨b, off, R, rfl, World.block_lt_of_cell? _ _ (by simpa [Addr.add] using (hel 0 (by omega)).1), fun i hi => ?_⟩
    have := (hel i (by omega)).1
    rwa [add_one] at this
end

set_option maxRecDepth 100000 in
/-- Beyond the law's bounds. -/
theorem sched_long (iad dad rad : Option Addr) (n ic dl dc r rc : Nat) (w : World) (h : (256 : Int) < n ∨ (¬ (256 : Int) < n ∧ (256 : Int) < r) ∨ (¬ (256 : Int) < n ∧ ¬ (256 : Int) < r ∧ 16384 < n * r)) :
    Calls Ybaf.prog 4 #[.slice iad n ic, .slice dad dl dc, .slice rad r rc] w fun e w' => e = .returned (.bool true) ∧ Below w.heap.size w w' := by
  have hb : Below w.heap.size w (w.alloc (.cells #[.slice dad dl dc] 35)) := ⟨rfl, rfl, rfl, by simp, fun k hk => Below.heap_alloc _ _ _ hk⟩
  rcases h with h | ⟨h, h2⟩ | ⟨h, h2, h3⟩
  · go_enter Ybaf.func4, Ybaf.ntmps4
    go_wp2
    go_ret
    exact ⟨rfl, hb⟩
  · go_enter Ybaf.func4, Ybaf.ntmps4
    go_wp2
    go_ret
    exact ⟨rfl, hb⟩
  · obtain ⟨m, hm⟩ : ∃ m, m = n * r := ⟨_, rfl⟩
    have g3 : (n : Int) * (r : Int) = (m : Int) := by rw [hm, Int.natCast_mul]
    have hm1 : m ≤ 256 * 256 := by rw [hm]; exact Nat.mul_le_mul (by omega) (by omega)
    rw [← hm] at h3
    clear hm
    have g4 : (16384 : Int) < (m : Int) := by omega
    have g5 : IntKind.i64.wrap (m : Int) = (m : Int) := by rw [IntKind.wrap_i64]; omega
    go_enter Ybaf.func4, Ybaf.ntmps4
    go_wp2
    go_ret
    exact ⟨rfl, hb⟩

set_option maxRecDepth 100000 in
theorem lifted (os : Os) (started : os.Started) (H : Type) (enc : TypeId × Value → H) :
    ReturnsInTold none {} Ybaf.checked os 4 .any Input.okWide ((OpenSpec.ofChange Rows.lawS1705CScheduleSpec).preRow enc Ybaf.prog Ybaf.f4 [] false []) (fun F => ((OpenSpec.ofChange Rows.lawS1705CScheduleSpec).at F).post enc Ybaf.prog Ybaf.f4 false true false false) (aloneAtReturn Ybaf.prog) nothingAlways := by
  refine returnsInTold_of_row (C := Ybaf.checked) (s := OpenSpec.ofChange Rows.lawS1705CScheduleSpec) (by kernel_rfl) own started (by kernel_rfl) Ybaf.func4
    (OpenSpec.witness_stopped (enc := enc) (C := Ybaf.checked) false ⟨#[], #[.slice none 0 0, .slice none 0 0, .slice none 0 0], []⟩ 8 (by kernel_rfl) (by kernel_rfl) (by kernel_rfl) (by kernel_rfl)) ?_
  intro F W base args ds gs before _ hF hval0 hW _ _ hsz _ _
  have hval : ∀ (j : Nat) t v, Ybaf.f4.params[j]? = some t → args[j]? = some v → Value.okWide Ybaf.prog W .any base t v := hval0
  have hW' := hW
  obtain ⟨p, q, hA0, hV, rfl, _, _⟩ := hW
  have hA : DataW.TrodAll enc Ybaf.prog W 0 (fun _ => true) true Ybaf.f4.params.toList args.toList ds p := hA0
  rw [Ybaf.params4] at hA hval
  obtain ⟨v0, vs0, d0, ds0, p0, q0, hargs, rfl, rfl, h0, r0⟩ := trodAll_cons hA
  obtain ⟨v1, vs1, d1, ds1, p1, q1, rfl, rfl, rfl, h1, r1⟩ := trodAll_cons r0
  obtain ⟨v2, vs2, d2, ds2, p2, q2, rfl, rfl, rfl, h2, r2⟩ := trodAll_cons r1
  obtain ⟨rfl, rfl, rfl⟩ := trodAll_nil r2
  obtain rfl : args = #[v0, v1, v2] := by cases args; simp_all
  obtain ⟨rfl, rfl⟩ := trodVars_none hV
  obtain ⟨iad, n, ic, rfl⟩ := okWide_slice Ybaf.underlying25 (hval 0 25 v0 rfl rfl)
  obtain ⟨dad, dl, dc, rfl⟩ := okWide_slice Ybaf.underlying35 (hval 1 35 v1 rfl rfl)
  obtain ⟨rad, r, rc, rfl⟩ := okWide_slice Ybaf.underlying22 (hval 2 22 v2 rfl rfl)
  have h0k := h0
  have h1k := h1
  have h2k := h2
  obtain ⟨fuel0, hf0⟩ := h0
  obtain ⟨fuel1, hf1⟩ := h1
  obtain ⟨fuel2, hf2⟩ := h2
  clear hA0 hval0
  simp only [List.append_nil] at hW'
  have hlt : ∀ x ∈ p0 ++ (p1 ++ p2), x.block < W.heap.size := fun x hx => by simpa using hW'.lt x hx
  have hargs' : ∀ (W' : World), Below W.heap.size W W' → DataW.TrodAll enc Ybaf.prog W' 0 (fun b => decide (b < W.heap.size)) true [25, 35, 22] [.slice iad n ic, .slice dad dl dc, .slice rad r rc] [d0, d1, d2] (p0 ++ (p1 ++ p2)) := by
    intro W' hn
    have a0 := Below.trod laidOut (by kernel_rfl) (of_decide_eq_true (by kernel_rfl)) h0k hn (fun x hx => hlt x (by simp [hx]))
    have a1 := Below.trod laidOut (by kernel_rfl) (of_decide_eq_true (by kernel_rfl)) h1k hn (fun x hx => hlt x (by simp [hx]))
    have a2 := Below.trod laidOut (by kernel_rfl) (of_decide_eq_true (by kernel_rfl)) h2k hn (fun x hx => hlt x (by simp [hx]))
    have := trodAll_cons_mk a0 (trodAll_cons_mk a1 (trodAll_cons_mk a2 trodAll_mk0))
    simp only [List.append_nil] at this
    exact this
  have fin : ∀ (e : Ending) (W' : World), (e = .returned (.bool true) ∧ Below W.heap.size W W') →
      ∃ v, e = Ending.returned v ∧ ((OpenSpec.ofChange Rows.lawS1705CScheduleSpec).at F.told).post enc Ybaf.checked.prog Ybaf.f4 false true false false W #[.slice iad n ic, .slice dad dl dc, .slice rad r rc] v W' := by
    intro e W' ⟨he, hb⟩
    subst he
    exact ⟨_, rfl, _, _, _, [], p0 ++ (p1 ++ p2), [], hW', trodAll_mk1 (shut_bool Ybaf.underlying4 _), hargs' _ hb, rfl, hb.frame _, fun h => by cases h⟩
  by_cases g1 : (256 : Int) < n
  · exact (sched_long iad dad rad n ic dl dc r rc W (Or.inl g1)).mono fin
  by_cases g2 : (256 : Int) < r
  · exact (sched_long iad dad rad n ic dl dc r rc W (Or.inr (Or.inl ⟨g1, g2⟩))).mono fin
  by_cases g3 : 16384 < n * r
  · exact (sched_long iad dad rad n ic dl dc r rc W (Or.inr (Or.inr ⟨g1, g2, g3⟩))).mono fin
  obtain ⟨ib, ioff, ids, i1, i2, i3⟩ : ∃ (ib ioff : Nat) (ids : Nat → Int), (0 < n → ib < W.heap.size) ∧ (∀ (i : Nat) (W : World), i < n → (Instr.indexAt 25 (.slice iad n ic) (.int .i64 (i : Int))).run Ybaf.prog W = .ok (.pointer (some ⟨ib, ioff + i, none⟩)) W) ∧ (∀ i, i < n → W.cell? ⟨ib, ioff + i, none⟩ = some (.int .i64 (ids i))) := by
    by_cases hz : 0 < n
    · obtain ⟨b, off, Z, rfl, a1, a2, _⟩ := ints_arg Ybaf.underlying25 Ybaf.underlying3 cells3 hf0 hz
      exact ⟨b, off, Z, fun _ => a1, fun i W hi => index25 b off n ic i W hi, a2⟩
    · exact ⟨0, 0, fun _ => 0, by omega, by omega, by omega⟩
  obtain ⟨db, doff, Ds, j1, j2, j3, j4⟩ : ∃ (db doff : Nat) (Ds : Nat → Int), (0 < dl → db < W.heap.size) ∧ (∀ (i : Nat) (W : World), i < dl → (Instr.indexAt 35 (.slice dad dl dc) (.int .i64 (i : Int))).run Ybaf.prog W = .ok (.pointer (some ⟨db, doff + i, none⟩)) W) ∧ (∀ i, i < dl → W.cell? ⟨db, doff + i, none⟩ = some (.int .u8 (Ds i))) ∧ (∀ i, i < dl → 0 ≤ Ds i ∧ Ds i ≤ 255) := by
    by_cases hz : 0 < dl
    · obtain ⟨b, off, Z, rfl, a1, a2, a3⟩ := ints_arg Ybaf.underlying35 Ybaf.underlying5 cells5 hf1 hz
      exact ⟨b, off, Z, fun _ => a1, fun i W hi => index35 b off dl dc i W hi, a2, fun i hi => bounds_u8 (a3 i hi)⟩
    · exact ⟨0, 0, fun _ => 0, by omega, by omega, by omega, by omega⟩
  obtain ⟨rb, roff, R, k1, k2, k3⟩ : ∃ (rb roff : Nat) (R : Nat → ByteArray), (0 < r → rb < W.heap.size) ∧ (∀ (i : Nat) (W : World), i < r → (Instr.indexAt 22 (.slice rad r rc) (.int .i64 (i : Int))).run Ybaf.prog W = .ok (.pointer (some ⟨rb, roff + i, none⟩)) W) ∧ (∀ i, i < r → W.cell? ⟨rb, roff + i, none⟩ = some (.string (R i))) := by
    by_cases hz : 0 < r
    · obtain ⟨b, off, Z, rfl, a1, a2⟩ := strs_arg hf2 hz
      exact ⟨b, off, Z, fun _ => a1, fun i W hi => index22 b off r rc i W hi, a2⟩
    · exact ⟨0, 0, fun _ => ByteArray.empty, by omega, by omega, by omega⟩
  exact (sched_walk iad dad rad ib ioff n ic db doff dl dc rb roff r rc ids Ds R W (by omega) (by omega) (by omega) i1 j1 k1 i2 j2 k2 i3 j3 j4 k3).mono fin

/-- THE STATEMENT -/
theorem proved : Rows.LawS1705CScheduleToldSaid :=
  Claim7.holds_of_told_any 4 Ybaf.f4 "fmt.errorf" [] [] _ _ _ (by kernel_rfl) rfl rfl rfl laidOut (by kernel_rfl) rfl ⟨rfl, rfl, rfl, rfl, rfl, rfl, rfl⟩ rfl rfl (by kernel_rfl) (by kernel_rfl) Ybaf.func4 (by kernel_rfl)
    (of_decide_eq_true (by kernel_rfl)) (of_decide_eq_true (by kernel_rfl)) stops.symm rfl stopKnobs.symm (by kernel_rfl)
    (by kernel_rfl) (by kernel_rfl) (by kernel_rfl) (by kernel_rfl) (by kernel_rfl) (by kernel_rfl) (by kernel_rfl) (by kernel_rfl) (by kernel_rfl) rfl (by kernel_rfl) rfl rfl
    rfl rfl
    rfl (by kernel_rfl) (by kernel_rfl) (by kernel_rfl) (by decide) (by kernel_rfl)
    (OpenClaim.moreEntering_of (by kernel_rfl) (by kernel_rfl) (by kernel_rfl) (by kernel_rfl) (by kernel_rfl) (by kernel_rfl) (by kernel_rfl) (by kernel_rfl) (by kernel_rfl) (by kernel_rfl))
    ⟨_, WideRow.started_initial, quiet _⟩
    (fun os started _ H enc _ => lifted os started H enc)
#print axioms proved
end Go.Proofs.YbulkaihcFmt.lawS1705CSchedule
