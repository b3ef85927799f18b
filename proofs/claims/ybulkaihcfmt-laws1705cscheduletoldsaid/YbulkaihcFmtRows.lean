/-
  No cell of these rows narrows 'for every input' (looked for: loops, veiled, ifaces, maps, wideKeys, modest, calm, conditions, laid).
  DERIVED. THE GIVEN ROWS OF THIS SEAT. 2 by the template 'for every input the law returns true; each argument reads behind the call as it read before'; 0 by the template 'total and deterministic' (their statements: YbulkaihcFmtTotals.lean).
  GIVEN WITH THE SEED: the statements are not yours to turn. If you find one false, say at which input.
  Laid BY PROGRAM, IN A SANDBOX (cutbox-rows.mjs): the forced cells as the released guide's own fill.sh prints them over the translation 818b154e4b2ed256… (all of the seat's roots in one cut). By AI agents, Wed Nov 11 2026. No macro, syntax, notation, axiom, sorry.
-/
import Derived.Test.YbulkaihcFmtChecked
import GoSem.Claim
import GoSem.ClaimJoined
import GoSem.ClaimMapViews
import Derived.JoinedTies
import Derived.KernelRfl
namespace Go.Proofs.YbulkaihcFmt
/- THE CELL 'sum', in the pinned program and in every row, IS THE sha256 OF THE DUMP (.gsa) THAT YbulkaihcFmtProg.lean LOADS. Nothing in Lean hashes anything: it is a label: what it is worth is what the hold of that sum in a sandbox is worth. -/
noncomputable def Ybaf.pinned : Pinned := { name := "ybulkaihcfmt", sum := "818b154e4b2ed2566d89d82d7a7adc9839b6a502833af20f09b9dc5e515c0f80", checked := Ybaf.checked }
namespace Rows
def none {H : Type} : Left H := { results := [], args := [] }

/-- 'sim.LawS1705CUnitDelay': WHATEVER THE INPUT: true; the input reads as it did. -/
def lawS1705CUnitDelaySpec : ChangeSpec := { name := "lawS1705CUnitDelay", fn := fun _ => fun
  | [d] => { results := [.lit (.bool true)], args := [d] }
  | _ => none }
def lawS1705CUnitDelayRow : OpenClaim := { program := "ybulkaihcfmt", sum := "818b154e4b2ed2566d89d82d7a7adc9839b6a502833af20f09b9dc5e515c0f80", func := "example.com/quorate/quorate/internal/sim.LawS1705CUnitDelay", spec := "lawS1705CUnitDelay", stops := ["fmt.errorf"], inPlace := ["fmt.errorf", "(*internal/sync.Mutex).Lock", "internal/race.Disable", "sync/atomic.CompareAndSwapInt32", "internal/race.Enable", "internal/race.Acquire", "(*internal/sync.Mutex).lockSlow", "internal/sync.runtime_canSpin", "internal/sync.runtime_doSpin", "internal/sync.throw", "internal/sync.runtime_nanotime", "internal/sync.runtime_SemacquireMutex", "sync/atomic.AddInt32", "(*internal/sync.Mutex).Unlock", "internal/race.ReleaseMerge", "(*internal/sync.Mutex).unlockSlow", "internal/sync.fatal", "internal/sync.runtime_Semrelease", "slices.overlaps[int]"], unfollowed := true, recurses := true, plainKeys := false, apart := false }
/-- NO THEOREM (fmt's text is open here; it may be false): for the released tool's asking of the row's closed facts alone. THE STATEMENT IS 'LawS1705CUnitDelayToldSaid' (YbulkaihcFmtCards.lean). -/
def LawS1705CUnitDelayFormAsk : Prop := lawS1705CUnitDelayRow.holds Ybaf.pinned (OpenSpec.ofChange lawS1705CUnitDelaySpec)

/-- ITS FALSE NEIGHBOUR: 'it returns false'. Refute it at one input. -/
def lawS1705CUnitDelayWrong : ChangeSpec := { name := "lawS1705CUnitDelay", fn := fun _ => fun
  | [d] => { results := [.lit (.bool false)], args := [d] }
  | _ => none }
def LawS1705CUnitDelayWrongFormAsk : Prop := lawS1705CUnitDelayRow.holds Ybaf.pinned (OpenSpec.ofChange lawS1705CUnitDelayWrong)

/-- 'sim.LawS1705CSchedule': WHATEVER THE INPUT: true; the input reads as it did. -/
def lawS1705CScheduleSpec : ChangeSpec := { name := "lawS1705CSchedule", fn := fun _ => fun
  | [d1, d2, d3] => { results := [.lit (.bool true)], args := [d1, d2, d3] }
  | _ => none }
def lawS1705CScheduleRow : OpenClaim := { program := "ybulkaihcfmt", sum := "818b154e4b2ed2566d89d82d7a7adc9839b6a502833af20f09b9dc5e515c0f80", func := "example.com/quorate/quorate/internal/sim.LawS1705CSchedule", spec := "lawS1705CSchedule", stops := ["fmt.errorf"], inPlace := ["fmt.errorf", "(*internal/sync.Mutex).Lock", "internal/race.Disable", "sync/atomic.CompareAndSwapInt32", "internal/race.Enable", "internal/race.Acquire", "(*internal/sync.Mutex).lockSlow", "internal/sync.runtime_canSpin", "internal/sync.runtime_doSpin", "internal/sync.throw", "internal/sync.runtime_nanotime", "internal/sync.runtime_SemacquireMutex", "sync/atomic.AddInt32", "(*internal/sync.Mutex).Unlock", "internal/race.ReleaseMerge", "(*internal/sync.Mutex).unlockSlow", "internal/sync.fatal", "internal/sync.runtime_Semrelease", "slices.overlaps[int]"], unfollowed := true, recurses := true, plainKeys := false, apart := false }
/-- NO THEOREM (fmt's text is open here; it may be false): for the released tool's asking of the row's closed facts alone. THE STATEMENT IS 'LawS1705CScheduleToldSaid' (YbulkaihcFmtCards.lean). -/
def LawS1705CScheduleFormAsk : Prop := lawS1705CScheduleRow.holds Ybaf.pinned (OpenSpec.ofChange lawS1705CScheduleSpec)

/-- ITS FALSE NEIGHBOUR: 'it returns false'. Refute it at one input. -/
def lawS1705CScheduleWrong : ChangeSpec := { name := "lawS1705CSchedule", fn := fun _ => fun
  | [d1, d2, d3] => { results := [.lit (.bool false)], args := [d1, d2, d3] }
  | _ => none }
def LawS1705CScheduleWrongFormAsk : Prop := lawS1705CScheduleRow.holds Ybaf.pinned (OpenSpec.ofChange lawS1705CScheduleWrong)

end Rows
end Go.Proofs.YbulkaihcFmt
