/-
  DERIVED. GIVEN WITH THE SEED: THE CARDS: each row of YbulkaihcFmtRows.lean that lists a variable, with what it lists TIED to the program's text (the seventh form; the later family's looks); each row that meets fmt, with fmt's text TOLD by the authors' own Lean function (tested against real Go, not proved from fmt's source: count such statements apart). THE CARD IS WHAT COUNTS. Prove the row's statement (the work); the ties are given (YbulkaihcFmtTie.lean); close each card by the builder's one call (the guide's Derived/Test/ToyasCard.lean, 'card_holds'). Laid BY PROGRAM, IN A SANDBOX (cutbox-door.mjs). By AI agents, Wed Nov 11 2026. No macro, syntax, notation, axiom, sorry.
-/
import Derived.Test.YbulkaihcFmtRows
import GoSem.ClaimSeven
namespace Go.Proofs.YbulkaihcFmt
namespace Rows

/-- THE TOLD CARD OF 'sim.LawS1705CUnitDelay'. -/
def lawS1705CUnitDelayCard : Claim7 := { stood := { row := lawS1705CUnitDelayRow, standIns := [], harness := (true, "76a0f129f43407eb113670d042cceac90970224e1285ffe91c57436ffe586646"), looks := false }, told := true, goes := false }
def LawS1705CUnitDelayToldSaid : Prop := Claim7.holds Ybaf.pinned (.plain (OpenSpec.ofChange lawS1705CUnitDelaySpec)) lawS1705CUnitDelayCard
/-- ITS FALSE NEIGHBOUR. Refute it at one input. -/
def LawS1705CUnitDelayToldWrongFalsely : Prop := Claim7.holds Ybaf.pinned (.plain (OpenSpec.ofChange lawS1705CUnitDelayWrong)) lawS1705CUnitDelayCard

/-- THE TOLD CARD OF 'sim.LawS1705CSchedule'. -/
def lawS1705CScheduleCard : Claim7 := { stood := { row := lawS1705CScheduleRow, standIns := [], harness := (true, "76a0f129f43407eb113670d042cceac90970224e1285ffe91c57436ffe586646"), looks := false }, told := true, goes := false }
def LawS1705CScheduleToldSaid : Prop := Claim7.holds Ybaf.pinned (.plain (OpenSpec.ofChange lawS1705CScheduleSpec)) lawS1705CScheduleCard
/-- ITS FALSE NEIGHBOUR. Refute it at one input. -/
def LawS1705CScheduleToldWrongFalsely : Prop := Claim7.holds Ybaf.pinned (.plain (OpenSpec.ofChange lawS1705CScheduleWrong)) lawS1705CScheduleCard
end Rows
end Go.Proofs.YbulkaihcFmt
