/-
  DERIVED. GIVEN WITH THE SEED: THE CARDS: each row of YbulkaiisFmtRows.lean that lists a variable, with what it lists TIED to the program's text (the seventh form; the later family's looks); each row that meets fmt, with fmt's text TOLD by the authors' own Lean function (tested against real Go, not proved from fmt's source: count such statements apart). THE CARD IS WHAT COUNTS. Prove the row's statement (the work); the ties are given (YbulkaiisFmtTie.lean); close each card by the builder's one call (the guide's Derived/Test/ToyasCard.lean, 'card_holds'). Laid BY PROGRAM, IN A SANDBOX (cutbox-door.mjs). By AI agents, Wed Nov 11 2026. No macro, syntax, notation, axiom, sorry.
-/
import Derived.Test.YbulkaiisFmtRows
import GoSem.ClaimSeven
namespace Go.Proofs.YbulkaiisFmt
namespace Rows

/-- THE TOLD AND TIED CARD OF 'anteclock.LawS1708ANamed'. -/
def lawS1708ANamedCard : Claim7 := { stood := { row := lawS1708ANamedRow, standIns := [], harness := (true, "a8da7060d054d84a0eae315c376c504f44c096830663d81ab2dd783943b7db69"), looks := false }, told := true, laidByText := true, laidKinds := [.data], laidTests := true, laidLooks := .later, goes := false }
def LawS1708ANamedToldSaid : Prop := Claim7.holds Ybaf.pinned (.plain (OpenSpec.ofChange lawS1708ANamedSpec)) lawS1708ANamedCard
/-- ITS FALSE NEIGHBOUR. Refute it at one input. -/
def LawS1708ANamedToldWrongFalsely : Prop := Claim7.holds Ybaf.pinned (.plain (OpenSpec.ofChange lawS1708ANamedWrong)) lawS1708ANamedCard

/-- THE TOLD AND TIED CARD OF 'anteclock.LawS1708AAll'. -/
def lawS1708AAllCard : Claim7 := { stood := { row := lawS1708AAllRow, standIns := [], harness := (true, "a8da7060d054d84a0eae315c376c504f44c096830663d81ab2dd783943b7db69"), looks := false }, told := true, laidByText := true, laidKinds := [.data], laidTests := true, laidLooks := .later, goes := false }
def LawS1708AAllToldSaid : Prop := Claim7.holds Ybaf.pinned (.plain (OpenSpec.ofChange lawS1708AAllSpec)) lawS1708AAllCard
/-- ITS FALSE NEIGHBOUR. Refute it at one input. -/
def LawS1708AAllToldWrongFalsely : Prop := Claim7.holds Ybaf.pinned (.plain (OpenSpec.ofChange lawS1708AAllWrong)) lawS1708AAllCard

/-- THE TOLD CARD OF 'anteclock.LawS1708CMatchesModel'. -/
def lawS1708CMatchesModelCard : Claim7 := { stood := { row := lawS1708CMatchesModelRow, standIns := [], harness := (true, "a8da7060d054d84a0eae315c376c504f44c096830663d81ab2dd783943b7db69"), looks := false }, told := true, goes := false }
def LawS1708CMatchesModelToldSaid : Prop := Claim7.holds Ybaf.pinned (.plain (OpenSpec.ofChange lawS1708CMatchesModelSpec)) lawS1708CMatchesModelCard
/-- ITS FALSE NEIGHBOUR. Refute it at one input. -/
def LawS1708CMatchesModelToldWrongFalsely : Prop := Claim7.holds Ybaf.pinned (.plain (OpenSpec.ofChange lawS1708CMatchesModelWrong)) lawS1708CMatchesModelCard

/-- THE TOLD CARD OF 'anteclock.LawS1708CRoundTrip'. -/
def lawS1708CRoundTripCard : Claim7 := { stood := { row := lawS1708CRoundTripRow, standIns := [], harness := (true, "a8da7060d054d84a0eae315c376c504f44c096830663d81ab2dd783943b7db69"), looks := false }, told := true, goes := false }
def LawS1708CRoundTripToldSaid : Prop := Claim7.holds Ybaf.pinned (.plain (OpenSpec.ofChange lawS1708CRoundTripSpec)) lawS1708CRoundTripCard
/-- ITS FALSE NEIGHBOUR. Refute it at one input. -/
def LawS1708CRoundTripToldWrongFalsely : Prop := Claim7.holds Ybaf.pinned (.plain (OpenSpec.ofChange lawS1708CRoundTripWrong)) lawS1708CRoundTripCard
end Rows
end Go.Proofs.YbulkaiisFmt
