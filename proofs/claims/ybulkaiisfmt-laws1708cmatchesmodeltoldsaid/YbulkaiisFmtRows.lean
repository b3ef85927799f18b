/-
  NARROWER THAN 'FOR EVERY INPUT', by the rows' own cells (each row's printed sentence says how): LawS1708ANamed: laid · LawS1708AAll: laid.
  DERIVED. THE GIVEN ROWS OF THIS SEAT. 4 by the template 'for every input the law returns true; each argument reads behind the call as it read before'; 0 by the template 'total and deterministic' (their statements: YbulkaiisFmtTotals.lean).
  GIVEN WITH THE SEED: the statements are not yours to turn. If you find one false, say at which input.
  Laid BY PROGRAM, IN A SANDBOX (cutbox-rows.mjs): the forced cells as the released guide's own fill.sh prints them over the translation 8c2484bb4d8a002b… (all of the seat's roots in one cut). By AI agents, Wed Nov 11 2026. No macro, syntax, notation, axiom, sorry.
-/
import Derived.Test.YbulkaiisFmtChecked
import GoSem.Claim
import GoSem.ClaimJoined
import GoSem.ClaimMapViews
import Derived.JoinedTies
import Derived.KernelRfl
namespace Go.Proofs.YbulkaiisFmt
/- THE CELL 'sum', in the pinned program and in every row, IS THE sha256 OF THE DUMP (.gsa) THAT YbulkaiisFmtProg.lean LOADS. Nothing in Lean hashes anything: it is a label: what it is worth is what the hold of that sum in a sandbox is worth. -/
noncomputable def Ybaf.pinned : Pinned := { name := "ybulkaiisfmt", sum := "8c2484bb4d8a002b7068c5177a6cd878fab6e89f7a6d4c410945587264753e5d", checked := Ybaf.checked }
namespace Rows
def none {H : Type} : Left H := { results := [], args := [] }

/- WHAT THE LISTED PACKAGE-LEVEL VARIABLES READ AS WHEN THE CALL BEGINS. Each datum BY PROGRAM (the guide's laid-datum.mjs) off the statement by which the dump's own 'gosem.cut.vars' lays the variable. In a bare row this is a premise. The card (YbulkaiisFmtCards.lean) ties it to the program's text. -/
def laid_example_com_anteclock_anteclock_causalityNames {H : Type} : DataW H := .agg [.lit (.string [98, 101, 102, 111, 114, 101]), .lit (.string [97, 102, 116, 101, 114]), .lit (.string [101, 113, 117, 97, 108]), .lit (.string [99, 111, 110, 99, 117, 114, 114, 101, 110, 116])]

/-- 'anteclock.LawS1708ANamed': WHATEVER THE INPUT: true; the input reads as it did. -/
def lawS1708ANamedSpec : ChangeSpec := { name := "lawS1708ANamed", vars := ["example.com/anteclock/anteclock.causalityNames"], fn := fun _ => fun
  | [d, g1] => { results := [.lit (.bool true)], args := [d], vars := [g1] }
  | _ => none }
def lawS1708ANamedRow : OpenClaim := { program := "ybulkaiisfmt", sum := "8c2484bb4d8a002b7068c5177a6cd878fab6e89f7a6d4c410945587264753e5d", func := "example.com/anteclock/anteclock.LawS1708ANamed", spec := "lawS1708ANamed", stops := ["fmt.Sprintf, its operands' methods called", "fmt.errorf"], inPlace := ["fmt.Sprintf"], unfollowed := true, recurses := true, named := ["example.com/anteclock/anteclock.causalityNames"], apart := false, laid := [("example.com/anteclock/anteclock.causalityNames", laid_example_com_anteclock_anteclock_causalityNames)] }
/-- NO THEOREM (fmt's text is open here; it may be false): for the released tool's asking of the row's closed facts alone. THE STATEMENT IS 'LawS1708ANamedToldSaid' (YbulkaiisFmtCards.lean). -/
def LawS1708ANamedFormAsk : Prop := lawS1708ANamedRow.holds Ybaf.pinned (OpenSpec.ofChange lawS1708ANamedSpec)

/-- ITS FALSE NEIGHBOUR: 'it returns false'. Refute it at one input. -/
def lawS1708ANamedWrong : ChangeSpec := { name := "lawS1708ANamed", vars := ["example.com/anteclock/anteclock.causalityNames"], fn := fun _ => fun
  | [d, g1] => { results := [.lit (.bool false)], args := [d], vars := [g1] }
  | _ => none }
def LawS1708ANamedWrongFormAsk : Prop := lawS1708ANamedRow.holds Ybaf.pinned (OpenSpec.ofChange lawS1708ANamedWrong)

/-- 'anteclock.LawS1708AAll': WHATEVER THE INPUT: true; the input reads as it did. -/
def lawS1708AAllSpec : ChangeSpec := { name := "lawS1708AAll", vars := ["example.com/anteclock/anteclock.causalityNames"], fn := fun _ => fun
  | [d, g1] => { results := [.lit (.bool true)], args := [d], vars := [g1] }
  | _ => none }
def lawS1708AAllRow : OpenClaim := { program := "ybulkaiisfmt", sum := "8c2484bb4d8a002b7068c5177a6cd878fab6e89f7a6d4c410945587264753e5d", func := "example.com/anteclock/anteclock.LawS1708AAll", spec := "lawS1708AAll", stops := ["fmt.Sprintf, its operands' methods called", "fmt.errorf"], inPlace := ["fmt.Sprintf"], unfollowed := true, recurses := true, named := ["example.com/anteclock/anteclock.causalityNames"], apart := false, laid := [("example.com/anteclock/anteclock.causalityNames", laid_example_com_anteclock_anteclock_causalityNames)] }
/-- NO THEOREM (fmt's text is open here; it may be false): for the released tool's asking of the row's closed facts alone. THE STATEMENT IS 'LawS1708AAllToldSaid' (YbulkaiisFmtCards.lean). -/
def LawS1708AAllFormAsk : Prop := lawS1708AAllRow.holds Ybaf.pinned (OpenSpec.ofChange lawS1708AAllSpec)

/-- ITS FALSE NEIGHBOUR: 'it returns false'. Refute it at one input. -/
def lawS1708AAllWrong : ChangeSpec := { name := "lawS1708AAll", vars := ["example.com/anteclock/anteclock.causalityNames"], fn := fun _ => fun
  | [d, g1] => { results := [.lit (.bool false)], args := [d], vars := [g1] }
  | _ => none }
def LawS1708AAllWrongFormAsk : Prop := lawS1708AAllRow.holds Ybaf.pinned (OpenSpec.ofChange lawS1708AAllWrong)

/-- 'anteclock.LawS1708CMatchesModel': WHATEVER THE INPUT: true; the input reads as it did. -/
def lawS1708CMatchesModelSpec : ChangeSpec := { name := "lawS1708CMatchesModel", fn := fun _ => fun
  | [d1, d2, d3, d4] => { results := [.lit (.bool true)], args := [d1, d2, d3, d4] }
  | _ => none }
def lawS1708CMatchesModelRow : OpenClaim := { program := "ybulkaiisfmt", sum := "8c2484bb4d8a002b7068c5177a6cd878fab6e89f7a6d4c410945587264753e5d", func := "example.com/anteclock/anteclock.LawS1708CMatchesModel", spec := "lawS1708CMatchesModel", stops := ["fmt.Sprintf, its operands' methods called", "fmt.errorf"], inPlace := ["fmt.Sprintf", "fmt.errorf"], unfollowed := true, recurses := true, apart := false }
/-- NO THEOREM (fmt's text is open here; it may be false): for the released tool's asking of the row's closed facts alone. THE STATEMENT IS 'LawS1708CMatchesModelToldSaid' (YbulkaiisFmtCards.lean). -/
def LawS1708CMatchesModelFormAsk : Prop := lawS1708CMatchesModelRow.holds Ybaf.pinned (OpenSpec.ofChange lawS1708CMatchesModelSpec)

/-- ITS FALSE NEIGHBOUR: 'it returns false'. Refute it at one input. -/
def lawS1708CMatchesModelWrong : ChangeSpec := { name := "lawS1708CMatchesModel", fn := fun _ => fun
  | [d1, d2, d3, d4] => { results := [.lit (.bool false)], args := [d1, d2, d3, d4] }
  | _ => none }
def LawS1708CMatchesModelWrongFormAsk : Prop := lawS1708CMatchesModelRow.holds Ybaf.pinned (OpenSpec.ofChange lawS1708CMatchesModelWrong)

/-- 'anteclock.LawS1708CRoundTrip': WHATEVER THE INPUT: true; the input reads as it did. -/
def lawS1708CRoundTripSpec : ChangeSpec := { name := "lawS1708CRoundTrip", fn := fun _ => fun
  | [d1, d2, d3] => { results := [.lit (.bool true)], args := [d1, d2, d3] }
  | _ => none }
def lawS1708CRoundTripRow : OpenClaim := { program := "ybulkaiisfmt", sum := "8c2484bb4d8a002b7068c5177a6cd878fab6e89f7a6d4c410945587264753e5d", func := "example.com/anteclock/anteclock.LawS1708CRoundTrip", spec := "lawS1708CRoundTrip", stops := ["fmt.Sprintf, its operands' methods called", "fmt.errorf"], inPlace := ["fmt.Sprintf", "fmt.errorf"], unfollowed := true, recurses := true, apart := false }
/-- NO THEOREM (fmt's text is open here; it may be false): for the released tool's asking of the row's closed facts alone. THE STATEMENT IS 'LawS1708CRoundTripToldSaid' (YbulkaiisFmtCards.lean). -/
def LawS1708CRoundTripFormAsk : Prop := lawS1708CRoundTripRow.holds Ybaf.pinned (OpenSpec.ofChange lawS1708CRoundTripSpec)

/-- ITS FALSE NEIGHBOUR: 'it returns false'. Refute it at one input. -/
def lawS1708CRoundTripWrong : ChangeSpec := { name := "lawS1708CRoundTrip", fn := fun _ => fun
  | [d1, d2, d3] => { results := [.lit (.bool false)], args := [d1, d2, d3] }
  | _ => none }
def LawS1708CRoundTripWrongFormAsk : Prop := lawS1708CRoundTripRow.holds Ybaf.pinned (OpenSpec.ofChange lawS1708CRoundTripWrong)

end Rows
end Go.Proofs.YbulkaiisFmt
