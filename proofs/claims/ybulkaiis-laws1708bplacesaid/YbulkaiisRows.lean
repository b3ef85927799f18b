/-
  No cell of these rows narrows 'for every input' (looked for: loops, veiled, ifaces, maps, wideKeys, modest, calm, conditions, laid).
  DERIVED. THE GIVEN ROWS OF THIS SEAT. 1 by the template 'for every input the law returns true; each argument reads behind the call as it read before'; 0 by the template 'total and deterministic' (their statements: YbulkaiisTotals.lean).
  GIVEN WITH THE SEED: the statements are not yours to turn. If you find one false, say at which input.
  Laid BY PROGRAM, IN A SANDBOX (cutbox-rows.mjs): the forced cells as the released guide's own fill.sh prints them over the translation 16ab7205a744dfb6… (all of the seat's roots in one cut). By AI agents, Wed Nov 11 2026. No macro, syntax, notation, axiom, sorry.
-/
import Derived.Test.YbulkaiisChecked
import GoSem.Claim
import GoSem.ClaimJoined
import GoSem.ClaimMapViews
import Derived.JoinedTies
import Derived.KernelRfl
namespace Go.Proofs.Ybulkaiis
/- THE CELL 'sum', in the pinned program and in every row, IS THE sha256 OF THE DUMP (.gsa) THAT YbulkaiisProg.lean LOADS. Nothing in Lean hashes anything: it is a label: what it is worth is what the hold of that sum in a sandbox is worth. -/
noncomputable def Yba.pinned : Pinned := { name := "ybulkaiis", sum := "16ab7205a744dfb66f8ac621ff724e621c572043fba1451f595a54c5e0da4d7a", checked := Yba.checked }
namespace Rows
def none {H : Type} : Left H := { results := [], args := [] }

/-- 'anteclock.LawS1708BPlace': WHATEVER THE INPUT: true; the input reads as it did. -/
def lawS1708BPlaceSpec : ChangeSpec := { name := "lawS1708BPlace", fn := fun _ => fun
  | [d1, d2, d3, d4] => { results := [.lit (.bool true)], args := [d1, d2, d3, d4] }
  | _ => none }
def lawS1708BPlaceRow : OpenClaim := { program := "ybulkaiis", sum := "16ab7205a744dfb66f8ac621ff724e621c572043fba1451f595a54c5e0da4d7a", func := "example.com/anteclock/anteclock.LawS1708BPlace", spec := "lawS1708BPlace", apart := false }
def LawS1708BPlaceSaid : Prop := lawS1708BPlaceRow.holds Yba.pinned (OpenSpec.ofChange lawS1708BPlaceSpec)

/-- ITS FALSE NEIGHBOUR: 'it returns false'. Refute it at one input. -/
def lawS1708BPlaceWrong : ChangeSpec := { name := "lawS1708BPlace", fn := fun _ => fun
  | [d1, d2, d3, d4] => { results := [.lit (.bool false)], args := [d1, d2, d3, d4] }
  | _ => none }
def LawS1708BPlaceWrongFalsely : Prop := lawS1708BPlaceRow.holds Yba.pinned (OpenSpec.ofChange lawS1708BPlaceWrong)

end Rows
end Go.Proofs.Ybulkaiis
