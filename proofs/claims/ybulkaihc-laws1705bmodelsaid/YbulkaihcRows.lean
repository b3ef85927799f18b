/-
  No cell of these rows narrows 'for every input' (looked for: loops, veiled, ifaces, maps, wideKeys, modest, calm, conditions, laid).
  DERIVED. THE GIVEN ROWS OF THIS SEAT. 3 by the template 'for every input the law returns true; each argument reads behind the call as it read before'; 0 by the template 'total and deterministic' (their statements: YbulkaihcTotals.lean).
  GIVEN WITH THE SEED: the statements are not yours to turn. If you find one false, say at which input.
  Laid BY PROGRAM, IN A SANDBOX (cutbox-rows.mjs): the forced cells as the released guide's own fill.sh prints them over the translation d360cd8628602c30… (all of the seat's roots in one cut). By AI agents, Wed Nov 11 2026. No macro, syntax, notation, axiom, sorry.
-/
import Derived.Test.YbulkaihcChecked
import GoSem.Claim
import GoSem.ClaimJoined
import GoSem.ClaimMapViews
import Derived.JoinedTies
import Derived.KernelRfl
namespace Go.Proofs.Ybulkaihc
/- THE CELL 'sum', in the pinned program and in every row, IS THE sha256 OF THE DUMP (.gsa) THAT YbulkaihcProg.lean LOADS. Nothing in Lean hashes anything: it is a label: what it is worth is what the hold of that sum in a sandbox is worth. -/
noncomputable def Yba.pinned : Pinned := { name := "ybulkaihc", sum := "d360cd8628602c300e536f5d3da5b1d85d5dd2eaf8040310c5b972a2ad584e2a", checked := Yba.checked }
namespace Rows
def none {H : Type} : Left H := { results := [], args := [] }

/-- 'node.LawS1705AScript': WHATEVER THE INPUT: true; the input reads as it did. -/
def lawS1705AScriptSpec : ChangeSpec := { name := "lawS1705AScript", fn := fun _ => fun
  | [d] => { results := [.lit (.bool true)], args := [d] }
  | _ => none }
def lawS1705AScriptRow : OpenClaim := { program := "ybulkaihc", sum := "d360cd8628602c300e536f5d3da5b1d85d5dd2eaf8040310c5b972a2ad584e2a", func := "example.com/quorate/quorate/internal/node.LawS1705AScript", spec := "lawS1705AScript", plainKeys := false, apart := false }
def LawS1705AScriptSaid : Prop := lawS1705AScriptRow.holds Yba.pinned (OpenSpec.ofChange lawS1705AScriptSpec)

/-- ITS FALSE NEIGHBOUR: 'it returns false'. Refute it at one input. -/
def lawS1705AScriptWrong : ChangeSpec := { name := "lawS1705AScript", fn := fun _ => fun
  | [d] => { results := [.lit (.bool false)], args := [d] }
  | _ => none }
def LawS1705AScriptWrongFalsely : Prop := lawS1705AScriptRow.holds Yba.pinned (OpenSpec.ofChange lawS1705AScriptWrong)

/-- 'node.LawS1705AOnce': WHATEVER THE INPUT: true; the input reads as it did. -/
def lawS1705AOnceSpec : ChangeSpec := { name := "lawS1705AOnce", fn := fun _ => fun
  | [d1, d2, d3, d4, d5, d6, d7, d8, d9] => { results := [.lit (.bool true)], args := [d1, d2, d3, d4, d5, d6, d7, d8, d9] }
  | _ => none }
def lawS1705AOnceRow : OpenClaim := { program := "ybulkaihc", sum := "d360cd8628602c300e536f5d3da5b1d85d5dd2eaf8040310c5b972a2ad584e2a", func := "example.com/quorate/quorate/internal/node.LawS1705AOnce", spec := "lawS1705AOnce", plainKeys := false, apart := false }
def LawS1705AOnceSaid : Prop := lawS1705AOnceRow.holds Yba.pinned (OpenSpec.ofChange lawS1705AOnceSpec)

/-- ITS FALSE NEIGHBOUR: 'it returns false'. Refute it at one input. -/
def lawS1705AOnceWrong : ChangeSpec := { name := "lawS1705AOnce", fn := fun _ => fun
  | [d1, d2, d3, d4, d5, d6, d7, d8, d9] => { results := [.lit (.bool false)], args := [d1, d2, d3, d4, d5, d6, d7, d8, d9] }
  | _ => none }
def LawS1705AOnceWrongFalsely : Prop := lawS1705AOnceRow.holds Yba.pinned (OpenSpec.ofChange lawS1705AOnceWrong)

/-- 'quorate.LawS1705BModel': WHATEVER THE INPUT: true; the input reads as it did. -/
def lawS1705BModelSpec : ChangeSpec := { name := "lawS1705BModel", fn := fun _ => fun
  | [d1, d2, d3, d4, d5] => { results := [.lit (.bool true)], args := [d1, d2, d3, d4, d5] }
  | _ => none }
def lawS1705BModelRow : OpenClaim := { program := "ybulkaihc", sum := "d360cd8628602c300e536f5d3da5b1d85d5dd2eaf8040310c5b972a2ad584e2a", func := "example.com/quorate/quorate.LawS1705BModel", spec := "lawS1705BModel", plainKeys := false, apart := false }
def LawS1705BModelSaid : Prop := lawS1705BModelRow.holds Yba.pinned (OpenSpec.ofChange lawS1705BModelSpec)

/-- ITS FALSE NEIGHBOUR: 'it returns false'. Refute it at one input. -/
def lawS1705BModelWrong : ChangeSpec := { name := "lawS1705BModel", fn := fun _ => fun
  | [d1, d2, d3, d4, d5] => { results := [.lit (.bool false)], args := [d1, d2, d3, d4, d5] }
  | _ => none }
def LawS1705BModelWrongFalsely : Prop := lawS1705BModelRow.holds Yba.pinned (OpenSpec.ofChange lawS1705BModelWrong)

end Rows
end Go.Proofs.Ybulkaihc
