/-
  No cell of these rows narrows 'for every input' (looked for: loops, veiled, ifaces, maps, wideKeys, modest, calm, conditions, laid).
  DERIVED. THE GIVEN ROWS OF THIS SEAT. 2 by the template 'for every input the law returns true; each argument reads behind the call as it read before'; 0 by the template 'total and deterministic' (their statements: YbulkajkeTotals.lean).
  GIVEN WITH THE SEED: the statements are not yours to turn. If you find one false, say at which input.
  Laid BY PROGRAM, IN A SANDBOX (cutbox-rows.mjs): the forced cells as the released guide's own fill.sh prints them over the translation 4406117294a65e64… (all of the seat's roots in one cut). By AI agents, Wed Nov 11 2026. No macro, syntax, notation, axiom, sorry.
-/
import Derived.Test.YbulkajkeChecked
import GoSem.Claim
import GoSem.ClaimJoined
import GoSem.ClaimMapViews
import Derived.JoinedTies
import Derived.KernelRfl
namespace Go.Proofs.Ybulkajke
/- THE CELL 'sum', in the pinned program and in every row, IS THE sha256 OF THE DUMP (.gsa) THAT YbulkajkeProg.lean LOADS. Nothing in Lean hashes anything: it is a label: what it is worth is what the hold of that sum in a sandbox is worth. -/
noncomputable def Yba.pinned : Pinned := { name := "ybulkajke", sum := "4406117294a65e643eb8e0dba34372cc26e2557b9d7b35d4e79ee23d656f2e87", checked := Yba.checked }
namespace Rows
def none {H : Type} : Left H := { results := [], args := [] }

/-- 'tierfold.LawS1759AExact': WHATEVER THE INPUT: true; the input reads as it did. -/
def lawS1759AExactSpec : ChangeSpec := { name := "lawS1759AExact", fn := fun _ => fun
  | [d1, d2] => { results := [.lit (.bool true)], args := [d1, d2] }
  | _ => none }
def lawS1759AExactRow : OpenClaim := { program := "ybulkajke", sum := "4406117294a65e643eb8e0dba34372cc26e2557b9d7b35d4e79ee23d656f2e87", func := "example.com/tierfold/tierfold.LawS1759AExact", spec := "lawS1759AExact", apart := false }
def LawS1759AExactSaid : Prop := lawS1759AExactRow.holds Yba.pinned (OpenSpec.ofChange lawS1759AExactSpec)

/-- ITS FALSE NEIGHBOUR: 'it returns false'. Refute it at one input. -/
def lawS1759AExactWrong : ChangeSpec := { name := "lawS1759AExact", fn := fun _ => fun
  | [d1, d2] => { results := [.lit (.bool false)], args := [d1, d2] }
  | _ => none }
def LawS1759AExactWrongFalsely : Prop := lawS1759AExactRow.holds Yba.pinned (OpenSpec.ofChange lawS1759AExactWrong)

/-- 'tierfold.LawS1759AStep': WHATEVER THE INPUT: true; the input reads as it did. -/
def lawS1759AStepSpec : ChangeSpec := { name := "lawS1759AStep", fn := fun _ => fun
  | [d] => { results := [.lit (.bool true)], args := [d] }
  | _ => none }
def lawS1759AStepRow : OpenClaim := { program := "ybulkajke", sum := "4406117294a65e643eb8e0dba34372cc26e2557b9d7b35d4e79ee23d656f2e87", func := "example.com/tierfold/tierfold.LawS1759AStep", spec := "lawS1759AStep", apart := false }
def LawS1759AStepSaid : Prop := lawS1759AStepRow.holds Yba.pinned (OpenSpec.ofChange lawS1759AStepSpec)

/-- ITS FALSE NEIGHBOUR: 'it returns false'. Refute it at one input. -/
def lawS1759AStepWrong : ChangeSpec := { name := "lawS1759AStep", fn := fun _ => fun
  | [d] => { results := [.lit (.bool false)], args := [d] }
  | _ => none }
def LawS1759AStepWrongFalsely : Prop := lawS1759AStepRow.holds Yba.pinned (OpenSpec.ofChange lawS1759AStepWrong)

end Rows
end Go.Proofs.Ybulkajke
