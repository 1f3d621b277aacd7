/-
  No cell of these rows narrows 'for every input' (looked for: loops, veiled, ifaces, maps, wideKeys, modest, calm, conditions, laid).
  DERIVED. THE GIVEN ROWS OF THIS SEAT. 2 by the template 'for every input the law returns true; each argument reads behind the call as it read before'; 0 by the template 'total and deterministic' (their statements: YbulkajjcTotals.lean).
  GIVEN WITH THE SEED: the statements are not yours to turn. If you find one false, say at which input.
  Laid BY PROGRAM, IN A SANDBOX (cutbox-rows.mjs): the forced cells as the released guide's own fill.sh prints them over the translation 7e441476d8659f1f… (all of the seat's roots in one cut). By AI agents, Wed Nov 11 2026. No macro, syntax, notation, axiom, sorry.
-/
import Derived.Test.YbulkajjcChecked
import GoSem.Claim
import GoSem.ClaimJoined
import GoSem.ClaimMapViews
import Derived.JoinedTies
import Derived.KernelRfl
namespace Go.Proofs.Ybulkajjc
/- THE CELL 'sum', in the pinned program and in every row, IS THE sha256 OF THE DUMP (.gsa) THAT YbulkajjcProg.lean LOADS. Nothing in Lean hashes anything: it is a label: what it is worth is what the hold of that sum in a sandbox is worth. -/
noncomputable def Yba.pinned : Pinned := { name := "ybulkajjc", sum := "7e441476d8659f1f8fbb2164ab8f13b9694d9bb69da6d2eb155a31d101231a61", checked := Yba.checked }
namespace Rows
def none {H : Type} : Left H := { results := [], args := [] }

/-- 'handmade.LawS1757AExact': WHATEVER THE INPUT: true; the input reads as it did. -/
def lawS1757AExactSpec : ChangeSpec := { name := "lawS1757AExact", fn := fun _ => fun
  | [d1, d2, d3, d4, d5] => { results := [.lit (.bool true)], args := [d1, d2, d3, d4, d5] }
  | _ => none }
def lawS1757AExactRow : OpenClaim := { program := "ybulkajjc", sum := "7e441476d8659f1f8fbb2164ab8f13b9694d9bb69da6d2eb155a31d101231a61", func := "example.com/stackloom/stackloom/internal/handmade.LawS1757AExact", spec := "lawS1757AExact", named := ["encoding/binary.BigEndian"], apart := false }
def LawS1757AExactSaid : Prop := lawS1757AExactRow.holds Yba.pinned (OpenSpec.ofChange lawS1757AExactSpec)

/-- ITS FALSE NEIGHBOUR: 'it returns false'. Refute it at one input. -/
def lawS1757AExactWrong : ChangeSpec := { name := "lawS1757AExact", fn := fun _ => fun
  | [d1, d2, d3, d4, d5] => { results := [.lit (.bool false)], args := [d1, d2, d3, d4, d5] }
  | _ => none }
def LawS1757AExactWrongFalsely : Prop := lawS1757AExactRow.holds Yba.pinned (OpenSpec.ofChange lawS1757AExactWrong)

/-- 'handmade.LawS1757AAgain': WHATEVER THE INPUT: true; the input reads as it did. -/
def lawS1757AAgainSpec : ChangeSpec := { name := "lawS1757AAgain", fn := fun _ => fun
  | [d1, d2, d3, d4, d5] => { results := [.lit (.bool true)], args := [d1, d2, d3, d4, d5] }
  | _ => none }
def lawS1757AAgainRow : OpenClaim := { program := "ybulkajjc", sum := "7e441476d8659f1f8fbb2164ab8f13b9694d9bb69da6d2eb155a31d101231a61", func := "example.com/stackloom/stackloom/internal/handmade.LawS1757AAgain", spec := "lawS1757AAgain", named := ["encoding/binary.BigEndian"], apart := false }
def LawS1757AAgainSaid : Prop := lawS1757AAgainRow.holds Yba.pinned (OpenSpec.ofChange lawS1757AAgainSpec)

/-- ITS FALSE NEIGHBOUR: 'it returns false'. Refute it at one input. -/
def lawS1757AAgainWrong : ChangeSpec := { name := "lawS1757AAgain", fn := fun _ => fun
  | [d1, d2, d3, d4, d5] => { results := [.lit (.bool false)], args := [d1, d2, d3, d4, d5] }
  | _ => none }
def LawS1757AAgainWrongFalsely : Prop := lawS1757AAgainRow.holds Yba.pinned (OpenSpec.ofChange lawS1757AAgainWrong)

end Rows
end Go.Proofs.Ybulkajjc
