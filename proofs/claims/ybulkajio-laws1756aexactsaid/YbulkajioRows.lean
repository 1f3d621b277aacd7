/-
  No cell of these rows narrows 'for every input' (looked for: loops, veiled, ifaces, maps, wideKeys, modest, calm, conditions, laid).
  DERIVED. THE GIVEN ROWS OF THIS SEAT. 2 by the template 'for every input the law returns true; each argument reads behind the call as it read before'; 0 by the template 'total and deterministic' (their statements: YbulkajioTotals.lean).
  GIVEN WITH THE SEED: the statements are not yours to turn. If you find one false, say at which input.
  Laid BY PROGRAM, IN A SANDBOX (cutbox-rows.mjs): the forced cells as the released guide's own fill.sh prints them over the translation 60e66f066778f8a1… (all of the seat's roots in one cut). By AI agents, Wed Nov 11 2026. No macro, syntax, notation, axiom, sorry.
-/
import Derived.Test.YbulkajioChecked
import GoSem.Claim
import GoSem.ClaimJoined
import GoSem.ClaimMapViews
import Derived.JoinedTies
import Derived.KernelRfl
namespace Go.Proofs.Ybulkajio
/- THE CELL 'sum', in the pinned program and in every row, IS THE sha256 OF THE DUMP (.gsa) THAT YbulkajioProg.lean LOADS. Nothing in Lean hashes anything: it is a label: what it is worth is what the hold of that sum in a sandbox is worth. -/
noncomputable def Yba.pinned : Pinned := { name := "ybulkajio", sum := "60e66f066778f8a1b8681e89c8af2ece1951001a64a8e8c21860b3cccbe06b35", checked := Yba.checked }
namespace Rows
def none {H : Type} : Left H := { results := [], args := [] }

/-- 'tenorline.LawS1756AExact': WHATEVER THE INPUT: true; the input reads as it did. -/
def lawS1756AExactSpec : ChangeSpec := { name := "lawS1756AExact", fn := fun _ => fun
  | [d] => { results := [.lit (.bool true)], args := [d] }
  | _ => none }
def lawS1756AExactRow : OpenClaim := { program := "ybulkajio", sum := "60e66f066778f8a1b8681e89c8af2ece1951001a64a8e8c21860b3cccbe06b35", func := "example.com/tenorline/tenorline.LawS1756AExact", spec := "lawS1756AExact", apart := false }
def LawS1756AExactSaid : Prop := lawS1756AExactRow.holds Yba.pinned (OpenSpec.ofChange lawS1756AExactSpec)

/-- ITS FALSE NEIGHBOUR: 'it returns false'. Refute it at one input. -/
def lawS1756AExactWrong : ChangeSpec := { name := "lawS1756AExact", fn := fun _ => fun
  | [d] => { results := [.lit (.bool false)], args := [d] }
  | _ => none }
def LawS1756AExactWrongFalsely : Prop := lawS1756AExactRow.holds Yba.pinned (OpenSpec.ofChange lawS1756AExactWrong)

/-- 'tenorline.LawS1756ACarries': WHATEVER THE INPUT: true; the input reads as it did. -/
def lawS1756ACarriesSpec : ChangeSpec := { name := "lawS1756ACarries", fn := fun _ => fun
  | [d] => { results := [.lit (.bool true)], args := [d] }
  | _ => none }
def lawS1756ACarriesRow : OpenClaim := { program := "ybulkajio", sum := "60e66f066778f8a1b8681e89c8af2ece1951001a64a8e8c21860b3cccbe06b35", func := "example.com/tenorline/tenorline.LawS1756ACarries", spec := "lawS1756ACarries", apart := false }
def LawS1756ACarriesSaid : Prop := lawS1756ACarriesRow.holds Yba.pinned (OpenSpec.ofChange lawS1756ACarriesSpec)

/-- ITS FALSE NEIGHBOUR: 'it returns false'. Refute it at one input. -/
def lawS1756ACarriesWrong : ChangeSpec := { name := "lawS1756ACarries", fn := fun _ => fun
  | [d] => { results := [.lit (.bool false)], args := [d] }
  | _ => none }
def LawS1756ACarriesWrongFalsely : Prop := lawS1756ACarriesRow.holds Yba.pinned (OpenSpec.ofChange lawS1756ACarriesWrong)

end Rows
end Go.Proofs.Ybulkajio
