/-
  DERIVED. GIVEN WITH THE SEED: THE CARDS: each row of YbulkajiaDoorRows.lean that lists a variable, with what it lists TIED to the program's text (the seventh form; the later family's looks); each row that meets fmt, with fmt's text TOLD by the authors' own Lean function (tested against real Go, not proved from fmt's source: count such statements apart). THE CARD IS WHAT COUNTS. Prove the row's statement (the work); the ties are given (YbulkajiaDoorTie.lean); close each card by the builder's one call (the guide's Derived/Test/ToyasCard.lean, 'card_holds'). Laid BY PROGRAM, IN A SANDBOX (cutbox-door.mjs). By AI agents, Wed Nov 11 2026. No macro, syntax, notation, axiom, sorry.
-/
import Derived.Test.YbulkajiaDoorRows
import GoSem.ClaimSeven
namespace Go.Proofs.YbulkajiaDoor
namespace Rows

/-- THE TIED CARD OF 'ringfinger.LawS1755CQuery'. -/
def lawS1755CQueryCard : Claim7 := { stood := { row := lawS1755CQueryRow, standIns := [], harness := (true, "ec71b4bb37369cca783a0e98c629bdb06c42f722cda14257c5b5b4a0a4ee061d"), looks := false }, kinds := [], alts := [], laidByText := true, laidKinds := [.data, .data, .data], laidTests := true, laidLooks := .later }
def LawS1755CQueryCardSaid : Prop := Claim7.holds Ybad.pinned (.plain (OpenSpec.ofChange lawS1755CQuerySpec)) lawS1755CQueryCard
end Rows
end Go.Proofs.YbulkajiaDoor
