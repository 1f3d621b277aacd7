/-
  The name of the table of powers of ten, off the given row.
-/
import Derived.Test.YbulkajiaDoorRows
namespace Go.Proofs.YbulkajiaDoor
/-- The first of the variables that the row names. -/
abbrev tabName : String := Rows.lawS1755CQueryRow.named.headD ""
end Go.Proofs.YbulkajiaDoor
