/-
  bytes.Equal.
-/
import Derived.Test.YbulkajjcBe
import Derived.Laws.IdiomStrings
import Derived.Laws.BytesArg
namespace Go.Proofs.Ybulkajjc
open Go.RowKit Go.Maps Go.Lib

theorem rd_string {w : World} {v : Value} {l : List UInt8} (h : Rd w v l) : (convert 23 9 v).run Yba.prog w = .ok (.string ⟨l.toArray⟩) w := by
  rcases h with ⟨rfl, rfl⟩ | ⟨a, c, rfl, h⟩
  · exact run_convert_bytes_nil w 23 5 Yba.underlying23 Yba.underlying5 0 0 9 Yba.underlying9
  · refine run_convert_bytes_back w 23 9 5 a c l Yba.underlying23 Yba.underlying5 Yba.underlying9 (fun j hj => ?_)
    exact h j _ (by simp [bv, hj])

theorem equal_any (a b : Value) (l : List UInt8) (w : World) (ha : Rd w a l) (hb : Rd w b l) : Calls Yba.prog 10 #[a, b] w fun e w' => e = .returned (.bool true) ∧ w' = w := by
  have h1 := rd_string ha
  have h2 := rd_string hb
  clear ha hb
  go_enter Yba.func10, Yba.ntmps10
  go_wp2
  go_ret
  exact ⟨by simp, rfl⟩
end Go.Proofs.Ybulkajjc
