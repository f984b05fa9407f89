/- The row's closed facts for 'fnSubsectionReadsBackQuotedName', each a declaration of its own. -/
import Derived.Test.Qxb6001356aModsRows
import Derived.WalkKit
import Derived.ProofKit
namespace Go.Proofs.Qxb6001356aMods.fnSubsectionReadsBackQuotedName
open Go.ChangeShapes Go.WideShapes Go.ChangeAt Go.RowKit

theorem and_mk {a b : Bool} (h1 : a = true) (h2 : b = true) : (a && b) = true := by rw [h1, h2]; rfl
set_option maxHeartbeats 4000000 in
theorem closed : joinedFacts Trym.prog 3 Trym.f3 Rows.fnSubsectionReadsBackQuotedNameSpec Rows.fnSubsectionReadsBackQuotedNameRow = true := by
  unfold joinedFacts
  repeat' (with_reducible refine and_mk ?_ ?_)
  all_goals (as_aux_lemma => kernel_rfl)
end Go.Proofs.Qxb6001356aMods.fnSubsectionReadsBackQuotedName
