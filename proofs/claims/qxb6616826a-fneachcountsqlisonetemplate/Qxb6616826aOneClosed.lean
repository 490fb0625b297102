/-
  The closed facts of the row of 'fnEachCountSQLIsOneTemplate', each a lemma of its own (the kernel's memory).
-/
import Derived.Test.Qxb6616826aRows
import Derived.WalkKit
import Derived.ProofKit
namespace Go.Proofs.Qxb6616826a.fnEachCountSQLIsOneTemplate
open Go.ChangeShapes Go.WideShapes Go.ChangeAt Go.RowKit
theorem and_mk {a b : Bool} (ha : a = true) (hb : b = true) : (a && b) = true := by rw [ha, hb]; rfl

set_option maxHeartbeats 0 in
theorem closed : joinedFacts Try.pinned.checked.prog 3 Try.f3 Rows.fnEachCountSQLIsOneTemplateSpec Rows.fnEachCountSQLIsOneTemplateRow = true := by
  unfold joinedFacts
  repeat' (with_reducible refine and_mk ?_ ?_)
  all_goals (as_aux_lemma => kernel_rfl)
end Go.Proofs.Qxb6616826a.fnEachCountSQLIsOneTemplate
