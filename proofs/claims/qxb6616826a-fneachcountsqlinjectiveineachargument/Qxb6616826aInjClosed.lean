/-
  The closed facts of the row of 'fnEachCountSQLInjectiveInEachArgument', each a lemma of its own (the kernel's memory).
-/
import Derived.Test.Qxb6616826aRows
import Derived.WalkKit
import Derived.ProofKit
namespace Go.Proofs.Qxb6616826a.fnEachCountSQLInjectiveInEachArgument
open Go.ChangeShapes Go.WideShapes Go.ChangeAt Go.RowKit
theorem and_mk {a b : Bool} (ha : a = true) (hb : b = true) : (a && b) = true := by rw [ha, hb]; rfl

set_option maxHeartbeats 0 in
theorem closed : joinedFacts Try.pinned.checked.prog 4 Try.f4 Rows.fnEachCountSQLInjectiveInEachArgumentSpec Rows.fnEachCountSQLInjectiveInEachArgumentRow = true := by
  unfold joinedFacts
  repeat' (with_reducible refine and_mk ?_ ?_)
  all_goals (as_aux_lemma => kernel_rfl)
end Go.Proofs.Qxb6616826a.fnEachCountSQLInjectiveInEachArgument
