/- The closed facts of the row of a law, each by itself. -/
import Derived.Test.YtgceklahjdbipaaGreatDoorRows
import Derived.WalkKit
import Derived.ProofKit
namespace Go.Proofs.YtgceklahjdbipaaGreatDoor.fnBufTypeExpression
open Go.ChangeShapes Go.WideShapes Go.ChangeAt Go.RowKit
set_option maxHeartbeats 40000000 in
/-- The row's closed facts, each by itself (together they outgrow the memory). -/
theorem closed : joinedFacts Tryz.pinned.checked.prog 6 Tryz.f6 (OpenSpec.ofChange Rows.fnBufTypeExpressionSpec).bare Rows.fnBufTypeExpressionRow = true := by
  simp only [joinedFacts, Bool.and_eq_true]
  repeat' (with_reducible refine And.intro ?_ ?_)
  all_goals (as_aux_lemma => kernel_rfl)
end Go.Proofs.YtgceklahjdbipaaGreatDoor.fnBufTypeExpression
