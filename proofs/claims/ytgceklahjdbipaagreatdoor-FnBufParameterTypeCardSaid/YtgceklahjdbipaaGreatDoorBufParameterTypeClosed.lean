/- The closed facts of the row of a law, each by itself. -/
import Derived.Test.YtgceklahjdbipaaGreatDoorRows
import Derived.WalkKit
import Derived.ProofKit
namespace Go.Proofs.YtgceklahjdbipaaGreatDoor.fnBufParameterType
open Go.ChangeShapes Go.WideShapes Go.ChangeAt Go.RowKit
set_option maxHeartbeats 40000000 in
/-- The row's closed facts, each by itself (together they outgrow the memory). -/
theorem closed : joinedFacts Tryz.pinned.checked.prog 4 Tryz.f4 (OpenSpec.ofChange Rows.fnBufParameterTypeSpec).bare Rows.fnBufParameterTypeRow = true := by
  simp only [joinedFacts, Bool.and_eq_true]
  repeat' (with_reducible refine And.intro ?_ ?_)
  all_goals (as_aux_lemma => kernel_rfl)
end Go.Proofs.YtgceklahjdbipaaGreatDoor.fnBufParameterType
