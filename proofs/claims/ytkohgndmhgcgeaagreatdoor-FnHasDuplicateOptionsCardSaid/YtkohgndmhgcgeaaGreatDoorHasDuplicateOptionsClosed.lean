/- The closed facts of the row of a law, each by itself. -/
import Derived.Test.YtkohgndmhgcgeaaGreatDoorRows
import Derived.WalkKit
import Derived.ProofKit
namespace Go.Proofs.YtkohgndmhgcgeaaGreatDoor.fnHasDuplicateOptions
open Go.ChangeShapes Go.WideShapes Go.ChangeAt Go.RowKit
set_option maxHeartbeats 40000000 in
/-- The row's closed facts, each by itself (together they outgrow the memory). -/
theorem closed : joinedFacts Tryz.pinned.checked.prog 3 Tryz.f3 (OpenSpec.ofChange Rows.fnHasDuplicateOptionsSpec).bare Rows.fnHasDuplicateOptionsRow = true := by
  simp only [joinedFacts, Bool.and_eq_true]
  repeat' (with_reducible refine And.intro ?_ ?_)
  all_goals (as_aux_lemma => kernel_rfl)
end Go.Proofs.YtkohgndmhgcgeaaGreatDoor.fnHasDuplicateOptions
