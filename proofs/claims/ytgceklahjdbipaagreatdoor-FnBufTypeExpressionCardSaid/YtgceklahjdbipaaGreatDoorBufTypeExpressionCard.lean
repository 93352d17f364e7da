/- The row and the tied card of the law FnBufTypeExpression over its walk. -/
import Derived.Test.YtgceklahjdbipaaGreatDoorBufTypeExpressionSaid
namespace Go.Proofs.YtgceklahjdbipaaGreatDoor.fnBufTypeExpression
open Go.ChangeShapes Go.WideShapes Go.ChangeAt Go.RowKit
open Go.ChangeMaps (open_string shut_string)
set_option linter.unusedVariables false
set_option maxHeartbeats 40000000 in
theorem card : Rows.FnBufTypeExpressionCardSaid :=
  Claim7.holds_tied_plain_at .later [] _ _ _ _ said (fun _ h => by cases h) (by as_aux_lemma => kernel_rfl) (fun _ h => by cases h) fnBufTypeExpression_row_tie rfl ⟨rfl, rfl⟩ (by as_aux_lemma => kernel_rfl) rfl plain (by as_aux_lemma => kernel_rfl)
#print axioms card
end Go.Proofs.YtgceklahjdbipaaGreatDoor.fnBufTypeExpression
namespace Go.Proofs.YtgceklahjdbipaaGreatDoor
/-- The tied card, under a short name, for the claim. -/
theorem fnBufTypeExpression_card : Rows.FnBufTypeExpressionCardSaid := fnBufTypeExpression.card
end Go.Proofs.YtgceklahjdbipaaGreatDoor
