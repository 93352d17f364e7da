/- The row and the tied card of the law FnHasDuplicateOptions over its walk. -/
import Derived.Test.YtkohgndmhgcgeaaGreatDoorHasDuplicateOptionsSaid
namespace Go.Proofs.YtkohgndmhgcgeaaGreatDoor.fnHasDuplicateOptions
open Go.ChangeShapes Go.WideShapes Go.ChangeAt Go.RowKit
open Go.ChangeMaps (open_string shut_string)
set_option linter.unusedVariables false
set_option maxHeartbeats 40000000 in
theorem card : Rows.FnHasDuplicateOptionsCardSaid :=
  Claim7.holds_tied_plain_at .later [] _ _ _ _ said (fun _ h => by cases h) (by as_aux_lemma => kernel_rfl) (fun _ h => by cases h) fnHasDuplicateOptions_row_tie rfl ⟨rfl, rfl⟩ (by as_aux_lemma => kernel_rfl) rfl plain (by as_aux_lemma => kernel_rfl)
#print axioms card
end Go.Proofs.YtkohgndmhgcgeaaGreatDoor.fnHasDuplicateOptions
namespace Go.Proofs.YtkohgndmhgcgeaaGreatDoor
/-- The tied card, under a short name, for the claim. -/
theorem fnHasDuplicateOptions_card : Rows.FnHasDuplicateOptionsCardSaid := fnHasDuplicateOptions.card
end Go.Proofs.YtkohgndmhgcgeaaGreatDoor
