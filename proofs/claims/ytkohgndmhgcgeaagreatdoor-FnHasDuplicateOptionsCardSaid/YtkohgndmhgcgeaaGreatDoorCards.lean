/-
  DERIVED. GIVEN WITH THE SEED: THE CARDS: each row of YtkohgndmhgcgeaaGreatDoorRows.lean that lists a variable, with what it lists TIED to the program's text (the seventh form; the later family's looks); each row that meets fmt, with fmt's text TOLD by the authors' own Lean function (tested against real Go, not proved from fmt's source: count such statements apart). THE CARD IS WHAT COUNTS. Prove the row's statement (the work); the ties are given (YtkohgndmhgcgeaaGreatDoorTie.lean); close each card by the builder's one call (the guide's Derived/Test/ToyasCard.lean, 'card_holds'). Laid BY PROGRAM, IN A SANDBOX (cutbox-door.mjs). By AI agents, Wed Nov 11 2026. No macro, syntax, notation, axiom, sorry.
-/
import Derived.Test.YtkohgndmhgcgeaaGreatDoorRows
import GoSem.ClaimSeven
namespace Go.Proofs.YtkohgndmhgcgeaaGreatDoor
namespace Rows

/-- THE TIED CARD OF 'laws.FnHasDuplicateOptions'. -/
def fnHasDuplicateOptionsCard : Claim7 := { stood := { row := fnHasDuplicateOptionsRow, standIns := [], harness := (true, "5b50d8479bc9f4cbaabc3fedd21dd43ace9c39b2023c2d5c71e89c0afb6ccfea"), looks := true }, kinds := [], alts := [], laidByText := true, laidKinds := [.data, .pinned], laidTests := true, laidLooks := .later }
def FnHasDuplicateOptionsCardSaid : Prop := Claim7.holds Tryz.pinned (.plain (OpenSpec.ofChange fnHasDuplicateOptionsSpec)) fnHasDuplicateOptionsCard

/-- THE SECOND FORM's CARD OF 'laws.FnHasDuplicateOptions'. -/
def fnHasDuplicateOptionsUptoCard : Claim7 := { stood := { row := fnHasDuplicateOptionsUptoRow, standIns := [], harness := (true, "5b50d8479bc9f4cbaabc3fedd21dd43ace9c39b2023c2d5c71e89c0afb6ccfea"), looks := true }, kinds := [], alts := [], laidByText := true, laidKinds := [.data, .pinned], laidTests := true, laidLooks := .later }
def FnHasDuplicateOptionsUptoCardSaid : Prop := Claim7.holds Tryz.pinned (.plain (OpenSpec.upto fnHasDuplicateOptionsSpec)) fnHasDuplicateOptionsUptoCard
end Rows
end Go.Proofs.YtkohgndmhgcgeaaGreatDoor
