/-
  DERIVED. GIVEN WITH THE SEED: THE CARDS: each row of YtdillheepidncaaGreatDoorRows.lean that lists a variable, with what it lists TIED to the program's text (the seventh form; the later family's looks); each row that meets fmt, with fmt's text TOLD by the authors' own Lean function (tested against real Go, not proved from fmt's source: count such statements apart). THE CARD IS WHAT COUNTS. Prove the row's statement (the work); the ties are given (YtdillheepidncaaGreatDoorTie.lean); close each card by the builder's one call (the guide's Derived/Test/ToyasCard.lean, 'card_holds'). Laid BY PROGRAM, IN A SANDBOX (cutbox-door.mjs). By AI agents, Wed Nov 11 2026. No macro, syntax, notation, axiom, sorry.
-/
import Derived.Test.YtdillheepidncaaGreatDoorRows
import GoSem.ClaimSeven
namespace Go.Proofs.YtdillheepidncaaGreatDoor
namespace Rows

/-- THE TIED CARD OF 'laws.FnBufTvarType'. -/
def fnBufTvarTypeCard : Claim7 := { stood := { row := fnBufTvarTypeRow, standIns := [], harness := (true, "f107de398aacfb44f6971434624d8b699bb71cd71e38b314332561999da7ebdc"), looks := true }, kinds := [], alts := [], laidByText := true, laidKinds := [.data, .pinned], laidTests := true, laidLooks := .later }
def FnBufTvarTypeCardSaid : Prop := Claim7.holds Tryz.pinned (.plain (OpenSpec.ofChange fnBufTvarTypeSpec)) fnBufTvarTypeCard

/-- THE TIED CARD OF 'laws.FnBufImportDeclaration'. -/
def fnBufImportDeclarationCard : Claim7 := { stood := { row := fnBufImportDeclarationRow, standIns := [], harness := (true, "f107de398aacfb44f6971434624d8b699bb71cd71e38b314332561999da7ebdc"), looks := true }, kinds := [], alts := [], laidByText := true, laidKinds := [.data, .pinned], laidTests := true, laidLooks := .later }
def FnBufImportDeclarationCardSaid : Prop := Claim7.holds Tryz.pinned (.plain (OpenSpec.ofChange fnBufImportDeclarationSpec)) fnBufImportDeclarationCard

/-- THE TIED CARD OF 'laws.FnBufDurationLiteral'. -/
def fnBufDurationLiteralCard : Claim7 := { stood := { row := fnBufDurationLiteralRow, standIns := [], harness := (true, "f107de398aacfb44f6971434624d8b699bb71cd71e38b314332561999da7ebdc"), looks := true }, kinds := [], alts := [], laidByText := true, laidKinds := [.data, .data, .data, .data, .pinned], laidTests := true, laidLooks := .later }
def FnBufDurationLiteralCardSaid : Prop := Claim7.holds Tryz.pinned (.plain (OpenSpec.ofChange fnBufDurationLiteralSpec)) fnBufDurationLiteralCard

/-- THE SECOND FORM's CARD OF 'laws.FnBufTvarType'. -/
def fnBufTvarTypeUptoCard : Claim7 := { stood := { row := fnBufTvarTypeUptoRow, standIns := [], harness := (true, "f107de398aacfb44f6971434624d8b699bb71cd71e38b314332561999da7ebdc"), looks := true }, kinds := [], alts := [], laidByText := true, laidKinds := [.data, .pinned], laidTests := true, laidLooks := .later }
def FnBufTvarTypeUptoCardSaid : Prop := Claim7.holds Tryz.pinned (.plain (OpenSpec.upto fnBufTvarTypeSpec)) fnBufTvarTypeUptoCard

/-- THE SECOND FORM's CARD OF 'laws.FnBufImportDeclaration'. -/
def fnBufImportDeclarationUptoCard : Claim7 := { stood := { row := fnBufImportDeclarationUptoRow, standIns := [], harness := (true, "f107de398aacfb44f6971434624d8b699bb71cd71e38b314332561999da7ebdc"), looks := true }, kinds := [], alts := [], laidByText := true, laidKinds := [.data, .pinned], laidTests := true, laidLooks := .later }
def FnBufImportDeclarationUptoCardSaid : Prop := Claim7.holds Tryz.pinned (.plain (OpenSpec.upto fnBufImportDeclarationSpec)) fnBufImportDeclarationUptoCard

/-- THE SECOND FORM's CARD OF 'laws.FnBufDurationLiteral'. -/
def fnBufDurationLiteralUptoCard : Claim7 := { stood := { row := fnBufDurationLiteralUptoRow, standIns := [], harness := (true, "f107de398aacfb44f6971434624d8b699bb71cd71e38b314332561999da7ebdc"), looks := true }, kinds := [], alts := [], laidByText := true, laidKinds := [.data, .data, .data, .data, .pinned], laidTests := true, laidLooks := .later }
def FnBufDurationLiteralUptoCardSaid : Prop := Claim7.holds Tryz.pinned (.plain (OpenSpec.upto fnBufDurationLiteralSpec)) fnBufDurationLiteralUptoCard
end Rows
end Go.Proofs.YtdillheepidncaaGreatDoor
