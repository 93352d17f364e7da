/-
  DERIVED. GIVEN WITH THE SEED: THE CARDS: each row of YtlnimjpigghbmaaDoorRows.lean that lists a variable, with what it lists TIED to the program's text (the seventh form; the later family's looks); each row that meets fmt, with fmt's text TOLD by the authors' own Lean function (tested against real Go, not proved from fmt's source: count such statements apart). THE CARD IS WHAT COUNTS. Prove the row's statement (the work); the ties are given (YtlnimjpigghbmaaDoorTie.lean); close each card by the builder's one call (the guide's Derived/Test/ToyasCard.lean, 'card_holds'). Laid BY PROGRAM, IN A SANDBOX (cutbox-door.mjs). By AI agents, Wed Nov 11 2026. No macro, syntax, notation, axiom, sorry.
-/
import Derived.Test.YtlnimjpigghbmaaDoorRows
import GoSem.ClaimSeven
namespace Go.Proofs.YtlnimjpigghbmaaDoor
namespace Rows

/-- THE TIED CARD OF 'laws.FnFormatComment'. -/
def fnFormatCommentCard : Claim7 := { stood := { row := fnFormatCommentRow, standIns := [], harness := (true, "1a168da5e47a1c14b214f791aaac4d97b07dedde546bcc52cfd6bb3b298f747c"), looks := false }, kinds := [], alts := [], laidByText := true, laidKinds := [.data, .pinned], laidTests := true, laidLooks := .later }
def FnFormatCommentCardSaid : Prop := Claim7.holds Tryd.pinned (.plain (OpenSpec.ofChange fnFormatCommentSpec)) fnFormatCommentCard

/-- THE TIED CARD OF 'laws.FnPlaceText'. -/
def fnPlaceTextCard : Claim7 := { stood := { row := fnPlaceTextRow, standIns := [], harness := (true, "1a168da5e47a1c14b214f791aaac4d97b07dedde546bcc52cfd6bb3b298f747c"), looks := false }, kinds := [], alts := [], laidByText := true, laidKinds := [.data, .data, .data], laidTests := true, laidLooks := .later }
def FnPlaceTextCardSaid : Prop := Claim7.holds Tryd.pinned (.plain (OpenSpec.ofChange fnPlaceTextSpec)) fnPlaceTextCard

/-- THE TIED CARD OF 'laws.FnFormatInteger'. -/
def fnFormatIntegerCard : Claim7 := { stood := { row := fnFormatIntegerRow, standIns := [], harness := (true, "1a168da5e47a1c14b214f791aaac4d97b07dedde546bcc52cfd6bb3b298f747c"), looks := false }, kinds := [], alts := [], laidByText := true, laidKinds := [.data, .data, .data], laidTests := true, laidLooks := .later }
def FnFormatIntegerCardSaid : Prop := Claim7.holds Tryd.pinned (.plain (OpenSpec.ofChange fnFormatIntegerSpec)) fnFormatIntegerCard

/-- THE TIED CARD OF 'laws.FnParseText'. -/
def fnParseTextCard : Claim7 := { stood := { row := fnParseTextRow, standIns := [], harness := (true, "1a168da5e47a1c14b214f791aaac4d97b07dedde546bcc52cfd6bb3b298f747c"), looks := false }, kinds := [], alts := [], laidByText := true, laidKinds := [.data, .pinned], laidTests := true, laidLooks := .later }
def FnParseTextCardSaid : Prop := Claim7.holds Tryd.pinned (.plain (OpenSpec.ofChange fnParseTextSpec)) fnParseTextCard

/-- THE SECOND FORM's CARD OF 'laws.FnFormatComment'. -/
def fnFormatCommentUptoCard : Claim7 := { stood := { row := fnFormatCommentUptoRow, standIns := [], harness := (true, "1a168da5e47a1c14b214f791aaac4d97b07dedde546bcc52cfd6bb3b298f747c"), looks := false }, kinds := [], alts := [], laidByText := true, laidKinds := [.data, .pinned], laidTests := true, laidLooks := .later }
def FnFormatCommentUptoCardSaid : Prop := Claim7.holds Tryd.pinned (.plain (OpenSpec.upto fnFormatCommentSpec)) fnFormatCommentUptoCard

/-- THE SECOND FORM's CARD OF 'laws.FnPlaceText'. -/
def fnPlaceTextUptoCard : Claim7 := { stood := { row := fnPlaceTextUptoRow, standIns := [], harness := (true, "1a168da5e47a1c14b214f791aaac4d97b07dedde546bcc52cfd6bb3b298f747c"), looks := false }, kinds := [], alts := [], laidByText := true, laidKinds := [.data, .data, .data], laidTests := true, laidLooks := .later }
def FnPlaceTextUptoCardSaid : Prop := Claim7.holds Tryd.pinned (.plain (OpenSpec.upto fnPlaceTextSpec)) fnPlaceTextUptoCard

/-- THE SECOND FORM's CARD OF 'laws.FnFormatInteger'. -/
def fnFormatIntegerUptoCard : Claim7 := { stood := { row := fnFormatIntegerUptoRow, standIns := [], harness := (true, "1a168da5e47a1c14b214f791aaac4d97b07dedde546bcc52cfd6bb3b298f747c"), looks := false }, kinds := [], alts := [], laidByText := true, laidKinds := [.data, .data, .data], laidTests := true, laidLooks := .later }
def FnFormatIntegerUptoCardSaid : Prop := Claim7.holds Tryd.pinned (.plain (OpenSpec.upto fnFormatIntegerSpec)) fnFormatIntegerUptoCard

/-- THE SECOND FORM's CARD OF 'laws.FnParseText'. -/
def fnParseTextUptoCard : Claim7 := { stood := { row := fnParseTextUptoRow, standIns := [], harness := (true, "1a168da5e47a1c14b214f791aaac4d97b07dedde546bcc52cfd6bb3b298f747c"), looks := false }, kinds := [], alts := [], laidByText := true, laidKinds := [.data, .pinned], laidTests := true, laidLooks := .later }
def FnParseTextUptoCardSaid : Prop := Claim7.holds Tryd.pinned (.plain (OpenSpec.upto fnParseTextSpec)) fnParseTextUptoCard
end Rows
end Go.Proofs.YtlnimjpigghbmaaDoor
