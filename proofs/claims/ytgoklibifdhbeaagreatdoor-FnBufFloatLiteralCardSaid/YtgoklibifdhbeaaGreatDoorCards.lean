/-
  DERIVED. GIVEN WITH THE SEED: THE CARDS: each row of YtgoklibifdhbeaaGreatDoorRows.lean that lists a variable, with what it lists TIED to the program's text (the seventh form; the later family's looks); each row that meets fmt, with fmt's text TOLD by the authors' own Lean function (tested against real Go, not proved from fmt's source: count such statements apart). THE CARD IS WHAT COUNTS. Prove the row's statement (the work); the ties are given (YtgoklibifdhbeaaGreatDoorTie.lean); close each card by the builder's one call (the guide's Derived/Test/ToyasCard.lean, 'card_holds'). Laid BY PROGRAM, IN A SANDBOX (cutbox-door.mjs). By AI agents, Wed Nov 11 2026. No macro, syntax, notation, axiom, sorry.
-/
import Derived.Test.YtgoklibifdhbeaaGreatDoorRows
import GoSem.ClaimSeven
namespace Go.Proofs.YtgoklibifdhbeaaGreatDoor
namespace Rows

/-- THE TIED CARD OF 'laws.FnBufBadStatement'. -/
def fnBufBadStatementCard : Claim7 := { stood := { row := fnBufBadStatementRow, standIns := [], harness := (true, "8bcb55ea7f9906b7f9b73b2187d3114e977a3ed65906d578caeaf38fb400821d"), looks := true }, kinds := [], alts := [], laidByText := true, laidKinds := [.data, .pinned], laidTests := true, laidLooks := .later }
def FnBufBadStatementCardSaid : Prop := Claim7.holds Tryz.pinned (.plain (OpenSpec.ofChange fnBufBadStatementSpec)) fnBufBadStatementCard

/-- THE TIED CARD OF 'laws.FnBufStringLiteral'. -/
def fnBufStringLiteralCard : Claim7 := { stood := { row := fnBufStringLiteralRow, standIns := [], harness := (true, "8bcb55ea7f9906b7f9b73b2187d3114e977a3ed65906d578caeaf38fb400821d"), looks := true }, kinds := [], alts := [], laidByText := true, laidKinds := [.data, .pinned], laidTests := true, laidLooks := .later }
def FnBufStringLiteralCardSaid : Prop := Claim7.holds Tryz.pinned (.plain (OpenSpec.ofChange fnBufStringLiteralSpec)) fnBufStringLiteralCard

/-- THE TIED CARD OF 'laws.FnBufIdentifier'. -/
def fnBufIdentifierCard : Claim7 := { stood := { row := fnBufIdentifierRow, standIns := [], harness := (true, "8bcb55ea7f9906b7f9b73b2187d3114e977a3ed65906d578caeaf38fb400821d"), looks := true }, kinds := [], alts := [], laidByText := true, laidKinds := [.data, .pinned], laidTests := true, laidLooks := .later }
def FnBufIdentifierCardSaid : Prop := Claim7.holds Tryz.pinned (.plain (OpenSpec.ofChange fnBufIdentifierSpec)) fnBufIdentifierCard

/-- THE TIED CARD OF 'laws.FnBufUnsignedIntegerLiteral'. -/
def fnBufUnsignedIntegerLiteralCard : Claim7 := { stood := { row := fnBufUnsignedIntegerLiteralRow, standIns := [], harness := (true, "8bcb55ea7f9906b7f9b73b2187d3114e977a3ed65906d578caeaf38fb400821d"), looks := true }, kinds := [], alts := [], laidByText := true, laidKinds := [.data, .pinned], laidTests := true, laidLooks := .later }
def FnBufUnsignedIntegerLiteralCardSaid : Prop := Claim7.holds Tryz.pinned (.plain (OpenSpec.ofChange fnBufUnsignedIntegerLiteralSpec)) fnBufUnsignedIntegerLiteralCard

/-- THE TIED CARD OF 'laws.FnBufFloatLiteral'. -/
def fnBufFloatLiteralCard : Claim7 := { stood := { row := fnBufFloatLiteralRow, standIns := [], harness := (true, "8bcb55ea7f9906b7f9b73b2187d3114e977a3ed65906d578caeaf38fb400821d"), looks := true }, kinds := [], alts := [], laidByText := true, laidKinds := [.data, .pinned], laidTests := true, laidLooks := .later }
def FnBufFloatLiteralCardSaid : Prop := Claim7.holds Tryz.pinned (.plain (OpenSpec.ofChange fnBufFloatLiteralSpec)) fnBufFloatLiteralCard

/-- THE SECOND FORM's CARD OF 'laws.FnBufBadStatement'. -/
def fnBufBadStatementUptoCard : Claim7 := { stood := { row := fnBufBadStatementUptoRow, standIns := [], harness := (true, "8bcb55ea7f9906b7f9b73b2187d3114e977a3ed65906d578caeaf38fb400821d"), looks := true }, kinds := [], alts := [], laidByText := true, laidKinds := [.data, .pinned], laidTests := true, laidLooks := .later }
def FnBufBadStatementUptoCardSaid : Prop := Claim7.holds Tryz.pinned (.plain (OpenSpec.upto fnBufBadStatementSpec)) fnBufBadStatementUptoCard

/-- THE SECOND FORM's CARD OF 'laws.FnBufStringLiteral'. -/
def fnBufStringLiteralUptoCard : Claim7 := { stood := { row := fnBufStringLiteralUptoRow, standIns := [], harness := (true, "8bcb55ea7f9906b7f9b73b2187d3114e977a3ed65906d578caeaf38fb400821d"), looks := true }, kinds := [], alts := [], laidByText := true, laidKinds := [.data, .pinned], laidTests := true, laidLooks := .later }
def FnBufStringLiteralUptoCardSaid : Prop := Claim7.holds Tryz.pinned (.plain (OpenSpec.upto fnBufStringLiteralSpec)) fnBufStringLiteralUptoCard

/-- THE SECOND FORM's CARD OF 'laws.FnBufIdentifier'. -/
def fnBufIdentifierUptoCard : Claim7 := { stood := { row := fnBufIdentifierUptoRow, standIns := [], harness := (true, "8bcb55ea7f9906b7f9b73b2187d3114e977a3ed65906d578caeaf38fb400821d"), looks := true }, kinds := [], alts := [], laidByText := true, laidKinds := [.data, .pinned], laidTests := true, laidLooks := .later }
def FnBufIdentifierUptoCardSaid : Prop := Claim7.holds Tryz.pinned (.plain (OpenSpec.upto fnBufIdentifierSpec)) fnBufIdentifierUptoCard

/-- THE SECOND FORM's CARD OF 'laws.FnBufUnsignedIntegerLiteral'. -/
def fnBufUnsignedIntegerLiteralUptoCard : Claim7 := { stood := { row := fnBufUnsignedIntegerLiteralUptoRow, standIns := [], harness := (true, "8bcb55ea7f9906b7f9b73b2187d3114e977a3ed65906d578caeaf38fb400821d"), looks := true }, kinds := [], alts := [], laidByText := true, laidKinds := [.data, .pinned], laidTests := true, laidLooks := .later }
def FnBufUnsignedIntegerLiteralUptoCardSaid : Prop := Claim7.holds Tryz.pinned (.plain (OpenSpec.upto fnBufUnsignedIntegerLiteralSpec)) fnBufUnsignedIntegerLiteralUptoCard

/-- THE SECOND FORM's CARD OF 'laws.FnBufFloatLiteral'. -/
def fnBufFloatLiteralUptoCard : Claim7 := { stood := { row := fnBufFloatLiteralUptoRow, standIns := [], harness := (true, "8bcb55ea7f9906b7f9b73b2187d3114e977a3ed65906d578caeaf38fb400821d"), looks := true }, kinds := [], alts := [], laidByText := true, laidKinds := [.data, .pinned], laidTests := true, laidLooks := .later }
def FnBufFloatLiteralUptoCardSaid : Prop := Claim7.holds Tryz.pinned (.plain (OpenSpec.upto fnBufFloatLiteralSpec)) fnBufFloatLiteralUptoCard
end Rows
end Go.Proofs.YtgoklibifdhbeaaGreatDoor
