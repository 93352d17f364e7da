/-
  DERIVED. GIVEN WITH THE SEED: THE CARDS: each row of YtaaiojhdhefjdaaDoorRows.lean that lists a variable, with what it lists TIED to the program's text (the seventh form; the later family's looks); each row that meets fmt, with fmt's text TOLD by the authors' own Lean function (tested against real Go, not proved from fmt's source: count such statements apart). THE CARD IS WHAT COUNTS. Prove the row's statement (the work); the ties are given (YtaaiojhdhefjdaaDoorTie.lean); close each card by the builder's one call (the guide's Derived/Test/ToyasCard.lean, 'card_holds'). Laid BY PROGRAM, IN A SANDBOX (cutbox-door.mjs). By AI agents, Wed Nov 11 2026. No macro, syntax, notation, axiom, sorry.
-/
import Derived.Test.YtaaiojhdhefjdaaDoorRows
import GoSem.ClaimSeven
namespace Go.Proofs.YtaaiojhdhefjdaaDoor
namespace Rows

/-- THE TIED CARD OF 'laws.FnParseDuration'. -/
def fnParseDurationCard : Claim7 := { stood := { row := fnParseDurationRow, standIns := [], harness := (true, "1e254032e88cceb54dd2804d9840bdecd03026b886488704d0ad9f568c7d716c"), looks := true }, kinds := [], alts := [], laidByText := true, laidKinds := [.data, .data, .data, .data, .sentinel, .sentinel, .pinned], laidTests := true, laidLooks := .later }
def FnParseDurationCardSaid : Prop := Claim7.holds Tryd.pinned (.plain (OpenSpec.ofChange fnParseDurationSpec)) fnParseDurationCard

/-- THE SECOND FORM's CARD OF 'laws.FnParseDuration'. -/
def fnParseDurationUptoCard : Claim7 := { stood := { row := fnParseDurationUptoRow, standIns := [], harness := (true, "1e254032e88cceb54dd2804d9840bdecd03026b886488704d0ad9f568c7d716c"), looks := true }, kinds := [], alts := [], laidByText := true, laidKinds := [.data, .data, .data, .data, .sentinel, .sentinel, .pinned], laidTests := true, laidLooks := .later }
def FnParseDurationUptoCardSaid : Prop := Claim7.holds Tryd.pinned (.plain (OpenSpec.upto fnParseDurationSpec)) fnParseDurationUptoCard
end Rows
end Go.Proofs.YtaaiojhdhefjdaaDoor
