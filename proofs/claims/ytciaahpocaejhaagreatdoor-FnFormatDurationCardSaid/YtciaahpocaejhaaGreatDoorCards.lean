/-
  DERIVED. GIVEN WITH THE SEED: THE CARDS: each row of YtciaahpocaejhaaGreatDoorRows.lean that lists a variable, with what it lists TIED to the program's text (the seventh form; the later family's looks); each row that meets fmt, with fmt's text TOLD by the authors' own Lean function (tested against real Go, not proved from fmt's source: count such statements apart). THE CARD IS WHAT COUNTS. Prove the row's statement (the work); the ties are given (YtciaahpocaejhaaGreatDoorTie.lean); close each card by the builder's one call (the guide's Derived/Test/ToyasCard.lean, 'card_holds'). Laid BY PROGRAM, IN A SANDBOX (cutbox-door.mjs). By AI agents, Wed Nov 11 2026. No macro, syntax, notation, axiom, sorry.
-/
import Derived.Test.YtciaahpocaejhaaGreatDoorRows
import GoSem.ClaimSeven
namespace Go.Proofs.YtciaahpocaejhaaGreatDoor
namespace Rows

/-- THE TIED CARD OF 'laws.FnFormatRegexp'. -/
def fnFormatRegexpCard : Claim7 := { stood := { row := fnFormatRegexpRow, standIns := [], harness := (true, "1afc3307c1ee9315a234d16d11f169bff469d037530da206ac80ff55cb62bf0c"), looks := false }, kinds := [], alts := [], laidByText := true, laidKinds := [.data, .pinned], laidTests := true, laidLooks := .later }
def FnFormatRegexpCardSaid : Prop := Claim7.holds Tryz.pinned (.plain (OpenSpec.ofChange fnFormatRegexpSpec)) fnFormatRegexpCard

/-- THE TIED CARD OF 'laws.FnFormatString'. -/
def fnFormatStringCard : Claim7 := { stood := { row := fnFormatStringRow, standIns := [], harness := (true, "1afc3307c1ee9315a234d16d11f169bff469d037530da206ac80ff55cb62bf0c"), looks := false }, kinds := [], alts := [], laidByText := true, laidKinds := [.data, .pinned], laidTests := true, laidLooks := .later }
def FnFormatStringCardSaid : Prop := Claim7.holds Tryz.pinned (.plain (OpenSpec.ofChange fnFormatStringSpec)) fnFormatStringCard

/-- THE TIED CARD OF 'laws.FnFormatDuration'. -/
def fnFormatDurationCard : Claim7 := { stood := { row := fnFormatDurationRow, standIns := [], harness := (true, "1afc3307c1ee9315a234d16d11f169bff469d037530da206ac80ff55cb62bf0c"), looks := false }, kinds := [], alts := [], laidByText := true, laidKinds := [.data, .data, .data, .data, .pinned], laidTests := true, laidLooks := .later }
def FnFormatDurationCardSaid : Prop := Claim7.holds Tryz.pinned (.plain (OpenSpec.ofChange fnFormatDurationSpec)) fnFormatDurationCard

/-- THE SECOND FORM's CARD OF 'laws.FnFormatRegexp'. -/
def fnFormatRegexpUptoCard : Claim7 := { stood := { row := fnFormatRegexpUptoRow, standIns := [], harness := (true, "1afc3307c1ee9315a234d16d11f169bff469d037530da206ac80ff55cb62bf0c"), looks := false }, kinds := [], alts := [], laidByText := true, laidKinds := [.data, .pinned], laidTests := true, laidLooks := .later }
def FnFormatRegexpUptoCardSaid : Prop := Claim7.holds Tryz.pinned (.plain (OpenSpec.upto fnFormatRegexpSpec)) fnFormatRegexpUptoCard

/-- THE SECOND FORM's CARD OF 'laws.FnFormatString'. -/
def fnFormatStringUptoCard : Claim7 := { stood := { row := fnFormatStringUptoRow, standIns := [], harness := (true, "1afc3307c1ee9315a234d16d11f169bff469d037530da206ac80ff55cb62bf0c"), looks := false }, kinds := [], alts := [], laidByText := true, laidKinds := [.data, .pinned], laidTests := true, laidLooks := .later }
def FnFormatStringUptoCardSaid : Prop := Claim7.holds Tryz.pinned (.plain (OpenSpec.upto fnFormatStringSpec)) fnFormatStringUptoCard

/-- THE SECOND FORM's CARD OF 'laws.FnFormatDuration'. -/
def fnFormatDurationUptoCard : Claim7 := { stood := { row := fnFormatDurationUptoRow, standIns := [], harness := (true, "1afc3307c1ee9315a234d16d11f169bff469d037530da206ac80ff55cb62bf0c"), looks := false }, kinds := [], alts := [], laidByText := true, laidKinds := [.data, .data, .data, .data, .pinned], laidTests := true, laidLooks := .later }
def FnFormatDurationUptoCardSaid : Prop := Claim7.holds Tryz.pinned (.plain (OpenSpec.upto fnFormatDurationSpec)) fnFormatDurationUptoCard
end Rows
end Go.Proofs.YtciaahpocaejhaaGreatDoor
