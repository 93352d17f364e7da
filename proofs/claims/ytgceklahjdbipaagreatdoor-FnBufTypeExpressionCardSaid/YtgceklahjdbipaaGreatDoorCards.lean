/-
  DERIVED. GIVEN WITH THE SEED: THE CARDS: each row of YtgceklahjdbipaaGreatDoorRows.lean that lists a variable, with what it lists TIED to the program's text (the seventh form; the later family's looks); each row that meets fmt, with fmt's text TOLD by the authors' own Lean function (tested against real Go, not proved from fmt's source: count such statements apart). THE CARD IS WHAT COUNTS. Prove the row's statement (the work); the ties are given (YtgceklahjdbipaaGreatDoorTie.lean); close each card by the builder's one call (the guide's Derived/Test/ToyasCard.lean, 'card_holds'). Laid BY PROGRAM, IN A SANDBOX (cutbox-door.mjs). By AI agents, Wed Nov 11 2026. No macro, syntax, notation, axiom, sorry.
-/
import Derived.Test.YtgceklahjdbipaaGreatDoorRows
import GoSem.ClaimSeven
namespace Go.Proofs.YtgceklahjdbipaaGreatDoor
namespace Rows

/-- THE TIED CARD OF 'laws.FnBufDictType'. -/
def fnBufDictTypeCard : Claim7 := { stood := { row := fnBufDictTypeRow, standIns := [], harness := (true, "a77a8ef79a44430ed3d6ce73de6aeceda5c48bc51c452859f35e43682f363029"), looks := true }, kinds := [], alts := [], laidByText := true, laidKinds := [.data, .data, .data, .data, .pinned], laidTests := true, laidLooks := .later }
def FnBufDictTypeCardSaid : Prop := Claim7.holds Tryz.pinned (.plain (OpenSpec.ofChange fnBufDictTypeSpec)) fnBufDictTypeCard

/-- THE TIED CARD OF 'laws.FnBufParameterType'. -/
def fnBufParameterTypeCard : Claim7 := { stood := { row := fnBufParameterTypeRow, standIns := [], harness := (true, "a77a8ef79a44430ed3d6ce73de6aeceda5c48bc51c452859f35e43682f363029"), looks := true }, kinds := [], alts := [], laidByText := true, laidKinds := [.data, .data, .data, .data, .pinned], laidTests := true, laidLooks := .later }
def FnBufParameterTypeCardSaid : Prop := Claim7.holds Tryz.pinned (.plain (OpenSpec.ofChange fnBufParameterTypeSpec)) fnBufParameterTypeCard

/-- THE TIED CARD OF 'laws.FnBufPropertyType'. -/
def fnBufPropertyTypeCard : Claim7 := { stood := { row := fnBufPropertyTypeRow, standIns := [], harness := (true, "a77a8ef79a44430ed3d6ce73de6aeceda5c48bc51c452859f35e43682f363029"), looks := true }, kinds := [], alts := [], laidByText := true, laidKinds := [.data, .data, .data, .data, .pinned], laidTests := true, laidLooks := .later }
def FnBufPropertyTypeCardSaid : Prop := Claim7.holds Tryz.pinned (.plain (OpenSpec.ofChange fnBufPropertyTypeSpec)) fnBufPropertyTypeCard

/-- THE TIED CARD OF 'laws.FnBufTypeExpression'. -/
def fnBufTypeExpressionCard : Claim7 := { stood := { row := fnBufTypeExpressionRow, standIns := [], harness := (true, "a77a8ef79a44430ed3d6ce73de6aeceda5c48bc51c452859f35e43682f363029"), looks := true }, kinds := [], alts := [], laidByText := true, laidKinds := [.data, .data, .data, .data, .pinned], laidTests := true, laidLooks := .later }
def FnBufTypeExpressionCardSaid : Prop := Claim7.holds Tryz.pinned (.plain (OpenSpec.ofChange fnBufTypeExpressionSpec)) fnBufTypeExpressionCard

/-- THE SECOND FORM's CARD OF 'laws.FnBufDictType'. -/
def fnBufDictTypeUptoCard : Claim7 := { stood := { row := fnBufDictTypeUptoRow, standIns := [], harness := (true, "a77a8ef79a44430ed3d6ce73de6aeceda5c48bc51c452859f35e43682f363029"), looks := true }, kinds := [], alts := [], laidByText := true, laidKinds := [.data, .data, .data, .data, .pinned], laidTests := true, laidLooks := .later }
def FnBufDictTypeUptoCardSaid : Prop := Claim7.holds Tryz.pinned (.plain (OpenSpec.upto fnBufDictTypeSpec)) fnBufDictTypeUptoCard

/-- THE SECOND FORM's CARD OF 'laws.FnBufParameterType'. -/
def fnBufParameterTypeUptoCard : Claim7 := { stood := { row := fnBufParameterTypeUptoRow, standIns := [], harness := (true, "a77a8ef79a44430ed3d6ce73de6aeceda5c48bc51c452859f35e43682f363029"), looks := true }, kinds := [], alts := [], laidByText := true, laidKinds := [.data, .data, .data, .data, .pinned], laidTests := true, laidLooks := .later }
def FnBufParameterTypeUptoCardSaid : Prop := Claim7.holds Tryz.pinned (.plain (OpenSpec.upto fnBufParameterTypeSpec)) fnBufParameterTypeUptoCard

/-- THE SECOND FORM's CARD OF 'laws.FnBufPropertyType'. -/
def fnBufPropertyTypeUptoCard : Claim7 := { stood := { row := fnBufPropertyTypeUptoRow, standIns := [], harness := (true, "a77a8ef79a44430ed3d6ce73de6aeceda5c48bc51c452859f35e43682f363029"), looks := true }, kinds := [], alts := [], laidByText := true, laidKinds := [.data, .data, .data, .data, .pinned], laidTests := true, laidLooks := .later }
def FnBufPropertyTypeUptoCardSaid : Prop := Claim7.holds Tryz.pinned (.plain (OpenSpec.upto fnBufPropertyTypeSpec)) fnBufPropertyTypeUptoCard

/-- THE SECOND FORM's CARD OF 'laws.FnBufTypeExpression'. -/
def fnBufTypeExpressionUptoCard : Claim7 := { stood := { row := fnBufTypeExpressionUptoRow, standIns := [], harness := (true, "a77a8ef79a44430ed3d6ce73de6aeceda5c48bc51c452859f35e43682f363029"), looks := true }, kinds := [], alts := [], laidByText := true, laidKinds := [.data, .data, .data, .data, .pinned], laidTests := true, laidLooks := .later }
def FnBufTypeExpressionUptoCardSaid : Prop := Claim7.holds Tryz.pinned (.plain (OpenSpec.upto fnBufTypeExpressionSpec)) fnBufTypeExpressionUptoCard
end Rows
end Go.Proofs.YtgceklahjdbipaaGreatDoor
