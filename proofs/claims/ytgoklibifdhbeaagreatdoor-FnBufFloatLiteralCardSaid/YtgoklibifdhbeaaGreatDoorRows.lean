/-
  NARROWER THAN 'FOR EVERY INPUT', by the rows' own cells (each row's printed sentence says how): FnBufBadStatement: loops, laid · FnBufStringLiteral: loops, laid · FnBufIdentifier: loops, laid · FnBufUnsignedIntegerLiteral: loops, laid · FnBufFloatLiteral: loops, laid.
  DERIVED. THE GIVEN ROWS OF THIS SEAT. 5 by the template 'for every input the law returns true; each argument reads behind the call as it read before'; 0 by the template 'total and deterministic' (their statements: YtgoklibifdhbeaaGreatDoorTotals.lean).
  GIVEN WITH THE SEED: the statements are not yours to turn. If you find one false, say at which input.
  Laid BY PROGRAM, IN A SANDBOX (cutbox-rows.mjs): the forced cells as the released guide's own fill.sh prints them over the translation ce304ba716c11904… (all of the seat's roots in one cut). By AI agents, Wed Nov 11 2026. No macro, syntax, notation, axiom, sorry.
-/
import Derived.Test.YtgoklibifdhbeaaGreatDoorChecked
import GoSem.PinnedTables
import GoSem.Claim
import GoSem.ClaimJoined
import GoSem.ClaimMapViews
import Derived.JoinedTies
import Derived.KernelRfl
namespace Go.Proofs.YtgoklibifdhbeaaGreatDoor
/- THE CELL 'sum', in the pinned program and in every row, IS THE sha256 OF THE DUMP (.gsa) THAT YtgoklibifdhbeaaGreatDoorProg.lean LOADS. Nothing in Lean hashes anything: it is a label: what it is worth is what the hold of that sum in a sandbox is worth. -/
noncomputable def Tryz.pinned : Pinned := { name := "ytgoklibifdhbeaagreatdoor", sum := "ce304ba716c119041452c14a2b8d00a23957c4b8811cfbf23e5fc6377b0e8c51", checked := Tryz.checked }
namespace Rows
def none {H : Type} : Left H := { results := [], args := [] }

/- WHAT THE LISTED PACKAGE-LEVEL VARIABLES READ AS WHEN THE CALL BEGINS. Each datum BY PROGRAM (the guide's laid-datum.mjs) off the statement by which the dump's own 'gosem.cut.vars' lays the variable. In a bare row this is a premise. The card (YtgoklibifdhbeaaGreatDoorCards.lean) ties it to the program's text. -/
def laid_unicode_utf8_acceptRanges {H : Type} : DataW H := .agg [.agg [.lit (.int .u8 128), .lit (.int .u8 191)], .agg [.lit (.int .u8 160), .lit (.int .u8 191)], .agg [.lit (.int .u8 128), .lit (.int .u8 159)], .agg [.lit (.int .u8 144), .lit (.int .u8 191)], .agg [.lit (.int .u8 128), .lit (.int .u8 143)], .agg [.lit (.int .u8 0), .lit (.int .u8 0)], .agg [.lit (.int .u8 0), .lit (.int .u8 0)], .agg [.lit (.int .u8 0), .lit (.int .u8 0)], .agg [.lit (.int .u8 0), .lit (.int .u8 0)], .agg [.lit (.int .u8 0), .lit (.int .u8 0)], .agg [.lit (.int .u8 0), .lit (.int .u8 0)], .agg [.lit (.int .u8 0), .lit (.int .u8 0)], .agg [.lit (.int .u8 0), .lit (.int .u8 0)], .agg [.lit (.int .u8 0), .lit (.int .u8 0)], .agg [.lit (.int .u8 0), .lit (.int .u8 0)], .agg [.lit (.int .u8 0), .lit (.int .u8 0)]]
/-- One of Go's own tables, pinned by name: the form's constant. -/
def laid_unicode_utf8_first : DataW Unit := Go.Pinned.utf8First

/-- 'laws.FnBufBadStatement': WHATEVER THE INPUT: true; the input reads as it did. -/
def fnBufBadStatementSpec : ChangeSpec := { name := "fnBufBadStatement", fn := fun _ => fun
  | [d1, d2] => { results := [.lit (.bool true)], args := [d1, d2] }
  | _ => none }
def fnBufBadStatementRow : OpenClaim := { program := "ytgoklibifdhbeaagreatdoor", sum := "ce304ba716c119041452c14a2b8d00a23957c4b8811cfbf23e5fc6377b0e8c51", func := "given.example/pub-brazing/laws.FnBufBadStatement", spec := "fnBufBadStatement", inPlace := ["math.Float64frombits", "math.archFloor", "math.Float64bits", "math.archTrunc"], unfollowed := true, recurses := true, named := ["unicode/utf8.first", "unicode/utf8.acceptRanges"], loops := true, apart := false, laid := [("unicode/utf8.acceptRanges", laid_unicode_utf8_acceptRanges), ("unicode/utf8.first", laid_unicode_utf8_first)] }
def FnBufBadStatementSaid : Prop := fnBufBadStatementRow.holds Tryz.pinned (OpenSpec.ofChange fnBufBadStatementSpec)

/-- ITS FALSE NEIGHBOUR: 'it returns false'. Refute it at one input. -/
def fnBufBadStatementWrong : ChangeSpec := { name := "fnBufBadStatement", fn := fun _ => fun
  | [d1, d2] => { results := [.lit (.bool false)], args := [d1, d2] }
  | _ => none }
def FnBufBadStatementWrongFalsely : Prop := fnBufBadStatementRow.holds Tryz.pinned (OpenSpec.ofChange fnBufBadStatementWrong)

/-- 'laws.FnBufStringLiteral': WHATEVER THE INPUT: true; the input reads as it did. -/
def fnBufStringLiteralSpec : ChangeSpec := { name := "fnBufStringLiteral", fn := fun _ => fun
  | [d1, d2] => { results := [.lit (.bool true)], args := [d1, d2] }
  | _ => none }
def fnBufStringLiteralRow : OpenClaim := { program := "ytgoklibifdhbeaagreatdoor", sum := "ce304ba716c119041452c14a2b8d00a23957c4b8811cfbf23e5fc6377b0e8c51", func := "given.example/pub-brazing/laws.FnBufStringLiteral", spec := "fnBufStringLiteral", inPlace := ["math.Float64frombits", "math.archFloor", "math.Float64bits", "math.archTrunc"], unfollowed := true, recurses := true, named := ["unicode/utf8.first", "unicode/utf8.acceptRanges"], loops := true, apart := false, laid := [("unicode/utf8.acceptRanges", laid_unicode_utf8_acceptRanges), ("unicode/utf8.first", laid_unicode_utf8_first)] }
def FnBufStringLiteralSaid : Prop := fnBufStringLiteralRow.holds Tryz.pinned (OpenSpec.ofChange fnBufStringLiteralSpec)

/-- ITS FALSE NEIGHBOUR: 'it returns false'. Refute it at one input. -/
def fnBufStringLiteralWrong : ChangeSpec := { name := "fnBufStringLiteral", fn := fun _ => fun
  | [d1, d2] => { results := [.lit (.bool false)], args := [d1, d2] }
  | _ => none }
def FnBufStringLiteralWrongFalsely : Prop := fnBufStringLiteralRow.holds Tryz.pinned (OpenSpec.ofChange fnBufStringLiteralWrong)

/-- 'laws.FnBufIdentifier': WHATEVER THE INPUT: true; the input reads as it did. -/
def fnBufIdentifierSpec : ChangeSpec := { name := "fnBufIdentifier", fn := fun _ => fun
  | [d1, d2] => { results := [.lit (.bool true)], args := [d1, d2] }
  | _ => none }
def fnBufIdentifierRow : OpenClaim := { program := "ytgoklibifdhbeaagreatdoor", sum := "ce304ba716c119041452c14a2b8d00a23957c4b8811cfbf23e5fc6377b0e8c51", func := "given.example/pub-brazing/laws.FnBufIdentifier", spec := "fnBufIdentifier", inPlace := ["math.Float64frombits", "math.archFloor", "math.Float64bits", "math.archTrunc"], unfollowed := true, recurses := true, named := ["unicode/utf8.first", "unicode/utf8.acceptRanges"], loops := true, apart := false, laid := [("unicode/utf8.acceptRanges", laid_unicode_utf8_acceptRanges), ("unicode/utf8.first", laid_unicode_utf8_first)] }
def FnBufIdentifierSaid : Prop := fnBufIdentifierRow.holds Tryz.pinned (OpenSpec.ofChange fnBufIdentifierSpec)

/-- ITS FALSE NEIGHBOUR: 'it returns false'. Refute it at one input. -/
def fnBufIdentifierWrong : ChangeSpec := { name := "fnBufIdentifier", fn := fun _ => fun
  | [d1, d2] => { results := [.lit (.bool false)], args := [d1, d2] }
  | _ => none }
def FnBufIdentifierWrongFalsely : Prop := fnBufIdentifierRow.holds Tryz.pinned (OpenSpec.ofChange fnBufIdentifierWrong)

/-- 'laws.FnBufUnsignedIntegerLiteral': WHATEVER THE INPUT: true; the input reads as it did. -/
def fnBufUnsignedIntegerLiteralSpec : ChangeSpec := { name := "fnBufUnsignedIntegerLiteral", fn := fun _ => fun
  | [d1, d2] => { results := [.lit (.bool true)], args := [d1, d2] }
  | _ => none }
def fnBufUnsignedIntegerLiteralRow : OpenClaim := { program := "ytgoklibifdhbeaagreatdoor", sum := "ce304ba716c119041452c14a2b8d00a23957c4b8811cfbf23e5fc6377b0e8c51", func := "given.example/pub-brazing/laws.FnBufUnsignedIntegerLiteral", spec := "fnBufUnsignedIntegerLiteral", inPlace := ["math.Float64frombits", "math.archFloor", "math.Float64bits", "math.archTrunc"], unfollowed := true, recurses := true, named := ["unicode/utf8.first", "unicode/utf8.acceptRanges"], loops := true, apart := false, laid := [("unicode/utf8.acceptRanges", laid_unicode_utf8_acceptRanges), ("unicode/utf8.first", laid_unicode_utf8_first)] }
def FnBufUnsignedIntegerLiteralSaid : Prop := fnBufUnsignedIntegerLiteralRow.holds Tryz.pinned (OpenSpec.ofChange fnBufUnsignedIntegerLiteralSpec)

/-- ITS FALSE NEIGHBOUR: 'it returns false'. Refute it at one input. -/
def fnBufUnsignedIntegerLiteralWrong : ChangeSpec := { name := "fnBufUnsignedIntegerLiteral", fn := fun _ => fun
  | [d1, d2] => { results := [.lit (.bool false)], args := [d1, d2] }
  | _ => none }
def FnBufUnsignedIntegerLiteralWrongFalsely : Prop := fnBufUnsignedIntegerLiteralRow.holds Tryz.pinned (OpenSpec.ofChange fnBufUnsignedIntegerLiteralWrong)

/-- 'laws.FnBufFloatLiteral': WHATEVER THE INPUT: true; the input reads as it did. -/
def fnBufFloatLiteralSpec : ChangeSpec := { name := "fnBufFloatLiteral", fn := fun _ => fun
  | [d1, d2] => { results := [.lit (.bool true)], args := [d1, d2] }
  | _ => none }
def fnBufFloatLiteralRow : OpenClaim := { program := "ytgoklibifdhbeaagreatdoor", sum := "ce304ba716c119041452c14a2b8d00a23957c4b8811cfbf23e5fc6377b0e8c51", func := "given.example/pub-brazing/laws.FnBufFloatLiteral", spec := "fnBufFloatLiteral", inPlace := ["math.Float64frombits", "math.archFloor", "math.Float64bits", "math.archTrunc"], unfollowed := true, recurses := true, named := ["unicode/utf8.first", "unicode/utf8.acceptRanges"], loops := true, apart := false, laid := [("unicode/utf8.acceptRanges", laid_unicode_utf8_acceptRanges), ("unicode/utf8.first", laid_unicode_utf8_first)] }
def FnBufFloatLiteralSaid : Prop := fnBufFloatLiteralRow.holds Tryz.pinned (OpenSpec.ofChange fnBufFloatLiteralSpec)

/-- ITS FALSE NEIGHBOUR: 'it returns false'. Refute it at one input. -/
def fnBufFloatLiteralWrong : ChangeSpec := { name := "fnBufFloatLiteral", fn := fun _ => fun
  | [d1, d2] => { results := [.lit (.bool false)], args := [d1, d2] }
  | _ => none }
def FnBufFloatLiteralWrongFalsely : Prop := fnBufFloatLiteralRow.holds Tryz.pinned (OpenSpec.ofChange fnBufFloatLiteralWrong)

/- THE SECOND FORM. 'bulk': how many values and letters a reading holds, each counted each time it is reached (what is shared counts as often as it is met; a slice's spare places count too). A statement '..UptoSaid' is the law's where the arguments, and the package variables that the reading takes, are together of bulk at most 1048576: NARROWER than '..Said'. Prove '..Said' where nothing that the law and all that it calls make is longer than what came in: it says more and counts as full. Else prove '..UptoSaid'. A law counts once. -/
mutual
def uptoBulk {H : Type} : DataW H → Nat
  | .lit (.string bytes) => bytes.length + 1
  | .lit _ => 1
  | .nil => 1
  | .ptr d => uptoBulk d + 1
  | .slice elems spare => uptoBulkAll elems + uptoBulkAll spare + 1
  | .agg parts => uptoBulkAll parts + 1
  | .iface _ d => uptoBulk d + 1
  | .map entries => uptoBulkEntries entries + 1
  | .held _ => 1
def uptoBulkAll {H : Type} : List (DataW H) → Nat
  | [] => 0
  | d :: r => uptoBulk d + uptoBulkAll r
def uptoBulkEntries {H : Type} : List (Lit × DataW H) → Nat
  | [] => 0
  | x :: r => uptoBulkEntry x + uptoBulkEntries r
def uptoBulkEntry {H : Type} : Lit × DataW H → Nat
  | (.string bytes, d) => bytes.length + uptoBulk d + 1
  | (_, d) => uptoBulk d + 1
 end
def uptoSmall : (H : Type) → List (DataW H) → Bool := fun _ ds => decide (uptoBulkAll ds ≤ 1048576)
def OpenSpec.upto (s : _root_.Go.ChangeSpec) : _root_.Go.OpenSpec := { _root_.Go.OpenSpec.ofChange s with cond := some uptoSmall }

/-- 'laws.FnBufBadStatement', WHERE WHAT IT READS IS OF BULK AT MOST 1048576: true; the input reads as it did. -/
def fnBufBadStatementUptoRow : OpenClaim := { program := "ytgoklibifdhbeaagreatdoor", sum := "ce304ba716c119041452c14a2b8d00a23957c4b8811cfbf23e5fc6377b0e8c51", func := "given.example/pub-brazing/laws.FnBufBadStatement", spec := "fnBufBadStatement", inPlace := ["math.Float64frombits", "math.archFloor", "math.Float64bits", "math.archTrunc"], unfollowed := true, recurses := true, named := ["unicode/utf8.first", "unicode/utf8.acceptRanges"], loops := true, apart := false, laid := [("unicode/utf8.acceptRanges", laid_unicode_utf8_acceptRanges), ("unicode/utf8.first", laid_unicode_utf8_first)], narrowed := true }
def FnBufBadStatementUptoSaid : Prop := fnBufBadStatementUptoRow.holds Tryz.pinned (OpenSpec.upto fnBufBadStatementSpec)

/-- 'laws.FnBufStringLiteral', WHERE WHAT IT READS IS OF BULK AT MOST 1048576: true; the input reads as it did. -/
def fnBufStringLiteralUptoRow : OpenClaim := { program := "ytgoklibifdhbeaagreatdoor", sum := "ce304ba716c119041452c14a2b8d00a23957c4b8811cfbf23e5fc6377b0e8c51", func := "given.example/pub-brazing/laws.FnBufStringLiteral", spec := "fnBufStringLiteral", inPlace := ["math.Float64frombits", "math.archFloor", "math.Float64bits", "math.archTrunc"], unfollowed := true, recurses := true, named := ["unicode/utf8.first", "unicode/utf8.acceptRanges"], loops := true, apart := false, laid := [("unicode/utf8.acceptRanges", laid_unicode_utf8_acceptRanges), ("unicode/utf8.first", laid_unicode_utf8_first)], narrowed := true }
def FnBufStringLiteralUptoSaid : Prop := fnBufStringLiteralUptoRow.holds Tryz.pinned (OpenSpec.upto fnBufStringLiteralSpec)

/-- 'laws.FnBufIdentifier', WHERE WHAT IT READS IS OF BULK AT MOST 1048576: true; the input reads as it did. -/
def fnBufIdentifierUptoRow : OpenClaim := { program := "ytgoklibifdhbeaagreatdoor", sum := "ce304ba716c119041452c14a2b8d00a23957c4b8811cfbf23e5fc6377b0e8c51", func := "given.example/pub-brazing/laws.FnBufIdentifier", spec := "fnBufIdentifier", inPlace := ["math.Float64frombits", "math.archFloor", "math.Float64bits", "math.archTrunc"], unfollowed := true, recurses := true, named := ["unicode/utf8.first", "unicode/utf8.acceptRanges"], loops := true, apart := false, laid := [("unicode/utf8.acceptRanges", laid_unicode_utf8_acceptRanges), ("unicode/utf8.first", laid_unicode_utf8_first)], narrowed := true }
def FnBufIdentifierUptoSaid : Prop := fnBufIdentifierUptoRow.holds Tryz.pinned (OpenSpec.upto fnBufIdentifierSpec)

/-- 'laws.FnBufUnsignedIntegerLiteral', WHERE WHAT IT READS IS OF BULK AT MOST 1048576: true; the input reads as it did. -/
def fnBufUnsignedIntegerLiteralUptoRow : OpenClaim := { program := "ytgoklibifdhbeaagreatdoor", sum := "ce304ba716c119041452c14a2b8d00a23957c4b8811cfbf23e5fc6377b0e8c51", func := "given.example/pub-brazing/laws.FnBufUnsignedIntegerLiteral", spec := "fnBufUnsignedIntegerLiteral", inPlace := ["math.Float64frombits", "math.archFloor", "math.Float64bits", "math.archTrunc"], unfollowed := true, recurses := true, named := ["unicode/utf8.first", "unicode/utf8.acceptRanges"], loops := true, apart := false, laid := [("unicode/utf8.acceptRanges", laid_unicode_utf8_acceptRanges), ("unicode/utf8.first", laid_unicode_utf8_first)], narrowed := true }
def FnBufUnsignedIntegerLiteralUptoSaid : Prop := fnBufUnsignedIntegerLiteralUptoRow.holds Tryz.pinned (OpenSpec.upto fnBufUnsignedIntegerLiteralSpec)

/-- 'laws.FnBufFloatLiteral', WHERE WHAT IT READS IS OF BULK AT MOST 1048576: true; the input reads as it did. -/
def fnBufFloatLiteralUptoRow : OpenClaim := { program := "ytgoklibifdhbeaagreatdoor", sum := "ce304ba716c119041452c14a2b8d00a23957c4b8811cfbf23e5fc6377b0e8c51", func := "given.example/pub-brazing/laws.FnBufFloatLiteral", spec := "fnBufFloatLiteral", inPlace := ["math.Float64frombits", "math.archFloor", "math.Float64bits", "math.archTrunc"], unfollowed := true, recurses := true, named := ["unicode/utf8.first", "unicode/utf8.acceptRanges"], loops := true, apart := false, laid := [("unicode/utf8.acceptRanges", laid_unicode_utf8_acceptRanges), ("unicode/utf8.first", laid_unicode_utf8_first)], narrowed := true }
def FnBufFloatLiteralUptoSaid : Prop := fnBufFloatLiteralUptoRow.holds Tryz.pinned (OpenSpec.upto fnBufFloatLiteralSpec)

end Rows
end Go.Proofs.YtgoklibifdhbeaaGreatDoor
