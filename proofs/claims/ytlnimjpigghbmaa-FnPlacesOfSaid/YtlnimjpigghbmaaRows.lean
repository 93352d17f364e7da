/-
  No cell of these rows narrows 'for every input' (looked for: loops, veiled, ifaces, maps, wideKeys, modest, calm, conditions, laid).
  DERIVED. THE GIVEN ROWS OF THIS SEAT. 4 by the template 'for every input the law returns true; each argument reads behind the call as it read before'; 0 by the template 'total and deterministic' (their statements: YtlnimjpigghbmaaTotals.lean).
  GIVEN WITH THE SEED: the statements are not yours to turn. If you find one false, say at which input.
  Laid BY PROGRAM, IN A SANDBOX (cutbox-rows.mjs): the forced cells as the released guide's own fill.sh prints them over the translation 7ed47214d4ed9677… (all of the seat's roots in one cut). By AI agents, Wed Nov 11 2026. No macro, syntax, notation, axiom, sorry.
-/
import Derived.Test.YtlnimjpigghbmaaChecked
import GoSem.Claim
import GoSem.ClaimJoined
import GoSem.ClaimMapViews
import Derived.JoinedTies
import Derived.KernelRfl
namespace Go.Proofs.Ytlnimjpigghbmaa
/- THE CELL 'sum', in the pinned program and in every row, IS THE sha256 OF THE DUMP (.gsa) THAT YtlnimjpigghbmaaProg.lean LOADS. Nothing in Lean hashes anything: it is a label: what it is worth is what the hold of that sum in a sandbox is worth. -/
noncomputable def Try.pinned : Pinned := { name := "ytlnimjpigghbmaa", sum := "7ed47214d4ed9677e52ef334c49eac1e190c3493382ecf13e8136fa2760af82d", checked := Try.checked }
namespace Rows
def none {H : Type} : Left H := { results := [], args := [] }

/-- 'laws.FnPlaceValid': WHATEVER THE INPUT: true; the input reads as it did. -/
def fnPlaceValidSpec : ChangeSpec := { name := "fnPlaceValid", fn := fun _ => fun
  | [d] => { results := [.lit (.bool true)], args := [d] }
  | _ => none }
def fnPlaceValidRow : OpenClaim := { program := "ytlnimjpigghbmaa", sum := "7ed47214d4ed9677e52ef334c49eac1e190c3493382ecf13e8136fa2760af82d", func := "given.example/pub-brazing/laws.FnPlaceValid", spec := "fnPlaceValid", apart := false }
def FnPlaceValidSaid : Prop := fnPlaceValidRow.holds Try.pinned (OpenSpec.ofChange fnPlaceValidSpec)

/-- ITS FALSE NEIGHBOUR: 'it returns false'. Refute it at one input. -/
def fnPlaceValidWrong : ChangeSpec := { name := "fnPlaceValid", fn := fun _ => fun
  | [d] => { results := [.lit (.bool false)], args := [d] }
  | _ => none }
def FnPlaceValidWrongFalsely : Prop := fnPlaceValidRow.holds Try.pinned (OpenSpec.ofChange fnPlaceValidWrong)

/-- 'laws.FnLogicalOperator': WHATEVER THE INPUT: true; the input reads as it did. -/
def fnLogicalOperatorSpec : ChangeSpec := { name := "fnLogicalOperator", fn := fun _ => fun
  | [d] => { results := [.lit (.bool true)], args := [d] }
  | _ => none }
def fnLogicalOperatorRow : OpenClaim := { program := "ytlnimjpigghbmaa", sum := "7ed47214d4ed9677e52ef334c49eac1e190c3493382ecf13e8136fa2760af82d", func := "given.example/pub-brazing/laws.FnLogicalOperator", spec := "fnLogicalOperator", apart := false }
def FnLogicalOperatorSaid : Prop := fnLogicalOperatorRow.holds Try.pinned (OpenSpec.ofChange fnLogicalOperatorSpec)

/-- ITS FALSE NEIGHBOUR: 'it returns false'. Refute it at one input. -/
def fnLogicalOperatorWrong : ChangeSpec := { name := "fnLogicalOperator", fn := fun _ => fun
  | [d] => { results := [.lit (.bool false)], args := [d] }
  | _ => none }
def FnLogicalOperatorWrongFalsely : Prop := fnLogicalOperatorRow.holds Try.pinned (OpenSpec.ofChange fnLogicalOperatorWrong)

/-- 'laws.FnPlacesOf': WHATEVER THE INPUT: true; the input reads as it did. -/
def fnPlacesOfSpec : ChangeSpec := { name := "fnPlacesOf", fn := fun _ => fun
  | [d1, d2] => { results := [.lit (.bool true)], args := [d1, d2] }
  | _ => none }
def fnPlacesOfRow : OpenClaim := { program := "ytlnimjpigghbmaa", sum := "7ed47214d4ed9677e52ef334c49eac1e190c3493382ecf13e8136fa2760af82d", func := "given.example/pub-brazing/laws.FnPlacesOf", spec := "fnPlacesOf", apart := false }
def FnPlacesOfSaid : Prop := fnPlacesOfRow.holds Try.pinned (OpenSpec.ofChange fnPlacesOfSpec)

/-- ITS FALSE NEIGHBOUR: 'it returns false'. Refute it at one input. -/
def fnPlacesOfWrong : ChangeSpec := { name := "fnPlacesOf", fn := fun _ => fun
  | [d1, d2] => { results := [.lit (.bool false)], args := [d1, d2] }
  | _ => none }
def FnPlacesOfWrongFalsely : Prop := fnPlacesOfRow.holds Try.pinned (OpenSpec.ofChange fnPlacesOfWrong)

/-- 'laws.FnPrecedence': WHATEVER THE INPUT: true; the input reads as it did. -/
def fnPrecedenceSpec : ChangeSpec := { name := "fnPrecedence", fn := fun _ => fun
  | [d1, d2] => { results := [.lit (.bool true)], args := [d1, d2] }
  | _ => none }
def fnPrecedenceRow : OpenClaim := { program := "ytlnimjpigghbmaa", sum := "7ed47214d4ed9677e52ef334c49eac1e190c3493382ecf13e8136fa2760af82d", func := "given.example/pub-brazing/laws.FnPrecedence", spec := "fnPrecedence", apart := false }
def FnPrecedenceSaid : Prop := fnPrecedenceRow.holds Try.pinned (OpenSpec.ofChange fnPrecedenceSpec)

/-- ITS FALSE NEIGHBOUR: 'it returns false'. Refute it at one input. -/
def fnPrecedenceWrong : ChangeSpec := { name := "fnPrecedence", fn := fun _ => fun
  | [d1, d2] => { results := [.lit (.bool false)], args := [d1, d2] }
  | _ => none }
def FnPrecedenceWrongFalsely : Prop := fnPrecedenceRow.holds Try.pinned (OpenSpec.ofChange fnPrecedenceWrong)

/- THE SECOND FORM. 'bulk': how many values and letters a reading holds, each counted each time it is reached (what is shared counts as often as it is met; a slice's spare places count too). A statement '..UptoSaid' is the law's where the arguments, and the package variables that the reading takes, are together of bulk at most 1048576: NARROWER than '..Said'. Prove '..Said' where nothing that the law and all that it calls make is longer than what came in: it says more and counts as full. Else prove '..UptoSaid'. A law counts once. -/
mutual
def uptoBulk {H : Type} : DataW H → Nat
  | .lit (.string bytes) => bytes.length + 1
  | .lit _ => 1
  | .nil => 1
  | .ptr d => uptoBulk d + 1
  | .slice elems spare => uptoBulkAll elems + uptoBulkAll spare + 1
  | .agg parts => uptoBulkAll parts + 1
  | .iface _ d => uptoBulk d + 1
  | .map entries => uptoBulkEntries entries + 1
  | .held _ => 1
def uptoBulkAll {H : Type} : List (DataW H) → Nat
  | [] => 0
  | d :: r => uptoBulk d + uptoBulkAll r
def uptoBulkEntries {H : Type} : List (Lit × DataW H) → Nat
  | [] => 0
  | x :: r => uptoBulkEntry x + uptoBulkEntries r
def uptoBulkEntry {H : Type} : Lit × DataW H → Nat
  | (.string bytes, d) => bytes.length + uptoBulk d + 1
  | (_, d) => uptoBulk d + 1
 end
def uptoSmall : (H : Type) → List (DataW H) → Bool := fun _ ds => decide (uptoBulkAll ds ≤ 1048576)
def OpenSpec.upto (s : _root_.Go.ChangeSpec) : _root_.Go.OpenSpec := { _root_.Go.OpenSpec.ofChange s with cond := some uptoSmall }

/-- 'laws.FnPlaceValid', WHERE WHAT IT READS IS OF BULK AT MOST 1048576: true; the input reads as it did. -/
def fnPlaceValidUptoRow : OpenClaim := { program := "ytlnimjpigghbmaa", sum := "7ed47214d4ed9677e52ef334c49eac1e190c3493382ecf13e8136fa2760af82d", func := "given.example/pub-brazing/laws.FnPlaceValid", spec := "fnPlaceValid", apart := false, narrowed := true }
def FnPlaceValidUptoSaid : Prop := fnPlaceValidUptoRow.holds Try.pinned (OpenSpec.upto fnPlaceValidSpec)

/-- 'laws.FnLogicalOperator', WHERE WHAT IT READS IS OF BULK AT MOST 1048576: true; the input reads as it did. -/
def fnLogicalOperatorUptoRow : OpenClaim := { program := "ytlnimjpigghbmaa", sum := "7ed47214d4ed9677e52ef334c49eac1e190c3493382ecf13e8136fa2760af82d", func := "given.example/pub-brazing/laws.FnLogicalOperator", spec := "fnLogicalOperator", apart := false, narrowed := true }
def FnLogicalOperatorUptoSaid : Prop := fnLogicalOperatorUptoRow.holds Try.pinned (OpenSpec.upto fnLogicalOperatorSpec)

/-- 'laws.FnPlacesOf', WHERE WHAT IT READS IS OF BULK AT MOST 1048576: true; the input reads as it did. -/
def fnPlacesOfUptoRow : OpenClaim := { program := "ytlnimjpigghbmaa", sum := "7ed47214d4ed9677e52ef334c49eac1e190c3493382ecf13e8136fa2760af82d", func := "given.example/pub-brazing/laws.FnPlacesOf", spec := "fnPlacesOf", apart := false, narrowed := true }
def FnPlacesOfUptoSaid : Prop := fnPlacesOfUptoRow.holds Try.pinned (OpenSpec.upto fnPlacesOfSpec)

/-- 'laws.FnPrecedence', WHERE WHAT IT READS IS OF BULK AT MOST 1048576: true; the input reads as it did. -/
def fnPrecedenceUptoRow : OpenClaim := { program := "ytlnimjpigghbmaa", sum := "7ed47214d4ed9677e52ef334c49eac1e190c3493382ecf13e8136fa2760af82d", func := "given.example/pub-brazing/laws.FnPrecedence", spec := "fnPrecedence", apart := false, narrowed := true }
def FnPrecedenceUptoSaid : Prop := fnPrecedenceUptoRow.holds Try.pinned (OpenSpec.upto fnPrecedenceSpec)

end Rows
end Go.Proofs.Ytlnimjpigghbmaa
