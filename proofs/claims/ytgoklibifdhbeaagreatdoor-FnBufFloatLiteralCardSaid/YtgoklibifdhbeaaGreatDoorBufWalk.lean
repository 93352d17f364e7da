/- The laws on buffers of leaves, from the rows' premises. -/
import Derived.Test.YtgoklibifdhbeaaGreatDoorBufLaw
import Derived.Test.YtgoklibifdhbeaaGreatDoorTree
import Derived.Lib.LaidTab
namespace Go.Proofs.YtgoklibifdhbeaaGreatDoor
open Go Go.RowKit Go.ChangeAt Go.WideShapes Go.ChangeShapes
set_option linter.unusedVariables false

set_option maxRecDepth 100000 in
theorem bufBadStatement_walk {H : Type} {enc : TypeId × Value → H} (W : World) (hL : laidMetH Tryz.prog Rows.fnBufBadStatementRow.laid W) (v0 : Value) (d0 : DataW H) (p0 : List MemPlace) (hv0 : Value.okWide Tryz.prog W .any 0 25 v0) (h0 : DataW.Trod enc Tryz.prog W 0 (fun _ => true) true 25 v0 d0 p0) (b : Bool) {hsz : Prop} (_ : hsz) :
    Calls Tryz.prog 3 #[v0, .bool b] W fun e W' => e = .returned (.bool true) ∧ Below W.heap.size W W' := by
  have hT : Lib.Utf8Tabs 1 2 W := utf_tabs (Lib.laidMet.reads hL (.tail _ (.head _))) (Lib.laidMet.reads hL (.head _))
  obtain ⟨t, ht⟩ := tree_arg hv0 h0
  exact lawBadStatement_any t v0 W.heap.size W ht (Nat.le_refl _) b hT

set_option maxRecDepth 100000 in
theorem bufIdentifier_walk {H : Type} {enc : TypeId × Value → H} (W : World) (hL : laidMetH Tryz.prog Rows.fnBufIdentifierRow.laid W) (v0 : Value) (d0 : DataW H) (p0 : List MemPlace) (hv0 : Value.okWide Tryz.prog W .any 0 25 v0) (h0 : DataW.Trod enc Tryz.prog W 0 (fun _ => true) true 25 v0 d0 p0) (b : Bool) {hsz : Prop} (_ : hsz) :
    Calls Tryz.prog 5 #[v0, .bool b] W fun e W' => e = .returned (.bool true) ∧ Below W.heap.size W W' := by
  have hT : Lib.Utf8Tabs 1 2 W := utf_tabs (Lib.laidMet.reads hL (.tail _ (.head _))) (Lib.laidMet.reads hL (.head _))
  obtain ⟨t, ht⟩ := tree_arg hv0 h0
  exact lawIdentifier_any t v0 W.heap.size W ht (Nat.le_refl _) b hT

set_option maxRecDepth 100000 in
theorem bufStringLiteral_walk {H : Type} {enc : TypeId × Value → H} (W : World) (hL : laidMetH Tryz.prog Rows.fnBufStringLiteralRow.laid W) (v0 : Value) (d0 : DataW H) (p0 : List MemPlace) (hv0 : Value.okWide Tryz.prog W .any 0 25 v0) (h0 : DataW.Trod enc Tryz.prog W 0 (fun _ => true) true 25 v0 d0 p0) (b : Bool) {hsz : Prop} (_ : hsz) :
    Calls Tryz.prog 4 #[v0, .bool b] W fun e W' => e = .returned (.bool true) ∧ Below W.heap.size W W' := by
  have hT : Lib.Utf8Tabs 1 2 W := utf_tabs (Lib.laidMet.reads hL (.tail _ (.head _))) (Lib.laidMet.reads hL (.head _))
  obtain ⟨t, ht⟩ := tree_arg hv0 h0
  exact lawStringLiteral_any t v0 W.heap.size W ht (Nat.le_refl _) b hT

set_option maxRecDepth 100000 in
theorem bufUnsignedIntegerLiteral_walk {H : Type} {enc : TypeId × Value → H} (W : World) (hL : laidMetH Tryz.prog Rows.fnBufUnsignedIntegerLiteralRow.laid W) (v0 : Value) (d0 : DataW H) (p0 : List MemPlace) (hv0 : Value.okWide Tryz.prog W .any 0 25 v0) (h0 : DataW.Trod enc Tryz.prog W 0 (fun _ => true) true 25 v0 d0 p0) (b : Bool) {hsz : Prop} (_ : hsz) :
    Calls Tryz.prog 6 #[v0, .bool b] W fun e W' => e = .returned (.bool true) ∧ Below W.heap.size W W' := by
  have hT : Lib.Utf8Tabs 1 2 W := utf_tabs (Lib.laidMet.reads hL (.tail _ (.head _))) (Lib.laidMet.reads hL (.head _))
  obtain ⟨t, ht⟩ := tree_arg hv0 h0
  exact lawUnsignedIntegerLiteral_any t v0 W.heap.size W ht (Nat.le_refl _) b hT

set_option maxRecDepth 100000 in
theorem bufFloatLiteral_walk {H : Type} {enc : TypeId × Value → H} (W : World) (hL : laidMetH Tryz.prog Rows.fnBufFloatLiteralRow.laid W) (v0 : Value) (d0 : DataW H) (p0 : List MemPlace) (hv0 : Value.okWide Tryz.prog W .any 0 25 v0) (h0 : DataW.Trod enc Tryz.prog W 0 (fun _ => true) true 25 v0 d0 p0) (b : Bool) {hsz : Prop} (_ : hsz) :
    Calls Tryz.prog 7 #[v0, .bool b] W fun e W' => e = .returned (.bool true) ∧ Below W.heap.size W W' := by
  have hT : Lib.Utf8Tabs 1 2 W := utf_tabs (Lib.laidMet.reads hL (.tail _ (.head _))) (Lib.laidMet.reads hL (.head _))
  obtain ⟨t, ht⟩ := tree_arg hv0 h0
  exact lawFloatLiteral_any t v0 W.heap.size W ht (Nat.le_refl _) b hT

end Go.Proofs.YtgoklibifdhbeaaGreatDoor
