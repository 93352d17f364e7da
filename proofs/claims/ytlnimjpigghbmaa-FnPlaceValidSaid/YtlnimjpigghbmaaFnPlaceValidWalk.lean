/- The law FnPlaceValid: the struct argument opened, and the walk of the law out of the printed contract. -/
import Derived.Test.YtlnimjpigghbmaaRows
import Derived.Test.YtlnimjpigghbmaaPFnPlaceValidx1
import Derived.Lib.SmallJoins
import Derived.ProofKit
namespace Go.Proofs.Ytlnimjpigghbmaa
open Go.ChangeShapes Go.WideShapes Go.ChangeAt Go.RowKit Go.Joins

theorem placeValid_pure (a b : Int) : PFnPlaceValid.laws_FnPlaceValid.f a b = some true := by
  simp only [PFnPlaceValid.laws_FnPlaceValid.f, PFnPlaceValid.impl_PlaceValid.f, PFnPlaceValid.impl_place.f, PFnPlaceValid.ast_Position_IsValid.f]
  by_cases ha : a > 0 <;> by_cases hb : b > 0 <;> simp [ha, hb]

theorem cells23 : Try.prog.cellsOf 23 = 2 := by kernel_rfl

theorem placeValid_walk {H : Type} {enc : TypeId × Value → H} (W : World) (v : Value) (d : DataW H) (p : List MemPlace) (hv : Value.okWide Try.prog W .any 0 23 v)
    (h : DataW.Trod enc Try.prog W 0 (fun _ => true) true 23 v d p) {ds : List (DataW H)} (_ : (DataW.weightsEach Try.prog ([23] ++ Rows.fnPlaceValidSpec.plain.varTypes Try.prog) ds).all (· ≤ reachBytes) = true) :
    Calls Try.prog 3 #[v] W fun e W' => e = .returned (.bool true) ∧ Below W.heap.size W W' := by
  obtain ⟨c0, c1, y0, y1, m, rfl, rfl, rfl, hy0, hy1⟩ := open_agg2 Try.underlying23 (by kernel_rfl) cells23 hv h
  obtain ⟨a, e0, rfl, wa⟩ := DataW.trod_int Try.underlying3 hy0
  obtain ⟨b, e1, rfl, wb⟩ := DataW.trod_int Try.underlying3 hy1
  simp at e0 e1
  subst e0 e1
  exact PFnPlaceValid.laws_FnPlaceValid.calls a b true W (placeValid_pure a b)

end Go.Proofs.Ytlnimjpigghbmaa
