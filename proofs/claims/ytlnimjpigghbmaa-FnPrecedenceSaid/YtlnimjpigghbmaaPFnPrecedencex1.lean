-- PRINTED BY print.sh 35421559b90ae4d0a3588c463048766b98c2df88dd9212a6774a882060cdf62d: not written by this session
import Derived.Test.YtlnimjpigghbmaaPFnPrecedencex0
namespace Go.Proofs.Ytlnimjpigghbmaa.PFnPrecedence
open Go.RowKit Go.Proofs.YtlnimjpigghbmaaW.PrintWords Go.Proofs.YtlnimjpigghbmaaW.PrintLast Go.Proofs.YtlnimjpigghbmaaW.PrintMore
attribute [local go_sem] max2_int min2_int max_two min_two max_three min_three max_four min_four   -- for this text's walks alone
set_option linter.unusedVariables false
set_option linter.unusedSimpArgs false

/-! ### ast_getIntForOp: function 34 -/
def ast_getIntForOp.f (a0 : Int) : Option (Int) := some (wrap64 (a0 + 100))
set_option maxHeartbeats 8000000 in
set_option maxRecDepth 100000 in
theorem ast_getIntForOp.calls (a0 : Int) (r : Int) (w : World) (h : ast_getIntForOp.f a0 = some r) :
    Calls Try.prog 34 #[.int .i64 a0] w fun e w' => e = .returned (.int .i64 r) ∧ Drawn0 w w' := by
  have H : (some (wrap64 (a0 + 100))) = some r := h
  clear h
  obtain rfl := Option.some.inj H
  go_enter Try.func34, Try.ntmps34
  go_wp2
  go_ret
  exact ⟨by first | rfl | (simp; done) | (simp [*]; done), by repeat (first | exact Drawn0.refl _ | apply Drawn0.step)⟩

/-! ### ast_getIntForLOp: function 37 -/
def ast_getIntForLOp.f (a0 : Int) : Option (Int) := some (wrap64 (a0 + 1000))
set_option maxHeartbeats 8000000 in
set_option maxRecDepth 100000 in
theorem ast_getIntForLOp.calls (a0 : Int) (r : Int) (w : World) (h : ast_getIntForLOp.f a0 = some r) :
    Calls Try.prog 37 #[.int .i64 a0] w fun e w' => e = .returned (.int .i64 r) ∧ Drawn0 w w' := by
  have H : (some (wrap64 (a0 + 1000))) = some r := h
  clear h
  obtain rfl := Option.some.inj H
  go_enter Try.func37, Try.ntmps37
  go_wp2
  go_ret
  exact ⟨by first | rfl | (simp; done) | (simp [*]; done), by repeat (first | exact Drawn0.refl _ | apply Drawn0.step)⟩

end Go.Proofs.Ytlnimjpigghbmaa.PFnPrecedence
