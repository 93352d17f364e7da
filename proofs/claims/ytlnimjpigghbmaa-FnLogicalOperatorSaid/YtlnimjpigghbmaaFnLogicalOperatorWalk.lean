/- The law FnLogicalOperator: the walks of MarshalText and LogicalText at the two operators, and of the law. -/
import Derived.Test.YtlnimjpigghbmaaRows
import Derived.Test.YtlnimjpigghbmaaPFnLogicalOperatorx1
import Derived.Laws.IdiomStrings
import Derived.Lib.Hide
import Derived.Outline
import Derived.ProofKit
import Derived.BigCall
import Derived.Deep.QuietTactic
import Derived.BigQuiet
namespace Go.Proofs.Ytlnimjpigghbmaa
open Go.RowKit Go.Proofs.YtlnimjpigghbmaaW.PrintWords Go.Proofs.YtlnimjpigghbmaaW.PrintLast
open Go PFnLogicalOperator

theorem below_drawn {B : Nat} {w w' : World} (h : Below B w w') (n : Nat) : Below B w (w'.drewN n) := h.trans ⟨rfl, rfl, rfl, Nat.le_refl _, fun _ _ => rfl⟩

set_option maxHeartbeats 2000000 in
set_option maxRecDepth 100000 in
theorem marshal_any (o : Int) (s : ByteArray) (h : ast_logicalToken.f o = some s) (hs : s.toList.isEmpty = false) (w : World) :
    Calls Try.prog 19 #[.int .i64 o] w fun e w' => ∃ n, e = .returned (.tuple #[.slice (some ⟨w.heap.size, 0, none⟩) s.size (grownCap (w.drewN n) s.size 0 5), .nilIface]) ∧ Lib.bytesWorld (w.drewN n) 5 s = w' := by
  have hA := Aside0.mk h
  clear h
  have kb := fun W => print_bytes (P := Try.prog) 9 46 5 Try.underlying9 Try.underlying46 Try.underlying5 s W
  go_enter Try.func19, Try.ntmps19
  go_wp2_with (go_at_call 26; refine (ast_logicalToken.calls o s _ hA.out).mono ?_; rintro e w1 ⟨rfl, ⟨n, rfl⟩⟩)
  refine bodyPost_ret (v := .tuple #[.slice (some ⟨w.heap.size, 0, none⟩) s.size (grownCap (w.drewN n) s.size 0 5), .nilIface]) (by simp [results, Try.results19, go_sem]) rfl ⟨n, rfl, rfl⟩

set_option maxHeartbeats 2000000 in
set_option maxRecDepth 100000 in
theorem text_any (o : Int) (s : ByteArray) (h : ast_logicalToken.f o = some s) (hs : s.toList.isEmpty = false) (w : World) :
    Calls Try.prog 9 #[.int .i64 o] w fun e w' => e = .returned (.tuple #[.string s, .bool true]) ∧ Below w.heap.size w w' := by
  have hcv : ∀ n m cap, (convert 46 9 (.slice (some ⟨w.heap.size, 0, none⟩) s.size cap)).run Try.prog ((Lib.bytesWorld (w.drewN n) 5 s).drewN m) = .ok (.string s) ((Lib.bytesWorld (w.drewN n) 5 s).drewN m) := fun n m cap => by
    have h := run_convert_bytes_back (P := Try.prog) ((Lib.bytesWorld (w.drewN n) 5 s).drewN m) 46 9 5 ⟨w.heap.size, 0, none⟩ cap s.data.toList Try.underlying46 Try.underlying5 Try.underlying9 (fun j hj => by
      rw [add_plain]
      have hc := Lib.bytesWorld_cell (w.drewN n) 5 s j (by simpa using hj)
      rw [show s.data.toList.getD j 0 = s.data.toList[j] by simp [List.getD_eq_getElem?_getD, List.getElem?_eq_getElem hj]] at hc
      exact hc)
    have e : s.data.toList.length = s.size := by simp
    rw [e] at h
    exact h
  have hA := Aside0.mk h
  clear h
  go_enter Try.func9, Try.ntmps9
  go_wp2_with (go_at_call 19; refine (marshal_any o s hA.out hs _).mono ?_; rintro e w1 ⟨n, rfl, rfl⟩)
  go_quiet (fail)
  go_wp2
  go_ret2
  exact ⟨rfl, below_drawn (bytes_below (below_drawn (Below.refl _ w) n) (Nat.le_refl _) 5 s) nq⟩

theorem look_and : impl_LogicalOperator.f 5 ⟨#[97, 110, 100]⟩ = some (1, ⟨#[97, 110, 100]⟩) := by decide +kernel
theorem look_or : impl_LogicalOperator.f 5 ⟨#[111, 114]⟩ = some (2, ⟨#[111, 114]⟩) := by decide +kernel
theorem token_and : ast_logicalToken.f 1 = some ⟨#[97, 110, 100]⟩ := by decide +kernel
theorem token_or : ast_logicalToken.f 2 = some ⟨#[111, 114]⟩ := by decide +kernel

set_option maxHeartbeats 2000000 in
set_option maxRecDepth 100000 in
theorem logicalOperator_walk (W : World) (b : Bool) :
    Calls Try.prog 4 #[.bool b] W fun e W' => e = .returned (.bool true) ∧ Below W.heap.size W W' := by
  cases b with
  | false =>
    go_enter Try.func4, Try.ntmps4
    go_wp2_with fail
    refine (impl_LogicalOperator.calls 5 ⟨#[97, 110, 100]⟩ 1 ⟨#[97, 110, 100]⟩ _ look_and).mono ?_
    rintro e w1 ⟨rfl, ⟨n, rfl⟩⟩
    go_wp2_with fail
    refine (impl_LogicalOperator.calls 5 ⟨#[111, 114]⟩ 2 ⟨#[111, 114]⟩ _ look_or).mono ?_
    rintro e w1 ⟨rfl, ⟨m, rfl⟩⟩
    go_wp2_with fail
    refine (text_any 1 ⟨#[97, 110, 100]⟩ token_and (by decide +kernel) _).mono ?_
    rintro e w1 ⟨rfl, hb⟩
    go_wp2
    go_ret
    exact ⟨rfl, (below_drawn (Below.refl _ W) (n + m)).trans hb⟩
  | true =>
    go_enter Try.func4, Try.ntmps4
    go_wp2_with fail
    refine (impl_LogicalOperator.calls 5 ⟨#[111, 114]⟩ 2 ⟨#[111, 114]⟩ _ look_or).mono ?_
    rintro e w1 ⟨rfl, ⟨n, rfl⟩⟩
    go_wp2_with fail
    refine (impl_LogicalOperator.calls 5 ⟨#[97, 110, 100]⟩ 1 ⟨#[97, 110, 100]⟩ _ look_and).mono ?_
    rintro e w1 ⟨rfl, ⟨m, rfl⟩⟩
    go_wp2_with fail
    refine (text_any 2 ⟨#[111, 114]⟩ token_or (by decide +kernel) _).mono ?_
    rintro e w1 ⟨rfl, hb⟩
    go_wp2
    go_ret
    exact ⟨rfl, (below_drawn (Below.refl _ W) (n + m)).trans hb⟩

end Go.Proofs.Ytlnimjpigghbmaa
