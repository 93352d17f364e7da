-- PRINTED BY print.sh 35421559b90ae4d0a3588c463048766b98c2df88dd9212a6774a882060cdf62d: not written by this session
import Derived.Test.YtlnimjpigghbmaaPFnLogicalOperatorx0
namespace Go.Proofs.Ytlnimjpigghbmaa.PFnLogicalOperator
open Go.RowKit Go.Proofs.YtlnimjpigghbmaaW.PrintWords Go.Proofs.YtlnimjpigghbmaaW.PrintLast Go.Proofs.YtlnimjpigghbmaaW.PrintMore
attribute [local go_sem] max2_int min2_int max_two min_two max_three min_three max_four min_four   -- for this text's walks alone
set_option linter.unusedVariables false
set_option linter.unusedSimpArgs false

/-! ### ast_logicalToken: function 26 -/
def ast_logicalToken.f (a0 : Int) : Option (ByteArray) := if a0 = 1 then (some (⟨#[97, 110, 100]⟩ : ByteArray)) else (if a0 = 2 then (some (⟨#[111, 114]⟩ : ByteArray)) else (some (⟨#[]⟩ : ByteArray)))
set_option maxHeartbeats 8000000 in
set_option maxRecDepth 100000 in
theorem ast_logicalToken.calls (a0 : Int) (r : ByteArray) (w : World) (h : ast_logicalToken.f a0 = some r) :
    Calls Try.prog 26 #[.int .i64 a0] w fun e w' => e = .returned (.string r) ∧ Drawn0 w w' := by
  have H : (if a0 = 1 then (some (⟨#[97, 110, 100]⟩ : ByteArray)) else (if a0 = 2 then (some (⟨#[111, 114]⟩ : ByteArray)) else (some (⟨#[]⟩ : ByteArray)))) = some r := h
  clear h
  by_cases c2 : a0 = 1
  · rw [if_pos c2] at H
    have c2b0 : (a0 == 1) = true := beq_iff_eq.mpr c2
    have c2b1 : (a0 != 1) = false := bne_eq_false_iff_eq.mpr c2
    clear c2
    obtain rfl := Option.some.inj H
    go_enter Try.func26, Try.ntmps26
    go_wp2
    go_ret
    exact ⟨by first | rfl | (simp; done) | (simp [*]; done), by repeat (first | exact Drawn0.refl _ | apply Drawn0.step)⟩
  · rw [if_neg c2] at H
    have c2b0 : (a0 == 1) = false := beq_eq_false_iff_ne.mpr c2
    have c2b1 : (a0 != 1) = true := bne_iff_ne.mpr c2
    by_cases c3 : a0 = 2
    · rw [if_pos c3] at H
      have c3b0 : (a0 == 2) = true := beq_iff_eq.mpr c3
      have c3b1 : (a0 != 2) = false := bne_eq_false_iff_eq.mpr c3
      clear c3
      obtain rfl := Option.some.inj H
      go_enter Try.func26, Try.ntmps26
      go_wp2
      go_ret
      exact ⟨by first | rfl | (simp; done) | (simp [*]; done), by repeat (first | exact Drawn0.refl _ | apply Drawn0.step)⟩
    · rw [if_neg c3] at H
      have c3b0 : (a0 == 2) = false := beq_eq_false_iff_ne.mpr c3
      have c3b1 : (a0 != 2) = true := bne_iff_ne.mpr c3
      obtain rfl := Option.some.inj H
      go_enter Try.func26, Try.ntmps26
      go_wp2
      go_ret
      exact ⟨by first | rfl | (simp; done) | (simp [*]; done), by repeat (first | exact Drawn0.refl _ | apply Drawn0.step)⟩

/-! ### ast_logicalOf: function 25 -/
def ast_logicalOf.l0 : Nat → ByteArray → Int → Option (Int)
  | 0, _, _ => none
  | k + 1, x0, x3 => if x3 < 3 then ((ast_logicalToken.f x3).bind fun t101 => (if t101.toList = x0.toList then (some x3) else (ast_logicalOf.l0 k x0 (wrap64 (x3 + 1))))) else (some 0)
def ast_logicalOf.f (k : Nat) (a0 : ByteArray) : Option (Int) := ast_logicalOf.l0 k a0 1
theorem ast_logicalOf.mono_l : ∀ k, (∀ y0 y1, LeO (ast_logicalOf.l0 k y0 y1) (ast_logicalOf.l0 (k + 1) y0 y1))
  | 0 => fun _ _ r h => by simp [ast_logicalOf.l0] at h
  | k + 1 => by
    have ih0 := ast_logicalOf.mono_l k
    · intro y0 y1
      unfold ast_logicalOf.l0
      repeat' first
      | (with_reducible exact ih0 _ _)
      | (with_reducible exact LeO.refl _)
      | (with_reducible exact LeO.none _)
      | (with_reducible refine LeO.ite ?_ ?_)
      | (with_reducible refine LeO.bind ?_ (fun _ => ?_))
      | exact ih0 _ _
      | exact LeO.none _
      | refine LeO.ite ?_ ?_
      | refine LeO.bind ?_ (fun _ => ?_)
theorem ast_logicalOf.mono : ∀ a0 k, LeO (ast_logicalOf.f k a0) (ast_logicalOf.f (k + 1) a0) := by
  intro a0 k
  have ih0 := ast_logicalOf.mono_l k
  unfold ast_logicalOf.f
  repeat' first
      | (with_reducible exact ih0 _ _)
      | (with_reducible exact LeO.refl _)
      | (with_reducible exact LeO.none _)
      | (with_reducible refine LeO.ite ?_ ?_)
      | (with_reducible refine LeO.bind ?_ (fun _ => ?_))
      | exact ih0 _ _
      | exact LeO.none _
      | refine LeO.ite ?_ ?_
      | refine LeO.bind ?_ (fun _ => ?_)
set_option maxHeartbeats 8000000 in
set_option maxRecDepth 100000 in
theorem ast_logicalOf.calls (k : Nat) (a0 : ByteArray) (r : Int) (w : World) (h : ast_logicalOf.f k a0 = some r) :
    Calls Try.prog 25 #[.string a0] w fun e w' => e = .returned (.int .i64 r) ∧ Drawn0 w w' := by
  have H : (ast_logicalOf.l0 k a0 1) = some r := h
  clear h
  have H' := Aside0.mk H
  clear H
  go_enter Try.func25, Try.ntmps25
  go_wp2
  go_loopg [3] k (fun kq v3 w' => ∃ (x3_1 : Int), v3 = .int .i64 x3_1 ∧ Aside0 (ast_logicalOf.l0 kq a0 x3_1 = some r) ∧ Aside0 (kq ≤ k) ∧ Drawn0 w w')
  case atStart => exact ⟨(1), (by first | rfl | (simp; done) | (simp [*]; done)), H', ⟨Nat.le_refl _⟩, by repeat (first | exact Drawn0.refl _ | apply Drawn0.step)⟩
  case round =>
    clear H'
    obtain ⟨x3_1, rfl, HA, HK1, ⟨m1, rfl⟩⟩ := hrel
    cases gk with
    | zero => exact absurd HA.out (by simp [ast_logicalOf.l0])
    | succ k1 =>
      have H := HA.out
      clear HA
      simp only [ast_logicalOf.l0] at H
      by_cases c2 : x3_1 < 3
      · rw [if_pos c2] at H
        have c2b0 : decide (x3_1 < 3) = true := decide_eq_true c2
        clear c2
        replace H := Option.bind_eq_some_iff.mp H
        obtain ⟨t101, A30, H⟩ := H
        replace H : (if t101.toList = a0.toList then (some x3_1) else (ast_logicalOf.l0 k1 a0 (wrap64 (x3_1 + 1)))) = some r := H
        have A3 := Aside0.mk A30
        clear A30
        by_cases c4 : t101.toList = a0.toList
        · rw [if_pos c4] at H
          have c4b0 : (t101.toList == a0.toList) = true := beq_iff_eq.mpr c4
          have c4b1 : (t101.toList != a0.toList) = false := bne_eq_false_iff_eq.mpr c4
          clear c4
          obtain rfl := Option.some.inj H
          go_wp2_with (first | ((with_reducible refine gate_callee (f := 26) rfl ?_); refine goesL_ (some 9) rfl rfl Try.func26 (by kernel_rfl) rfl #[.int .i64 x3_1] rfl (by (try simp only [List.map_toArray, List.map_cons, List.map_nil]); first | done | rfl | (simp only [List.length_drop, List.length_take]; rfl)) ?_; (with_reducible refine (ast_logicalToken.calls x3_1 t101 _ A3.out).mono ?_); rintro e w' ⟨rfl, ⟨nd, rfl⟩⟩; refine ⟨_, rfl, ?_⟩))
          go_ret
          exact ⟨by first | rfl | (simp; done) | (simp [*]; done), by repeat (first | exact Drawn0.refl _ | apply Drawn0.step)⟩
        · rw [if_neg c4] at H
          have c4b0 : (t101.toList == a0.toList) = false := beq_eq_false_iff_ne.mpr c4
          have c4b1 : (t101.toList != a0.toList) = true := bne_iff_ne.mpr c4
          have H' := Aside0.mk H
          clear H
          go_wp2_with (first | ((with_reducible refine gate_callee (f := 26) rfl ?_); refine goesL_ (some 9) rfl rfl Try.func26 (by kernel_rfl) rfl #[.int .i64 x3_1] rfl (by (try simp only [List.map_toArray, List.map_cons, List.map_nil]); first | done | rfl | (simp only [List.length_drop, List.length_take]; rfl)) ?_; (with_reducible refine (ast_logicalToken.calls x3_1 t101 _ A3.out).mono ?_); rintro e w' ⟨rfl, ⟨nd, rfl⟩⟩; refine ⟨_, rfl, ?_⟩))
          go_roundg k1
          case measure => have := HK1.out; omega
          case rel => exact ⟨(wrap64 (x3_1 + 1)), (by first | rfl | (simp; done) | (simp [*]; done)), H', ⟨by have := HK1.out; omega⟩, by repeat (first | exact Drawn0.refl _ | apply Drawn0.step)⟩
      · rw [if_neg c2] at H
        have c2b0 : decide (x3_1 < 3) = false := decide_eq_false c2
        clear c2
        obtain rfl := Option.some.inj H
        go_wp2
        go_ret
        exact ⟨by first | rfl | (simp; done) | (simp [*]; done), by repeat (first | exact Drawn0.refl _ | apply Drawn0.step)⟩

/-! ### ast_LogicalOperatorLookup: function 17 -/
def ast_LogicalOperatorLookup.f (k : Nat) (a0 : ByteArray) : Option (Int) := (ast_logicalOf.f k a0).bind fun t102 => (some t102)
theorem ast_LogicalOperatorLookup.mono : ∀ a0 k, LeO (ast_LogicalOperatorLookup.f k a0) (ast_LogicalOperatorLookup.f (k + 1) a0) := by
  intro a0 k
  unfold ast_LogicalOperatorLookup.f
  repeat' first
      | (with_reducible exact ast_logicalOf.mono _ _)
      | (with_reducible exact LeO.refl _)
      | (with_reducible exact LeO.none _)
      | (with_reducible refine LeO.ite ?_ ?_)
      | (with_reducible refine LeO.bind ?_ (fun _ => ?_))
      | exact ast_logicalOf.mono _ _
      | exact LeO.none _
      | refine LeO.ite ?_ ?_
      | refine LeO.bind ?_ (fun _ => ?_)
set_option maxHeartbeats 8000000 in
set_option maxRecDepth 100000 in
theorem ast_LogicalOperatorLookup.calls (k : Nat) (a0 : ByteArray) (r : Int) (w : World) (h : ast_LogicalOperatorLookup.f k a0 = some r) :
    Calls Try.prog 17 #[.string a0] w fun e w' => e = .returned (.int .i64 r) ∧ Drawn0 w w' := by
  have H : ((ast_logicalOf.f k a0).bind fun t102 => (some t102)) = some r := h
  clear h
  replace H := Option.bind_eq_some_iff.mp H
  obtain ⟨t102, A20, H⟩ := H
  replace H : (some t102) = some r := H
  have A2 := Aside0.mk A20
  clear A20
  obtain rfl := Option.some.inj H
  go_enter Try.func17, Try.ntmps17
  go_wp2_with (first | ((with_reducible refine gate_callee (f := 25) rfl ?_); refine goesL_ (some 4) rfl rfl Try.func25 (by kernel_rfl) rfl #[.string a0] rfl (by (try simp only [List.map_toArray, List.map_cons, List.map_nil]); first | done | rfl | (simp only [List.length_drop, List.length_take]; rfl)) ?_; (with_reducible refine (ast_logicalOf.calls k a0 t102 _ A2.out).mono ?_); rintro e w' ⟨rfl, ⟨nd, rfl⟩⟩; refine ⟨_, rfl, ?_⟩))
  go_ret
  exact ⟨by first | rfl | (simp; done) | (simp [*]; done), by repeat (first | exact Drawn0.refl _ | apply Drawn0.step)⟩

/-! ### ast_LogicalOperatorKind_String: function 18 -/
def ast_LogicalOperatorKind_String.f (a0 : Int) : Option (ByteArray) := (ast_logicalToken.f a0).bind fun t103 => (some t103)
set_option maxHeartbeats 8000000 in
set_option maxRecDepth 100000 in
theorem ast_LogicalOperatorKind_String.calls (a0 : Int) (r : ByteArray) (w : World) (h : ast_LogicalOperatorKind_String.f a0 = some r) :
    Calls Try.prog 18 #[.int .i64 a0] w fun e w' => e = .returned (.string r) ∧ Drawn0 w w' := by
  have H : ((ast_logicalToken.f a0).bind fun t103 => (some t103)) = some r := h
  clear h
  replace H := Option.bind_eq_some_iff.mp H
  obtain ⟨t103, A20, H⟩ := H
  replace H : (some t103) = some r := H
  have A2 := Aside0.mk A20
  clear A20
  obtain rfl := Option.some.inj H
  go_enter Try.func18, Try.ntmps18
  go_wp2_with (first | ((with_reducible refine gate_callee (f := 26) rfl ?_); refine goesL_ (some 4) rfl rfl Try.func26 (by kernel_rfl) rfl #[.int .i64 a0] rfl (by (try simp only [List.map_toArray, List.map_cons, List.map_nil]); first | done | rfl | (simp only [List.length_drop, List.length_take]; rfl)) ?_; (with_reducible refine (ast_logicalToken.calls a0 t103 _ A2.out).mono ?_); rintro e w' ⟨rfl, ⟨nd, rfl⟩⟩; refine ⟨_, rfl, ?_⟩))
  go_ret
  exact ⟨by first | rfl | (simp; done) | (simp [*]; done), by repeat (first | exact Drawn0.refl _ | apply Drawn0.step)⟩

/-! ### impl_LogicalOperator: function 8 -/
def impl_LogicalOperator.f (k : Nat) (a0 : ByteArray) : Option (Int × ByteArray) := (ast_LogicalOperatorLookup.f k a0).bind fun t104 => ((ast_LogicalOperatorKind_String.f t104).bind fun t105 => (some (t104, t105)))
theorem impl_LogicalOperator.mono : ∀ a0 k, LeO (impl_LogicalOperator.f k a0) (impl_LogicalOperator.f (k + 1) a0) := by
  intro a0 k
  unfold impl_LogicalOperator.f
  repeat' first
      | (with_reducible exact ast_LogicalOperatorLookup.mono _ _)
      | (with_reducible exact LeO.refl _)
      | (with_reducible exact LeO.none _)
      | (with_reducible refine LeO.ite ?_ ?_)
      | (with_reducible refine LeO.bind ?_ (fun _ => ?_))
      | exact ast_LogicalOperatorLookup.mono _ _
      | exact LeO.none _
      | refine LeO.ite ?_ ?_
      | refine LeO.bind ?_ (fun _ => ?_)
set_option maxHeartbeats 8000000 in
set_option maxRecDepth 100000 in
theorem impl_LogicalOperator.calls (k : Nat) (a0 : ByteArray) (r1 : Int) (r2 : ByteArray) (w : World) (h : impl_LogicalOperator.f k a0 = some (r1, r2)) :
    Calls Try.prog 8 #[.string a0] w fun e w' => e = .returned (.tuple #[.int .i64 r1, .string r2]) ∧ Drawn0 w w' := by
  have H : ((ast_LogicalOperatorLookup.f k a0).bind fun t104 => ((ast_LogicalOperatorKind_String.f t104).bind fun t105 => (some (t104, t105)))) = some (r1, r2) := h
  clear h
  replace H := Option.bind_eq_some_iff.mp H
  obtain ⟨t104, A20, H⟩ := H
  replace H : ((ast_LogicalOperatorKind_String.f t104).bind fun t105 => (some (t104, t105))) = some (r1, r2) := H
  have A2 := Aside0.mk A20
  clear A20
  replace H := Option.bind_eq_some_iff.mp H
  obtain ⟨t105, A30, H⟩ := H
  replace H : (some (t104, t105)) = some (r1, r2) := H
  have A3 := Aside0.mk A30
  clear A30
  simp only [Option.some.injEq, Prod.mk.injEq] at H
  obtain ⟨rfl, rfl⟩ := H
  go_enter Try.func8, Try.ntmps8
  go_wp2_with (first | ((with_reducible refine gate_callee (f := 17) rfl ?_); refine goesL_ (some 6) rfl rfl Try.func17 (by kernel_rfl) rfl #[.string a0] rfl (by (try simp only [List.map_toArray, List.map_cons, List.map_nil]); first | done | rfl | (simp only [List.length_drop, List.length_take]; rfl)) ?_; (with_reducible refine (ast_LogicalOperatorLookup.calls k a0 t104 _ A2.out).mono ?_); rintro e w' ⟨rfl, ⟨nd, rfl⟩⟩; refine ⟨_, rfl, ?_⟩) | ((with_reducible refine gate_callee (f := 18) rfl ?_); refine goesL_ (some 9) rfl rfl Try.func18 (by kernel_rfl) rfl #[.int .i64 t104] rfl (by (try simp only [List.map_toArray, List.map_cons, List.map_nil]); first | done | rfl | (simp only [List.length_drop, List.length_take]; rfl)) ?_; (with_reducible refine (ast_LogicalOperatorKind_String.calls t104 t105 _ A3.out).mono ?_); rintro e w' ⟨rfl, ⟨nd, rfl⟩⟩; refine ⟨_, rfl, ?_⟩))
  go_ret2
  exact ⟨by first | rfl | (simp; done) | (simp [*]; done), by repeat (first | exact Drawn0.refl _ | apply Drawn0.step)⟩

-- NOT PRINTED: function 27 (errors_New)

-- NOT PRINTED: function 19 (ast_LogicalOperatorKind_MarshalText)

-- NOT PRINTED: function 9 (impl_LogicalText)

-- NOT PRINTED: function 4 (laws_FnLogicalOperator)

end Go.Proofs.Ytlnimjpigghbmaa.PFnLogicalOperator
