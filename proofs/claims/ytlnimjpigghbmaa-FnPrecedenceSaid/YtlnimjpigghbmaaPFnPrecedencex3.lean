-- PRINTED BY print.sh 35421559b90ae4d0a3588c463048766b98c2df88dd9212a6774a882060cdf62d: not written by this session
import Derived.Test.YtlnimjpigghbmaaPFnPrecedencex0
import Derived.Test.YtlnimjpigghbmaaPFnPrecedencex1
import Derived.Test.YtlnimjpigghbmaaPFnPrecedencex2
namespace Go.Proofs.Ytlnimjpigghbmaa.PFnPrecedence
open Go.RowKit Go.Proofs.YtlnimjpigghbmaaW.PrintWords Go.Proofs.YtlnimjpigghbmaaW.PrintLast Go.Proofs.YtlnimjpigghbmaaW.PrintMore
attribute [local go_sem] max2_int min2_int max_two min_two max_three min_three max_four min_four   -- for this text's walks alone
set_option linter.unusedVariables false
set_option linter.unusedSimpArgs false

/-! ### ast_getPrecedence: function 33 -/
def ast_getPrecedence.f (k : Nat) (a0 : Int) : Option (Int) := (ast_opPrecedence.f k a0).bind fun t123 => (some t123)
theorem ast_getPrecedence.mono : ∀ a0 k, LeO (ast_getPrecedence.f k a0) (ast_getPrecedence.f (k + 1) a0) := by
  intro a0 k
  unfold ast_getPrecedence.f
  repeat' first
      | (with_reducible exact ast_opPrecedence.mono _ _)
      | (with_reducible exact LeO.refl _)
      | (with_reducible exact LeO.none _)
      | (with_reducible refine LeO.ite ?_ ?_)
      | (with_reducible refine LeO.bind ?_ (fun _ => ?_))
      | exact ast_opPrecedence.mono _ _
      | exact LeO.none _
      | refine LeO.ite ?_ ?_
      | refine LeO.bind ?_ (fun _ => ?_)
set_option maxHeartbeats 8000000 in
set_option maxRecDepth 100000 in
theorem ast_getPrecedence.calls (k : Nat) (a0 : Int) (r : Int) (w : World) (h : ast_getPrecedence.f k a0 = some r) :
    Calls Try.prog 33 #[.int .i64 a0] w fun e w' => e = .returned (.int .i64 r) ∧ Drawn0 w w' := by
  have H : ((ast_opPrecedence.f k a0).bind fun t123 => (some t123)) = some r := h
  clear h
  replace H := Option.bind_eq_some_iff.mp H
  obtain ⟨t123, A20, H⟩ := H
  replace H : (some t123) = some r := H
  have A2 := Aside0.mk A20
  clear A20
  obtain rfl := Option.some.inj H
  go_enter Try.func33, Try.ntmps33
  go_wp2_with (first | ((with_reducible refine gate_callee (f := 36) rfl ?_); refine goesL_ (some 4) rfl rfl Try.func36 (by kernel_rfl) rfl #[.int .i64 a0] rfl (by (try simp only [List.map_toArray, List.map_cons, List.map_nil]); first | done | rfl | (simp only [List.length_drop, List.length_take]; rfl)) ?_; (with_reducible refine (ast_opPrecedence.calls k a0 t123 _ A2.out).mono ?_); rintro e w' ⟨rfl, ⟨nd, rfl⟩⟩; refine ⟨_, rfl, ?_⟩))
  go_ret
  exact ⟨by first | rfl | (simp; done) | (simp [*]; done), by repeat (first | exact Drawn0.refl _ | apply Drawn0.step)⟩

/-! ### ast_getPrecedenceForOp: function 31 -/
def ast_getPrecedenceForOp.f (k : Nat) (a0 : Int) : Option (Int) := (ast_getIntForOp.f a0).bind fun t124 => ((ast_getPrecedence.f k t124).bind fun t125 => (some t125))
theorem ast_getPrecedenceForOp.mono : ∀ a0 k, LeO (ast_getPrecedenceForOp.f k a0) (ast_getPrecedenceForOp.f (k + 1) a0) := by
  intro a0 k
  unfold ast_getPrecedenceForOp.f
  repeat' first
      | (with_reducible exact ast_getPrecedence.mono _ _)
      | (with_reducible exact LeO.refl _)
      | (with_reducible exact LeO.none _)
      | (with_reducible refine LeO.ite ?_ ?_)
      | (with_reducible refine LeO.bind ?_ (fun _ => ?_))
      | exact ast_getPrecedence.mono _ _
      | exact LeO.none _
      | refine LeO.ite ?_ ?_
      | refine LeO.bind ?_ (fun _ => ?_)
set_option maxHeartbeats 8000000 in
set_option maxRecDepth 100000 in
theorem ast_getPrecedenceForOp.calls (k : Nat) (a0 : Int) (r : Int) (w : World) (h : ast_getPrecedenceForOp.f k a0 = some r) :
    Calls Try.prog 31 #[.int .i64 a0] w fun e w' => e = .returned (.int .i64 r) ∧ Drawn0 w w' := by
  have H : ((ast_getIntForOp.f a0).bind fun t124 => ((ast_getPrecedence.f k t124).bind fun t125 => (some t125))) = some r := h
  clear h
  replace H := Option.bind_eq_some_iff.mp H
  obtain ⟨t124, A20, H⟩ := H
  replace H : ((ast_getPrecedence.f k t124).bind fun t125 => (some t125)) = some r := H
  have A2 := Aside0.mk A20
  clear A20
  replace H := Option.bind_eq_some_iff.mp H
  obtain ⟨t125, A30, H⟩ := H
  replace H : (some t125) = some r := H
  have A3 := Aside0.mk A30
  clear A30
  obtain rfl := Option.some.inj H
  go_enter Try.func31, Try.ntmps31
  go_wp2_with (first | ((with_reducible refine gate_callee (f := 34) rfl ?_); refine goesL_ (some 4) rfl rfl Try.func34 (by kernel_rfl) rfl #[.int .i64 a0] rfl (by (try simp only [List.map_toArray, List.map_cons, List.map_nil]); first | done | rfl | (simp only [List.length_drop, List.length_take]; rfl)) ?_; (with_reducible refine (ast_getIntForOp.calls a0 t124 _ A2.out).mono ?_); rintro e w' ⟨rfl, ⟨nd, rfl⟩⟩; refine ⟨_, rfl, ?_⟩) | ((with_reducible refine gate_callee (f := 33) rfl ?_); refine goesL_ (some 5) rfl rfl Try.func33 (by kernel_rfl) rfl #[.int .i64 t124] rfl (by (try simp only [List.map_toArray, List.map_cons, List.map_nil]); first | done | rfl | (simp only [List.length_drop, List.length_take]; rfl)) ?_; (with_reducible refine (ast_getPrecedence.calls k t124 t125 _ A3.out).mono ?_); rintro e w' ⟨rfl, ⟨nd, rfl⟩⟩; refine ⟨_, rfl, ?_⟩))
  go_ret
  exact ⟨by first | rfl | (simp; done) | (simp [*]; done), by repeat (first | exact Drawn0.refl _ | apply Drawn0.step)⟩

/-! ### ast_Precedence: function 23 -/
def ast_Precedence.f (k : Nat) (a0 : Int) : Option (Int) := (ast_getPrecedenceForOp.f k a0).bind fun t126 => (some t126)
theorem ast_Precedence.mono : ∀ a0 k, LeO (ast_Precedence.f k a0) (ast_Precedence.f (k + 1) a0) := by
  intro a0 k
  unfold ast_Precedence.f
  repeat' first
      | (with_reducible exact ast_getPrecedenceForOp.mono _ _)
      | (with_reducible exact LeO.refl _)
      | (with_reducible exact LeO.none _)
      | (with_reducible refine LeO.ite ?_ ?_)
      | (with_reducible refine LeO.bind ?_ (fun _ => ?_))
      | exact ast_getPrecedenceForOp.mono _ _
      | exact LeO.none _
      | refine LeO.ite ?_ ?_
      | refine LeO.bind ?_ (fun _ => ?_)
set_option maxHeartbeats 8000000 in
set_option maxRecDepth 100000 in
theorem ast_Precedence.calls (k : Nat) (a0 : Int) (r : Int) (w : World) (h : ast_Precedence.f k a0 = some r) :
    Calls Try.prog 23 #[.int .i64 a0] w fun e w' => e = .returned (.int .i64 r) ∧ Drawn0 w w' := by
  have H : ((ast_getPrecedenceForOp.f k a0).bind fun t126 => (some t126)) = some r := h
  clear h
  replace H := Option.bind_eq_some_iff.mp H
  obtain ⟨t126, A20, H⟩ := H
  replace H : (some t126) = some r := H
  have A2 := Aside0.mk A20
  clear A20
  obtain rfl := Option.some.inj H
  go_enter Try.func23, Try.ntmps23
  go_wp2_with (first | ((with_reducible refine gate_callee (f := 31) rfl ?_); refine goesL_ (some 4) rfl rfl Try.func31 (by kernel_rfl) rfl #[.int .i64 a0] rfl (by (try simp only [List.map_toArray, List.map_cons, List.map_nil]); first | done | rfl | (simp only [List.length_drop, List.length_take]; rfl)) ?_; (with_reducible refine (ast_getPrecedenceForOp.calls k a0 t126 _ A2.out).mono ?_); rintro e w' ⟨rfl, ⟨nd, rfl⟩⟩; refine ⟨_, rfl, ?_⟩))
  go_ret
  exact ⟨by first | rfl | (simp; done) | (simp [*]; done), by repeat (first | exact Drawn0.refl _ | apply Drawn0.step)⟩

/-! ### ast_operatorToken: function 35 -/
def ast_operatorToken.f (a0 : Int) : Option (ByteArray) := if a0 = 1 then (some (⟨#[42]⟩ : ByteArray)) else (if a0 = 2 then (some (⟨#[47]⟩ : ByteArray)) else (if a0 = 3 then (some (⟨#[37]⟩ : ByteArray)) else (if a0 = 4 then (some (⟨#[94]⟩ : ByteArray)) else (if a0 = 5 then (some (⟨#[43]⟩ : ByteArray)) else (if a0 = 6 then (some (⟨#[45]⟩ : ByteArray)) else (if a0 = 7 then (some (⟨#[60, 61]⟩ : ByteArray)) else (if a0 = 8 then (some (⟨#[60]⟩ : ByteArray)) else (if a0 = 10 then (some (⟨#[62]⟩ : ByteArray)) else (if a0 = 9 then (some (⟨#[62, 61]⟩ : ByteArray)) else (if a0 = 12 then (some (⟨#[105, 110]⟩ : ByteArray)) else (if a0 = 13 then (some (⟨#[110, 111, 116]⟩ : ByteArray)) else (if a0 = 14 then (some (⟨#[101, 120, 105, 115, 116, 115]⟩ : ByteArray)) else (if a0 = 15 then (some (⟨#[110, 111, 116, 32, 101, 109, 112, 116, 121]⟩ : ByteArray)) else (if a0 = 16 then (some (⟨#[101, 109, 112, 116, 121]⟩ : ByteArray)) else (if a0 = 11 then (some (⟨#[115, 116, 97, 114, 116, 115, 119, 105, 116, 104]⟩ : ByteArray)) else (if a0 = 17 then (some (⟨#[61, 61]⟩ : ByteArray)) else (if a0 = 18 then (some (⟨#[33, 61]⟩ : ByteArray)) else (if a0 = 19 then (some (⟨#[61, 126]⟩ : ByteArray)) else (if a0 = 20 then (some (⟨#[33, 126]⟩ : ByteArray)) else (some (⟨#[]⟩ : ByteArray)))))))))))))))))))))
set_option maxHeartbeats 8000000 in
set_option maxRecDepth 100000 in
theorem ast_operatorToken.calls (a0 : Int) (r : ByteArray) (w : World) (h : ast_operatorToken.f a0 = some r) :
    Calls Try.prog 35 #[.int .i64 a0] w fun e w' => e = .returned (.string r) ∧ Drawn0 w w' := by
  have H : (if a0 = 1 then (some (⟨#[42]⟩ : ByteArray)) else (if a0 = 2 then (some (⟨#[47]⟩ : ByteArray)) else (if a0 = 3 then (some (⟨#[37]⟩ : ByteArray)) else (if a0 = 4 then (some (⟨#[94]⟩ : ByteArray)) else (if a0 = 5 then (some (⟨#[43]⟩ : ByteArray)) else (if a0 = 6 then (some (⟨#[45]⟩ : ByteArray)) else (if a0 = 7 then (some (⟨#[60, 61]⟩ : ByteArray)) else (if a0 = 8 then (some (⟨#[60]⟩ : ByteArray)) else (if a0 = 10 then (some (⟨#[62]⟩ : ByteArray)) else (if a0 = 9 then (some (⟨#[62, 61]⟩ : ByteArray)) else (if a0 = 12 then (some (⟨#[105, 110]⟩ : ByteArray)) else (if a0 = 13 then (some (⟨#[110, 111, 116]⟩ : ByteArray)) else (if a0 = 14 then (some (⟨#[101, 120, 105, 115, 116, 115]⟩ : ByteArray)) else (if a0 = 15 then (some (⟨#[110, 111, 116, 32, 101, 109, 112, 116, 121]⟩ : ByteArray)) else (if a0 = 16 then (some (⟨#[101, 109, 112, 116, 121]⟩ : ByteArray)) else (if a0 = 11 then (some (⟨#[115, 116, 97, 114, 116, 115, 119, 105, 116, 104]⟩ : ByteArray)) else (if a0 = 17 then (some (⟨#[61, 61]⟩ : ByteArray)) else (if a0 = 18 then (some (⟨#[33, 61]⟩ : ByteArray)) else (if a0 = 19 then (some (⟨#[61, 126]⟩ : ByteArray)) else (if a0 = 20 then (some (⟨#[33, 126]⟩ : ByteArray)) else (some (⟨#[]⟩ : ByteArray)))))))))))))))))))))) = some r := h
  clear h
  by_cases c2 : a0 = 1
  · rw [if_pos c2] at H
    have c2b0 : (a0 == 1) = true := beq_iff_eq.mpr c2
    have c2b1 : (a0 != 1) = false := bne_eq_false_iff_eq.mpr c2
    clear c2
    obtain rfl := Option.some.inj H
    go_enter Try.func35, Try.ntmps35
    go_wp2
    go_ret
    exact ⟨by first | rfl | (simp; done) | (simp [*]; done), by repeat (first | exact Drawn0.refl _ | apply Drawn0.step)⟩
  · rw [if_neg c2] at H
    have c2b0 : (a0 == 1) = false := beq_eq_false_iff_ne.mpr c2
    have c2b1 : (a0 != 1) = true := bne_iff_ne.mpr c2
    by_cases c3 : a0 = 2
    · rw [if_pos c3] at H
      have c3b0 : (a0 == 2) = true := beq_iff_eq.mpr c3
      have c3b1 : (a0 != 2) = false := bne_eq_false_iff_eq.mpr c3
      clear c3
      obtain rfl := Option.some.inj H
      go_enter Try.func35, Try.ntmps35
      go_wp2
      go_ret
      exact ⟨by first | rfl | (simp; done) | (simp [*]; done), by repeat (first | exact Drawn0.refl _ | apply Drawn0.step)⟩
    · rw [if_neg c3] at H
      have c3b0 : (a0 == 2) = false := beq_eq_false_iff_ne.mpr c3
      have c3b1 : (a0 != 2) = true := bne_iff_ne.mpr c3
      by_cases c4 : a0 = 3
      · rw [if_pos c4] at H
        have c4b0 : (a0 == 3) = true := beq_iff_eq.mpr c4
        have c4b1 : (a0 != 3) = false := bne_eq_false_iff_eq.mpr c4
        clear c4
        obtain rfl := Option.some.inj H
        go_enter Try.func35, Try.ntmps35
        go_wp2
        go_ret
        exact ⟨by first | rfl | (simp; done) | (simp [*]; done), by repeat (first | exact Drawn0.refl _ | apply Drawn0.step)⟩
      · rw [if_neg c4] at H
        have c4b0 : (a0 == 3) = false := beq_eq_false_iff_ne.mpr c4
        have c4b1 : (a0 != 3) = true := bne_iff_ne.mpr c4
        by_cases c5 : a0 = 4
        · rw [if_pos c5] at H
          have c5b0 : (a0 == 4) = true := beq_iff_eq.mpr c5
          have c5b1 : (a0 != 4) = false := bne_eq_false_iff_eq.mpr c5
          clear c5
          obtain rfl := Option.some.inj H
          go_enter Try.func35, Try.ntmps35
          go_wp2
          go_ret
          exact ⟨by first | rfl | (simp; done) | (simp [*]; done), by repeat (first | exact Drawn0.refl _ | apply Drawn0.step)⟩
        · rw [if_neg c5] at H
          have c5b0 : (a0 == 4) = false := beq_eq_false_iff_ne.mpr c5
          have c5b1 : (a0 != 4) = true := bne_iff_ne.mpr c5
          by_cases c6 : a0 = 5
          · rw [if_pos c6] at H
            have c6b0 : (a0 == 5) = true := beq_iff_eq.mpr c6
            have c6b1 : (a0 != 5) = false := bne_eq_false_iff_eq.mpr c6
            clear c6
            obtain rfl := Option.some.inj H
            go_enter Try.func35, Try.ntmps35
            go_wp2
            go_ret
            exact ⟨by first | rfl | (simp; done) | (simp [*]; done), by repeat (first | exact Drawn0.refl _ | apply Drawn0.step)⟩
          · rw [if_neg c6] at H
            have c6b0 : (a0 == 5) = false := beq_eq_false_iff_ne.mpr c6
            have c6b1 : (a0 != 5) = true := bne_iff_ne.mpr c6
            by_cases c7 : a0 = 6
            · rw [if_pos c7] at H
              have c7b0 : (a0 == 6) = true := beq_iff_eq.mpr c7
              have c7b1 : (a0 != 6) = false := bne_eq_false_iff_eq.mpr c7
              clear c7
              obtain rfl := Option.some.inj H
              go_enter Try.func35, Try.ntmps35
              go_wp2
              go_ret
              exact ⟨by first | rfl | (simp; done) | (simp [*]; done), by repeat (first | exact Drawn0.refl _ | apply Drawn0.step)⟩
            · rw [if_neg c7] at H
              have c7b0 : (a0 == 6) = false := beq_eq_false_iff_ne.mpr c7
              have c7b1 : (a0 != 6) = true := bne_iff_ne.mpr c7
              by_cases c8 : a0 = 7
              · rw [if_pos c8] at H
                have c8b0 : (a0 == 7) = true := beq_iff_eq.mpr c8
                have c8b1 : (a0 != 7) = false := bne_eq_false_iff_eq.mpr c8
                clear c8
                obtain rfl := Option.some.inj H
                go_enter Try.func35, Try.ntmps35
                go_wp2
                go_ret
                exact ⟨by first | rfl | (simp; done) | (simp [*]; done), by repeat (first | exact Drawn0.refl _ | apply Drawn0.step)⟩
              · rw [if_neg c8] at H
                have c8b0 : (a0 == 7) = false := beq_eq_false_iff_ne.mpr c8
                have c8b1 : (a0 != 7) = true := bne_iff_ne.mpr c8
                by_cases c9 : a0 = 8
                · rw [if_pos c9] at H
                  have c9b0 : (a0 == 8) = true := beq_iff_eq.mpr c9
                  have c9b1 : (a0 != 8) = false := bne_eq_false_iff_eq.mpr c9
                  clear c9
                  obtain rfl := Option.some.inj H
                  go_enter Try.func35, Try.ntmps35
                  go_wp2
                  go_ret
                  exact ⟨by first | rfl | (simp; done) | (simp [*]; done), by repeat (first | exact Drawn0.refl _ | apply Drawn0.step)⟩
                · rw [if_neg c9] at H
                  have c9b0 : (a0 == 8) = false := beq_eq_false_iff_ne.mpr c9
                  have c9b1 : (a0 != 8) = true := bne_iff_ne.mpr c9
                  by_cases c10 : a0 = 10
                  · rw [if_pos c10] at H
                    have c10b0 : (a0 == 10) = true := beq_iff_eq.mpr c10
                    have c10b1 : (a0 != 10) = false := bne_eq_false_iff_eq.mpr c10
                    clear c10
                    obtain rfl := Option.some.inj H
                    go_enter Try.func35, Try.ntmps35
                    go_wp2
                    go_ret
                    exact ⟨by first | rfl | (simp; done) | (simp [*]; done), by repeat (first | exact Drawn0.refl _ | apply Drawn0.step)⟩
                  · rw [if_neg c10] at H
                    have c10b0 : (a0 == 10) = false := beq_eq_false_iff_ne.mpr c10
                    have c10b1 : (a0 != 10) = true := bne_iff_ne.mpr c10
                    by_cases c11 : a0 = 9
                    · rw [if_pos c11] at H
                      have c11b0 : (a0 == 9) = true := beq_iff_eq.mpr c11
                      have c11b1 : (a0 != 9) = false := bne_eq_false_iff_eq.mpr c11
                      clear c11
                      obtain rfl := Option.some.inj H
                      go_enter Try.func35, Try.ntmps35
                      go_wp2
                      go_ret
                      exact ⟨by first | rfl | (simp; done) | (simp [*]; done), by repeat (first | exact Drawn0.refl _ | apply Drawn0.step)⟩
                    · rw [if_neg c11] at H
                      have c11b0 : (a0 == 9) = false := beq_eq_false_iff_ne.mpr c11
                      have c11b1 : (a0 != 9) = true := bne_iff_ne.mpr c11
                      by_cases c12 : a0 = 12
                      · rw [if_pos c12] at H
                        have c12b0 : (a0 == 12) = true := beq_iff_eq.mpr c12
                        have c12b1 : (a0 != 12) = false := bne_eq_false_iff_eq.mpr c12
                        clear c12
                        obtain rfl := Option.some.inj H
                        go_enter Try.func35, Try.ntmps35
                        go_wp2
                        go_ret
                        exact ⟨by first | rfl | (simp; done) | (simp [*]; done), by repeat (first | exact Drawn0.refl _ | apply Drawn0.step)⟩
                      · rw [if_neg c12] at H
                        have c12b0 : (a0 == 12) = false := beq_eq_false_iff_ne.mpr c12
                        have c12b1 : (a0 != 12) = true := bne_iff_ne.mpr c12
                        by_cases c13 : a0 = 13
                        · rw [if_pos c13] at H
                          have c13b0 : (a0 == 13) = true := beq_iff_eq.mpr c13
                          have c13b1 : (a0 != 13) = false := bne_eq_false_iff_eq.mpr c13
                          clear c13
                          obtain rfl := Option.some.inj H
                          go_enter Try.func35, Try.ntmps35
                          go_wp2
                          go_ret
                          exact ⟨by first | rfl | (simp; done) | (simp [*]; done), by repeat (first | exact Drawn0.refl _ | apply Drawn0.step)⟩
                        · rw [if_neg c13] at H
                          have c13b0 : (a0 == 13) = false := beq_eq_false_iff_ne.mpr c13
                          have c13b1 : (a0 != 13) = true := bne_iff_ne.mpr c13
                          by_cases c14 : a0 = 14
                          · rw [if_pos c14] at H
                            have c14b0 : (a0 == 14) = true := beq_iff_eq.mpr c14
                            have c14b1 : (a0 != 14) = false := bne_eq_false_iff_eq.mpr c14
                            clear c14
                            obtain rfl := Option.some.inj H
                            go_enter Try.func35, Try.ntmps35
                            go_wp2
                            go_ret
                            exact ⟨by first | rfl | (simp; done) | (simp [*]; done), by repeat (first | exact Drawn0.refl _ | apply Drawn0.step)⟩
                          · rw [if_neg c14] at H
                            have c14b0 : (a0 == 14) = false := beq_eq_false_iff_ne.mpr c14
                            have c14b1 : (a0 != 14) = true := bne_iff_ne.mpr c14
                            by_cases c15 : a0 = 15
                            · rw [if_pos c15] at H
                              have c15b0 : (a0 == 15) = true := beq_iff_eq.mpr c15
                              have c15b1 : (a0 != 15) = false := bne_eq_false_iff_eq.mpr c15
                              clear c15
                              obtain rfl := Option.some.inj H
                              go_enter Try.func35, Try.ntmps35
                              go_wp2
                              go_ret
                              exact ⟨by first | rfl | (simp; done) | (simp [*]; done), by repeat (first | exact Drawn0.refl _ | apply Drawn0.step)⟩
                            · rw [if_neg c15] at H
                              have c15b0 : (a0 == 15) = false := beq_eq_false_iff_ne.mpr c15
                              have c15b1 : (a0 != 15) = true := bne_iff_ne.mpr c15
                              by_cases c16 : a0 = 16
                              · rw [if_pos c16] at H
                                have c16b0 : (a0 == 16) = true := beq_iff_eq.mpr c16
                                have c16b1 : (a0 != 16) = false := bne_eq_false_iff_eq.mpr c16
                                clear c16
                                obtain rfl := Option.some.inj H
                                go_enter Try.func35, Try.ntmps35
                                go_wp2
                                go_ret
                                exact ⟨by first | rfl | (simp; done) | (simp [*]; done), by repeat (first | exact Drawn0.refl _ | apply Drawn0.step)⟩
                              · rw [if_neg c16] at H
                                have c16b0 : (a0 == 16) = false := beq_eq_false_iff_ne.mpr c16
                                have c16b1 : (a0 != 16) = true := bne_iff_ne.mpr c16
                                by_cases c17 : a0 = 11
                                · rw [if_pos c17] at H
                                  have c17b0 : (a0 == 11) = true := beq_iff_eq.mpr c17
                                  have c17b1 : (a0 != 11) = false := bne_eq_false_iff_eq.mpr c17
                                  clear c17
                                  obtain rfl := Option.some.inj H
                                  go_enter Try.func35, Try.ntmps35
                                  go_wp2
                                  go_ret
                                  exact ⟨by first | rfl | (simp; done) | (simp [*]; done), by repeat (first | exact Drawn0.refl _ | apply Drawn0.step)⟩
                                · rw [if_neg c17] at H
                                  have c17b0 : (a0 == 11) = false := beq_eq_false_iff_ne.mpr c17
                                  have c17b1 : (a0 != 11) = true := bne_iff_ne.mpr c17
                                  by_cases c18 : a0 = 17
                                  · rw [if_pos c18] at H
                                    have c18b0 : (a0 == 17) = true := beq_iff_eq.mpr c18
                                    have c18b1 : (a0 != 17) = false := bne_eq_false_iff_eq.mpr c18
                                    clear c18
                                    obtain rfl := Option.some.inj H
                                    go_enter Try.func35, Try.ntmps35
                                    go_wp2
                                    go_ret
                                    exact ⟨by first | rfl | (simp; done) | (simp [*]; done), by repeat (first | exact Drawn0.refl _ | apply Drawn0.step)⟩
                                  · rw [if_neg c18] at H
                                    have c18b0 : (a0 == 17) = false := beq_eq_false_iff_ne.mpr c18
                                    have c18b1 : (a0 != 17) = true := bne_iff_ne.mpr c18
                                    by_cases c19 : a0 = 18
                                    · rw [if_pos c19] at H
                                      have c19b0 : (a0 == 18) = true := beq_iff_eq.mpr c19
                                      have c19b1 : (a0 != 18) = false := bne_eq_false_iff_eq.mpr c19
                                      clear c19
                                      obtain rfl := Option.some.inj H
                                      go_enter Try.func35, Try.ntmps35
                                      go_wp2
                                      go_ret
                                      exact ⟨by first | rfl | (simp; done) | (simp [*]; done), by repeat (first | exact Drawn0.refl _ | apply Drawn0.step)⟩
                                    · rw [if_neg c19] at H
                                      have c19b0 : (a0 == 18) = false := beq_eq_false_iff_ne.mpr c19
                                      have c19b1 : (a0 != 18) = true := bne_iff_ne.mpr c19
                                      by_cases c20 : a0 = 19
                                      · rw [if_pos c20] at H
                                        have c20b0 : (a0 == 19) = true := beq_iff_eq.mpr c20
                                        have c20b1 : (a0 != 19) = false := bne_eq_false_iff_eq.mpr c20
                                        clear c20
                                        obtain rfl := Option.some.inj H
                                        go_enter Try.func35, Try.ntmps35
                                        go_wp2
                                        go_ret
                                        exact ⟨by first | rfl | (simp; done) | (simp [*]; done), by repeat (first | exact Drawn0.refl _ | apply Drawn0.step)⟩
                                      · rw [if_neg c20] at H
                                        have c20b0 : (a0 == 19) = false := beq_eq_false_iff_ne.mpr c20
                                        have c20b1 : (a0 != 19) = true := bne_iff_ne.mpr c20
                                        by_cases c21 : a0 = 20
                                        · rw [if_pos c21] at H
                                          have c21b0 : (a0 == 20) = true := beq_iff_eq.mpr c21
                                          have c21b1 : (a0 != 20) = false := bne_eq_false_iff_eq.mpr c21
                                          clear c21
                                          obtain rfl := Option.some.inj H
                                          go_enter Try.func35, Try.ntmps35
                                          go_wp2
                                          go_ret
                                          exact ⟨by first | rfl | (simp; done) | (simp [*]; done), by repeat (first | exact Drawn0.refl _ | apply Drawn0.step)⟩
                                        · rw [if_neg c21] at H
                                          have c21b0 : (a0 == 20) = false := beq_eq_false_iff_ne.mpr c21
                                          have c21b1 : (a0 != 20) = true := bne_iff_ne.mpr c21
                                          obtain rfl := Option.some.inj H
                                          go_enter Try.func35, Try.ntmps35
                                          go_wp2
                                          go_ret
                                          exact ⟨by first | rfl | (simp; done) | (simp [*]; done), by repeat (first | exact Drawn0.refl _ | apply Drawn0.step)⟩

/-! ### ast_operatorOf: function 32 -/
def ast_operatorOf.l0 : Nat → ByteArray → Int → Option (Int)
  | 0, _, _ => none
  | k + 1, x0, x3 => if x3 < 21 then ((ast_operatorToken.f x3).bind fun t127 => (if t127.toList = x0.toList then (some x3) else (ast_operatorOf.l0 k x0 (wrap64 (x3 + 1))))) else (some 0)
def ast_operatorOf.f (k : Nat) (a0 : ByteArray) : Option (Int) := ast_operatorOf.l0 k a0 1
theorem ast_operatorOf.mono_l : ∀ k, (∀ y0 y1, LeO (ast_operatorOf.l0 k y0 y1) (ast_operatorOf.l0 (k + 1) y0 y1))
  | 0 => fun _ _ r h => by simp [ast_operatorOf.l0] at h
  | k + 1 => by
    have ih0 := ast_operatorOf.mono_l k
    · intro y0 y1
      unfold ast_operatorOf.l0
      repeat' first
      | (with_reducible exact ih0 _ _)
      | (with_reducible exact LeO.refl _)
      | (with_reducible exact LeO.none _)
      | (with_reducible refine LeO.ite ?_ ?_)
      | (with_reducible refine LeO.bind ?_ (fun _ => ?_))
      | exact ih0 _ _
      | exact LeO.none _
      | refine LeO.ite ?_ ?_
      | refine LeO.bind ?_ (fun _ => ?_)
theorem ast_operatorOf.mono : ∀ a0 k, LeO (ast_operatorOf.f k a0) (ast_operatorOf.f (k + 1) a0) := by
  intro a0 k
  have ih0 := ast_operatorOf.mono_l k
  unfold ast_operatorOf.f
  repeat' first
      | (with_reducible exact ih0 _ _)
      | (with_reducible exact LeO.refl _)
      | (with_reducible exact LeO.none _)
      | (with_reducible refine LeO.ite ?_ ?_)
      | (with_reducible refine LeO.bind ?_ (fun _ => ?_))
      | exact ih0 _ _
      | exact LeO.none _
      | refine LeO.ite ?_ ?_
      | refine LeO.bind ?_ (fun _ => ?_)
set_option maxHeartbeats 8000000 in
set_option maxRecDepth 100000 in
theorem ast_operatorOf.calls (k : Nat) (a0 : ByteArray) (r : Int) (w : World) (h : ast_operatorOf.f k a0 = some r) :
    Calls Try.prog 32 #[.string a0] w fun e w' => e = .returned (.int .i64 r) ∧ Drawn0 w w' := by
  have H : (ast_operatorOf.l0 k a0 1) = some r := h
  clear h
  have H' := Aside0.mk H
  clear H
  go_enter Try.func32, Try.ntmps32
  go_wp2
  go_loopg [3] k (fun kq v3 w' => ∃ (x3_1 : Int), v3 = .int .i64 x3_1 ∧ Aside0 (ast_operatorOf.l0 kq a0 x3_1 = some r) ∧ Aside0 (kq ≤ k) ∧ Drawn0 w w')
  case atStart => exact ⟨(1), (by first | rfl | (simp; done) | (simp [*]; done)), H', ⟨Nat.le_refl _⟩, by repeat (first | exact Drawn0.refl _ | apply Drawn0.step)⟩
  case round =>
    clear H'
    obtain ⟨x3_1, rfl, HA, HK1, ⟨m1, rfl⟩⟩ := hrel
    cases gk with
    | zero => exact absurd HA.out (by simp [ast_operatorOf.l0])
    | succ k1 =>
      have H := HA.out
      clear HA
      simp only [ast_operatorOf.l0] at H
      by_cases c2 : x3_1 < 21
      · rw [if_pos c2] at H
        have c2b0 : decide (x3_1 < 21) = true := decide_eq_true c2
        clear c2
        replace H := Option.bind_eq_some_iff.mp H
        obtain ⟨t127, A30, H⟩ := H
        replace H : (if t127.toList = a0.toList then (some x3_1) else (ast_operatorOf.l0 k1 a0 (wrap64 (x3_1 + 1)))) = some r := H
        have A3 := Aside0.mk A30
        clear A30
        by_cases c4 : t127.toList = a0.toList
        · rw [if_pos c4] at H
          have c4b0 : (t127.toList == a0.toList) = true := beq_iff_eq.mpr c4
          have c4b1 : (t127.toList != a0.toList) = false := bne_eq_false_iff_eq.mpr c4
          clear c4
          obtain rfl := Option.some.inj H
          go_wp2_with (first | ((with_reducible refine gate_callee (f := 35) rfl ?_); refine goesL_ (some 9) rfl rfl Try.func35 (by kernel_rfl) rfl #[.int .i64 x3_1] rfl (by (try simp only [List.map_toArray, List.map_cons, List.map_nil]); first | done | rfl | (simp only [List.length_drop, List.length_take]; rfl)) ?_; (with_reducible refine (ast_operatorToken.calls x3_1 t127 _ A3.out).mono ?_); rintro e w' ⟨rfl, ⟨nd, rfl⟩⟩; refine ⟨_, rfl, ?_⟩))
          go_ret
          exact ⟨by first | rfl | (simp; done) | (simp [*]; done), by repeat (first | exact Drawn0.refl _ | apply Drawn0.step)⟩
        · rw [if_neg c4] at H
          have c4b0 : (t127.toList == a0.toList) = false := beq_eq_false_iff_ne.mpr c4
          have c4b1 : (t127.toList != a0.toList) = true := bne_iff_ne.mpr c4
          have H' := Aside0.mk H
          clear H
          go_wp2_with (first | ((with_reducible refine gate_callee (f := 35) rfl ?_); refine goesL_ (some 9) rfl rfl Try.func35 (by kernel_rfl) rfl #[.int .i64 x3_1] rfl (by (try simp only [List.map_toArray, List.map_cons, List.map_nil]); first | done | rfl | (simp only [List.length_drop, List.length_take]; rfl)) ?_; (with_reducible refine (ast_operatorToken.calls x3_1 t127 _ A3.out).mono ?_); rintro e w' ⟨rfl, ⟨nd, rfl⟩⟩; refine ⟨_, rfl, ?_⟩))
          go_roundg k1
          case measure => have := HK1.out; omega
          case rel => exact ⟨(wrap64 (x3_1 + 1)), (by first | rfl | (simp; done) | (simp [*]; done)), H', ⟨by have := HK1.out; omega⟩, by repeat (first | exact Drawn0.refl _ | apply Drawn0.step)⟩
      · rw [if_neg c2] at H
        have c2b0 : decide (x3_1 < 21) = false := decide_eq_false c2
        clear c2
        obtain rfl := Option.some.inj H
        go_wp2
        go_ret
        exact ⟨by first | rfl | (simp; done) | (simp [*]; done), by repeat (first | exact Drawn0.refl _ | apply Drawn0.step)⟩

/-! ### ast_OperatorLookup: function 24 -/
def ast_OperatorLookup.f (k : Nat) (a0 : ByteArray) : Option (Int) := (ast_operatorOf.f k a0).bind fun t128 => (some t128)
theorem ast_OperatorLookup.mono : ∀ a0 k, LeO (ast_OperatorLookup.f k a0) (ast_OperatorLookup.f (k + 1) a0) := by
  intro a0 k
  unfold ast_OperatorLookup.f
  repeat' first
      | (with_reducible exact ast_operatorOf.mono _ _)
      | (with_reducible exact LeO.refl _)
      | (with_reducible exact LeO.none _)
      | (with_reducible refine LeO.ite ?_ ?_)
      | (with_reducible refine LeO.bind ?_ (fun _ => ?_))
      | exact ast_operatorOf.mono _ _
      | exact LeO.none _
      | refine LeO.ite ?_ ?_
      | refine LeO.bind ?_ (fun _ => ?_)
set_option maxHeartbeats 8000000 in
set_option maxRecDepth 100000 in
theorem ast_OperatorLookup.calls (k : Nat) (a0 : ByteArray) (r : Int) (w : World) (h : ast_OperatorLookup.f k a0 = some r) :
    Calls Try.prog 24 #[.string a0] w fun e w' => e = .returned (.int .i64 r) ∧ Drawn0 w w' := by
  have H : ((ast_operatorOf.f k a0).bind fun t128 => (some t128)) = some r := h
  clear h
  replace H := Option.bind_eq_some_iff.mp H
  obtain ⟨t128, A20, H⟩ := H
  replace H : (some t128) = some r := H
  have A2 := Aside0.mk A20
  clear A20
  obtain rfl := Option.some.inj H
  go_enter Try.func24, Try.ntmps24
  go_wp2_with (first | ((with_reducible refine gate_callee (f := 32) rfl ?_); refine goesL_ (some 4) rfl rfl Try.func32 (by kernel_rfl) rfl #[.string a0] rfl (by (try simp only [List.map_toArray, List.map_cons, List.map_nil]); first | done | rfl | (simp only [List.length_drop, List.length_take]; rfl)) ?_; (with_reducible refine (ast_operatorOf.calls k a0 t128 _ A2.out).mono ?_); rintro e w' ⟨rfl, ⟨nd, rfl⟩⟩; refine ⟨_, rfl, ?_⟩))
  go_ret
  exact ⟨by first | rfl | (simp; done) | (simp [*]; done), by repeat (first | exact Drawn0.refl _ | apply Drawn0.step)⟩

/-! ### impl_Precedence: function 13 -/
def impl_Precedence.f (k : Nat) (a0 : ByteArray) : Option (Int) := (ast_OperatorLookup.f k a0).bind fun t129 => ((ast_Precedence.f k t129).bind fun t130 => (some t130))
theorem impl_Precedence.mono : ∀ a0 k, LeO (impl_Precedence.f k a0) (impl_Precedence.f (k + 1) a0) := by
  intro a0 k
  unfold impl_Precedence.f
  repeat' first
      | (with_reducible exact ast_OperatorLookup.mono _ _)
      | (with_reducible exact ast_Precedence.mono _ _)
      | (with_reducible exact LeO.refl _)
      | (with_reducible exact LeO.none _)
      | (with_reducible refine LeO.ite ?_ ?_)
      | (with_reducible refine LeO.bind ?_ (fun _ => ?_))
      | exact ast_OperatorLookup.mono _ _
      | exact ast_Precedence.mono _ _
      | exact LeO.none _
      | refine LeO.ite ?_ ?_
      | refine LeO.bind ?_ (fun _ => ?_)
set_option maxHeartbeats 8000000 in
set_option maxRecDepth 100000 in
theorem impl_Precedence.calls (k : Nat) (a0 : ByteArray) (r : Int) (w : World) (h : impl_Precedence.f k a0 = some r) :
    Calls Try.prog 13 #[.string a0] w fun e w' => e = .returned (.int .i64 r) ∧ Drawn0 w w' := by
  have H : ((ast_OperatorLookup.f k a0).bind fun t129 => ((ast_Precedence.f k t129).bind fun t130 => (some t130))) = some r := h
  clear h
  replace H := Option.bind_eq_some_iff.mp H
  obtain ⟨t129, A20, H⟩ := H
  replace H : ((ast_Precedence.f k t129).bind fun t130 => (some t130)) = some r := H
  have A2 := Aside0.mk A20
  clear A20
  replace H := Option.bind_eq_some_iff.mp H
  obtain ⟨t130, A30, H⟩ := H
  replace H : (some t130) = some r := H
  have A3 := Aside0.mk A30
  clear A30
  obtain rfl := Option.some.inj H
  go_enter Try.func13, Try.ntmps13
  go_wp2_with (first | ((with_reducible refine gate_callee (f := 24) rfl ?_); refine goesL_ (some 4) rfl rfl Try.func24 (by kernel_rfl) rfl #[.string a0] rfl (by (try simp only [List.map_toArray, List.map_cons, List.map_nil]); first | done | rfl | (simp only [List.length_drop, List.length_take]; rfl)) ?_; (with_reducible refine (ast_OperatorLookup.calls k a0 t129 _ A2.out).mono ?_); rintro e w' ⟨rfl, ⟨nd, rfl⟩⟩; refine ⟨_, rfl, ?_⟩) | ((with_reducible refine gate_callee (f := 23) rfl ?_); refine goesL_ (some 5) rfl rfl Try.func23 (by kernel_rfl) rfl #[.int .i64 t129] rfl (by (try simp only [List.map_toArray, List.map_cons, List.map_nil]); first | done | rfl | (simp only [List.length_drop, List.length_take]; rfl)) ?_; (with_reducible refine (ast_Precedence.calls k t129 t130 _ A3.out).mono ?_); rintro e w' ⟨rfl, ⟨nd, rfl⟩⟩; refine ⟨_, rfl, ?_⟩))
  go_ret
  exact ⟨by first | rfl | (simp; done) | (simp [*]; done), by repeat (first | exact Drawn0.refl _ | apply Drawn0.step)⟩

/-! ### laws_binds: function 14 -/
mutual
def laws_binds.j0 : Nat → ByteArray → Bool → Option (Int)
  | 0, _, _ => none
  | k + 1, x3, x6 => if x6 = true then (some 2) else (if x3.toList = ([43] : List UInt8) then (laws_binds.j1 k x3 (x3.toList == ([43] : List UInt8))) else (laws_binds.j1 k x3 (x3.toList == ([45] : List UInt8))))
def laws_binds.j1 : Nat → ByteArray → Bool → Option (Int)
  | 0, _, _ => none
  | k + 1, x3, x10 => if x10 = true then (some 3) else (if x3.toList = ([61, 61] : List UInt8) then (some 4) else (if x3.toList = ([33, 61] : List UInt8) then (some 4) else (if x3.toList = ([60] : List UInt8) then (some 4) else (if x3.toList = ([60, 61] : List UInt8) then (some 4) else (if x3.toList = ([62] : List UInt8) then (some 4) else (if x3.toList = ([62, 61] : List UInt8) then (some 4) else (if x3.toList = ([61, 126] : List UInt8) then (some 4) else (if x3.toList = ([33, 126] : List UInt8) then (some 4) else (some 0)))))))))
end
def laws_binds.f (k : Nat) (a0 : ByteArray) : Option (Int) := if a0.toList = ([94] : List UInt8) then (some 1) else (if a0.toList = ([42] : List UInt8) then (laws_binds.j0 k a0 (a0.toList == ([42] : List UInt8))) else (if a0.toList = ([47] : List UInt8) then (laws_binds.j0 k a0 (a0.toList == ([47] : List UInt8))) else (laws_binds.j0 k a0 (a0.toList == ([37] : List UInt8)))))
theorem laws_binds.mono_l : ∀ k, (∀ y0 y1, LeO (laws_binds.j0 k y0 y1) (laws_binds.j0 (k + 1) y0 y1)) ∧ (∀ y0 y1, LeO (laws_binds.j1 k y0 y1) (laws_binds.j1 (k + 1) y0 y1))
  | 0 => ⟨fun _ _ r h => by simp [laws_binds.j0] at h, fun _ _ r h => by simp [laws_binds.j1] at h⟩
  | k + 1 => by
    obtain ⟨ih0, ih1⟩ := laws_binds.mono_l k
    refine ⟨?_, ?_⟩
    · intro y0 y1
      unfold laws_binds.j0
      repeat' first
      | (with_reducible exact ih0 _ _)
      | (with_reducible exact ih1 _ _)
      | (with_reducible exact LeO.refl _)
      | (with_reducible exact LeO.none _)
      | (with_reducible refine LeO.ite ?_ ?_)
      | (with_reducible refine LeO.bind ?_ (fun _ => ?_))
      | exact ih0 _ _
      | exact ih1 _ _
      | exact LeO.none _
      | refine LeO.ite ?_ ?_
      | refine LeO.bind ?_ (fun _ => ?_)
    · intro y0 y1
      unfold laws_binds.j1
      repeat' first
      | (with_reducible exact ih0 _ _)
      | (with_reducible exact ih1 _ _)
      | (with_reducible exact LeO.refl _)
      | (with_reducible exact LeO.none _)
      | (with_reducible refine LeO.ite ?_ ?_)
      | (with_reducible refine LeO.bind ?_ (fun _ => ?_))
      | exact ih0 _ _
      | exact ih1 _ _
      | exact LeO.none _
      | refine LeO.ite ?_ ?_
      | refine LeO.bind ?_ (fun _ => ?_)
theorem laws_binds.mono : ∀ a0 k, LeO (laws_binds.f k a0) (laws_binds.f (k + 1) a0) := by
  intro a0 k
  obtain ⟨ih0, ih1⟩ := laws_binds.mono_l k
  unfold laws_binds.f
  repeat' first
      | (with_reducible exact ih0 _ _)
      | (with_reducible exact ih1 _ _)
      | (with_reducible exact LeO.refl _)
      | (with_reducible exact LeO.none _)
      | (with_reducible refine LeO.ite ?_ ?_)
      | (with_reducible refine LeO.bind ?_ (fun _ => ?_))
      | exact ih0 _ _
      | exact ih1 _ _
      | exact LeO.none _
      | refine LeO.ite ?_ ?_
      | refine LeO.bind ?_ (fun _ => ?_)
set_option maxHeartbeats 8000000 in
set_option maxRecDepth 100000 in
theorem laws_binds.calls (k : Nat) (a0 : ByteArray) (r : Int) (w : World) (h : laws_binds.f k a0 = some r) :
    Calls Try.prog 14 #[.string a0] w fun e w' => e = .returned (.int .i64 r) ∧ Drawn0 w w' := by
  have H : (if a0.toList = ([94] : List UInt8) then (some 1) else (if a0.toList = ([42] : List UInt8) then (laws_binds.j0 k a0 (a0.toList == ([42] : List UInt8))) else (if a0.toList = ([47] : List UInt8) then (laws_binds.j0 k a0 (a0.toList == ([47] : List UInt8))) else (laws_binds.j0 k a0 (a0.toList == ([37] : List UInt8)))))) = some r := h
  clear h
  by_cases c2 : a0.toList = ([94] : List UInt8)
  · rw [if_pos c2] at H
    have c2b0 : (a0.toList == ([94] : List UInt8)) = true := beq_iff_eq.mpr c2
    have c2b1 : (a0.toList != ([94] : List UInt8)) = false := bne_eq_false_iff_eq.mpr c2
    clear c2
    obtain rfl := Option.some.inj H
    go_enter Try.func14, Try.ntmps14
    go_wp2
    go_ret
    exact ⟨by first | rfl | (simp; done) | (simp [*]; done), by repeat (first | exact Drawn0.refl _ | apply Drawn0.step)⟩
  · rw [if_neg c2] at H
    have c2b0 : (a0.toList == ([94] : List UInt8)) = false := beq_eq_false_iff_ne.mpr c2
    have c2b1 : (a0.toList != ([94] : List UInt8)) = true := bne_iff_ne.mpr c2
    have HC3 := Aside0.mk H
    clear H
    go_enter Try.func14, Try.ntmps14
    go_upto_if 6 with (fail)
    go_cut [6] (fun v6 wc => ∃ (kq : Nat) (x6_2 : Bool), v6 = .bool x6_2 ∧ Aside0 (laws_binds.j0 kq a0 x6_2 = some r) ∧ Aside0 (kq ≤ k) ∧ Drawn0 w wc)
    case first =>
      have H := HC3.out
      clear HC3
      by_cases c4 : a0.toList = ([42] : List UInt8)
      · rw [if_pos c4] at H
        have c4b0 : (a0.toList == ([42] : List UInt8)) = true := beq_iff_eq.mpr c4
        have c4b1 : (a0.toList != ([42] : List UInt8)) = false := bne_eq_false_iff_eq.mpr c4
        clear c4
        (first | rw [c4b0] | (simp only [i64_w, i32_w]; rw [c4b0]) | skip)
        have H' := Aside0.mk H
        clear H
        go_wp2
        go_meet
        case rel => exact ⟨_, ((a0.toList == ([42] : List UInt8))), (by first | rfl | (simp; done) | (simp [*]; done)), H', ⟨by first | omega | exact Nat.le_refl _⟩, by repeat (first | exact Drawn0.refl _ | apply Drawn0.step)⟩
      · rw [if_neg c4] at H
        have c4b0 : (a0.toList == ([42] : List UInt8)) = false := beq_eq_false_iff_ne.mpr c4
        have c4b1 : (a0.toList != ([42] : List UInt8)) = true := bne_iff_ne.mpr c4
        (first | rw [c4b0] | (simp only [i64_w, i32_w]; rw [c4b0]) | skip)
        by_cases c5 : a0.toList = ([47] : List UInt8)
        · rw [if_pos c5] at H
          have c5b0 : (a0.toList == ([47] : List UInt8)) = true := beq_iff_eq.mpr c5
          have c5b1 : (a0.toList != ([47] : List UInt8)) = false := bne_eq_false_iff_eq.mpr c5
          clear c5
          have H' := Aside0.mk H
          clear H
          go_wp2
          go_meet
          case rel => exact ⟨_, ((a0.toList == ([47] : List UInt8))), (by first | rfl | (simp; done) | (simp [*]; done)), H', ⟨by first | omega | exact Nat.le_refl _⟩, by repeat (first | exact Drawn0.refl _ | apply Drawn0.step)⟩
        · rw [if_neg c5] at H
          have c5b0 : (a0.toList == ([47] : List UInt8)) = false := beq_eq_false_iff_ne.mpr c5
          have c5b1 : (a0.toList != ([47] : List UInt8)) = true := bne_iff_ne.mpr c5
          have H' := Aside0.mk H
          clear H
          go_wp2
          go_meet
          case rel => exact ⟨_, ((a0.toList == ([37] : List UInt8))), (by first | rfl | (simp; done) | (simp [*]; done)), H', ⟨by first | omega | exact Nat.le_refl _⟩, by repeat (first | exact Drawn0.refl _ | apply Drawn0.step)⟩
    case rest =>
      clear HC3
      try clear c1
      try clear c2
      try clear c2b0
      try clear c2b1
      try clear p2
      try clear c4
      try clear c4b0
      try clear c4b1
      try clear c5
      try clear c5b0
      try clear c5b1
      obtain ⟨kq, x6_2, rfl, HA, HJ2, ⟨mc2, rfl⟩⟩ := hcut
      cases kq with
      | zero => exact absurd HA.out (by simp [laws_binds.j0])
      | succ kj2 =>
        have H := HA.out
        clear HA
        simp only [laws_binds.j0] at H
        by_cases c6 : x6_2 = true
        · subst c6
          have H1 : (some 2) = some r := by rw [if_pos rfl] at H; exact H
          clear H
          have H := H1
          clear H1
          obtain rfl := Option.some.inj H
          go_wp2
          go_ret
          exact ⟨by first | rfl | (simp; done) | (simp [*]; done), by repeat (first | exact Drawn0.refl _ | apply Drawn0.step)⟩
        · replace c6 := Bool.eq_false_iff.mpr c6
          subst c6
          have H1 : (if a0.toList = ([43] : List UInt8) then (laws_binds.j1 kj2 a0 (a0.toList == ([43] : List UInt8))) else (laws_binds.j1 kj2 a0 (a0.toList == ([45] : List UInt8)))) = some r := by rw [if_neg (show ¬ (false = true) by decide)] at H; exact H
          clear H
          have H := H1
          clear H1
          have HC7 := Aside0.mk H
          clear H
          go_upto_if 10 with (fail)
          go_cut [10] (fun v10 wc => ∃ (kq : Nat) (x10_6 : Bool), v10 = .bool x10_6 ∧ Aside0 (laws_binds.j1 kq a0 x10_6 = some r) ∧ Aside0 (kq ≤ kj2) ∧ Drawn0 w wc)
          case first =>
            have H := HC7.out
            clear HC7
            by_cases c8 : a0.toList = ([43] : List UInt8)
            · rw [if_pos c8] at H
              have c8b0 : (a0.toList == ([43] : List UInt8)) = true := beq_iff_eq.mpr c8
              have c8b1 : (a0.toList != ([43] : List UInt8)) = false := bne_eq_false_iff_eq.mpr c8
              clear c8
              (first | rw [c8b0] | (simp only [i64_w, i32_w]; rw [c8b0]) | skip)
              have H' := Aside0.mk H
              clear H
              go_wp2
              go_meet
              case rel => exact ⟨_, ((a0.toList == ([43] : List UInt8))), (by first | rfl | (simp; done) | (simp [*]; done)), H', ⟨by have := HJ2.out; first | omega | exact Nat.le_refl _⟩, by repeat (first | exact Drawn0.refl _ | apply Drawn0.step)⟩
            · rw [if_neg c8] at H
              have c8b0 : (a0.toList == ([43] : List UInt8)) = false := beq_eq_false_iff_ne.mpr c8
              have c8b1 : (a0.toList != ([43] : List UInt8)) = true := bne_iff_ne.mpr c8
              (first | rw [c8b0] | (simp only [i64_w, i32_w]; rw [c8b0]) | skip)
              have H' := Aside0.mk H
              clear H
              go_wp2
              go_meet
              case rel => exact ⟨_, ((a0.toList == ([45] : List UInt8))), (by first | rfl | (simp; done) | (simp [*]; done)), H', ⟨by have := HJ2.out; first | omega | exact Nat.le_refl _⟩, by repeat (first | exact Drawn0.refl _ | apply Drawn0.step)⟩
          case rest =>
            clear HC7
            try clear c1
            try clear c2
            try clear c2b0
            try clear c2b1
            try clear p2
            try clear c4
            try clear c4b0
            try clear c4b1
            try clear c5
            try clear c5b0
            try clear c5b1
            try clear c6
            try clear c8
            try clear c8b0
            try clear c8b1
            try clear p2
            obtain ⟨kq, x10_6, rfl, HA, HJ6, ⟨mc6, rfl⟩⟩ := hcut
            cases kq with
            | zero => exact absurd HA.out (by simp [laws_binds.j1])
            | succ kj6 =>
              have H := HA.out
              clear HA
              simp only [laws_binds.j1] at H
              by_cases c9 : x10_6 = true
              · subst c9
                have H1 : (some 3) = some r := by rw [if_pos rfl] at H; exact H
                clear H
                have H := H1
                clear H1
                obtain rfl := Option.some.inj H
                go_wp2
                go_ret
                exact ⟨by first | rfl | (simp; done) | (simp [*]; done), by repeat (first | exact Drawn0.refl _ | apply Drawn0.step)⟩
              · replace c9 := Bool.eq_false_iff.mpr c9
                subst c9
                have H1 : (if a0.toList = ([61, 61] : List UInt8) then (some 4) else (if a0.toList = ([33, 61] : List UInt8) then (some 4) else (if a0.toList = ([60] : List UInt8) then (some 4) else (if a0.toList = ([60, 61] : List UInt8) then (some 4) else (if a0.toList = ([62] : List UInt8) then (some 4) else (if a0.toList = ([62, 61] : List UInt8) then (some 4) else (if a0.toList = ([61, 126] : List UInt8) then (some 4) else (if a0.toList = ([33, 126] : List UInt8) then (some 4) else (some 0))))))))) = some r := by rw [if_neg (show ¬ (false = true) by decide)] at H; exact H
                clear H
                have H := H1
                clear H1
                by_cases c10 : a0.toList = ([61, 61] : List UInt8)
                · rw [if_pos c10] at H
                  have c10b0 : (a0.toList == ([61, 61] : List UInt8)) = true := beq_iff_eq.mpr c10
                  have c10b1 : (a0.toList != ([61, 61] : List UInt8)) = false := bne_eq_false_iff_eq.mpr c10
                  clear c10
                  obtain rfl := Option.some.inj H
                  go_wp2
                  go_ret
                  exact ⟨by first | rfl | (simp; done) | (simp [*]; done), by repeat (first | exact Drawn0.refl _ | apply Drawn0.step)⟩
                · rw [if_neg c10] at H
                  have c10b0 : (a0.toList == ([61, 61] : List UInt8)) = false := beq_eq_false_iff_ne.mpr c10
                  have c10b1 : (a0.toList != ([61, 61] : List UInt8)) = true := bne_iff_ne.mpr c10
                  by_cases c11 : a0.toList = ([33, 61] : List UInt8)
                  · rw [if_pos c11] at H
                    have c11b0 : (a0.toList == ([33, 61] : List UInt8)) = true := beq_iff_eq.mpr c11
                    have c11b1 : (a0.toList != ([33, 61] : List UInt8)) = false := bne_eq_false_iff_eq.mpr c11
                    clear c11
                    obtain rfl := Option.some.inj H
                    go_wp2
                    go_ret
                    exact ⟨by first | rfl | (simp; done) | (simp [*]; done), by repeat (first | exact Drawn0.refl _ | apply Drawn0.step)⟩
                  · rw [if_neg c11] at H
                    have c11b0 : (a0.toList == ([33, 61] : List UInt8)) = false := beq_eq_false_iff_ne.mpr c11
                    have c11b1 : (a0.toList != ([33, 61] : List UInt8)) = true := bne_iff_ne.mpr c11
                    by_cases c12 : a0.toList = ([60] : List UInt8)
                    · rw [if_pos c12] at H
                      have c12b0 : (a0.toList == ([60] : List UInt8)) = true := beq_iff_eq.mpr c12
                      have c12b1 : (a0.toList != ([60] : List UInt8)) = false := bne_eq_false_iff_eq.mpr c12
                      clear c12
                      obtain rfl := Option.some.inj H
                      go_wp2
                      go_ret
                      exact ⟨by first | rfl | (simp; done) | (simp [*]; done), by repeat (first | exact Drawn0.refl _ | apply Drawn0.step)⟩
                    · rw [if_neg c12] at H
                      have c12b0 : (a0.toList == ([60] : List UInt8)) = false := beq_eq_false_iff_ne.mpr c12
                      have c12b1 : (a0.toList != ([60] : List UInt8)) = true := bne_iff_ne.mpr c12
                      by_cases c13 : a0.toList = ([60, 61] : List UInt8)
                      · rw [if_pos c13] at H
                        have c13b0 : (a0.toList == ([60, 61] : List UInt8)) = true := beq_iff_eq.mpr c13
                        have c13b1 : (a0.toList != ([60, 61] : List UInt8)) = false := bne_eq_false_iff_eq.mpr c13
                        clear c13
                        obtain rfl := Option.some.inj H
                        go_wp2
                        go_ret
                        exact ⟨by first | rfl | (simp; done) | (simp [*]; done), by repeat (first | exact Drawn0.refl _ | apply Drawn0.step)⟩
                      · rw [if_neg c13] at H
                        have c13b0 : (a0.toList == ([60, 61] : List UInt8)) = false := beq_eq_false_iff_ne.mpr c13
                        have c13b1 : (a0.toList != ([60, 61] : List UInt8)) = true := bne_iff_ne.mpr c13
                        by_cases c14 : a0.toList = ([62] : List UInt8)
                        · rw [if_pos c14] at H
                          have c14b0 : (a0.toList == ([62] : List UInt8)) = true := beq_iff_eq.mpr c14
                          have c14b1 : (a0.toList != ([62] : List UInt8)) = false := bne_eq_false_iff_eq.mpr c14
                          clear c14
                          obtain rfl := Option.some.inj H
                          go_wp2
                          go_ret
                          exact ⟨by first | rfl | (simp; done) | (simp [*]; done), by repeat (first | exact Drawn0.refl _ | apply Drawn0.step)⟩
                        · rw [if_neg c14] at H
                          have c14b0 : (a0.toList == ([62] : List UInt8)) = false := beq_eq_false_iff_ne.mpr c14
                          have c14b1 : (a0.toList != ([62] : List UInt8)) = true := bne_iff_ne.mpr c14
                          by_cases c15 : a0.toList = ([62, 61] : List UInt8)
                          · rw [if_pos c15] at H
                            have c15b0 : (a0.toList == ([62, 61] : List UInt8)) = true := beq_iff_eq.mpr c15
                            have c15b1 : (a0.toList != ([62, 61] : List UInt8)) = false := bne_eq_false_iff_eq.mpr c15
                            clear c15
                            obtain rfl := Option.some.inj H
                            go_wp2
                            go_ret
                            exact ⟨by first | rfl | (simp; done) | (simp [*]; done), by repeat (first | exact Drawn0.refl _ | apply Drawn0.step)⟩
                          · rw [if_neg c15] at H
                            have c15b0 : (a0.toList == ([62, 61] : List UInt8)) = false := beq_eq_false_iff_ne.mpr c15
                            have c15b1 : (a0.toList != ([62, 61] : List UInt8)) = true := bne_iff_ne.mpr c15
                            by_cases c16 : a0.toList = ([61, 126] : List UInt8)
                            · rw [if_pos c16] at H
                              have c16b0 : (a0.toList == ([61, 126] : List UInt8)) = true := beq_iff_eq.mpr c16
                              have c16b1 : (a0.toList != ([61, 126] : List UInt8)) = false := bne_eq_false_iff_eq.mpr c16
                              clear c16
                              obtain rfl := Option.some.inj H
                              go_wp2
                              go_ret
                              exact ⟨by first | rfl | (simp; done) | (simp [*]; done), by repeat (first | exact Drawn0.refl _ | apply Drawn0.step)⟩
                            · rw [if_neg c16] at H
                              have c16b0 : (a0.toList == ([61, 126] : List UInt8)) = false := beq_eq_false_iff_ne.mpr c16
                              have c16b1 : (a0.toList != ([61, 126] : List UInt8)) = true := bne_iff_ne.mpr c16
                              by_cases c17 : a0.toList = ([33, 126] : List UInt8)
                              · rw [if_pos c17] at H
                                have c17b0 : (a0.toList == ([33, 126] : List UInt8)) = true := beq_iff_eq.mpr c17
                                have c17b1 : (a0.toList != ([33, 126] : List UInt8)) = false := bne_eq_false_iff_eq.mpr c17
                                clear c17
                                obtain rfl := Option.some.inj H
                                go_wp2
                                go_ret
                                exact ⟨by first | rfl | (simp; done) | (simp [*]; done), by repeat (first | exact Drawn0.refl _ | apply Drawn0.step)⟩
                              · rw [if_neg c17] at H
                                have c17b0 : (a0.toList == ([33, 126] : List UInt8)) = false := beq_eq_false_iff_ne.mpr c17
                                have c17b1 : (a0.toList != ([33, 126] : List UInt8)) = true := bne_iff_ne.mpr c17
                                obtain rfl := Option.some.inj H
                                go_wp2
                                go_ret
                                exact ⟨by first | rfl | (simp; done) | (simp [*]; done), by repeat (first | exact Drawn0.refl _ | apply Drawn0.step)⟩

end Go.Proofs.Ytlnimjpigghbmaa.PFnPrecedence
