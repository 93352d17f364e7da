-- PRINTED BY print.sh 35421559b90ae4d0a3588c463048766b98c2df88dd9212a6774a882060cdf62d: not written by this session
import Derived.Test.YtlnimjpigghbmaaPFnPrecedencex0
import Derived.Test.YtlnimjpigghbmaaPFnPrecedencex1
namespace Go.Proofs.Ytlnimjpigghbmaa.PFnPrecedence
open Go.RowKit Go.Proofs.YtlnimjpigghbmaaW.PrintWords Go.Proofs.YtlnimjpigghbmaaW.PrintLast Go.Proofs.YtlnimjpigghbmaaW.PrintMore
attribute [local go_sem] max2_int min2_int max_two min_two max_three min_three max_four min_four   -- for this text's walks alone
set_option linter.unusedVariables false
set_option linter.unusedSimpArgs false

/-! ### ast_opPrecedence: function 36 -/
mutual
def ast_opPrecedence.j0 : Nat → Int → Bool → Option (Int)
  | 0, _, _ => none
  | k + 1, x3, x4 => if x4 = true then (some 1) else ((ast_getIntForOp.f 4).bind fun t101 => (if x3 = t101 then (some 2) else ((ast_getIntForOp.f 1).bind fun t102 => (if x3 = t102 then (ast_opPrecedence.j1 k x3 (x3 == t102)) else ((ast_getIntForOp.f 2).bind fun t103 => (if x3 = t103 then (ast_opPrecedence.j1 k x3 (x3 == t103)) else ((ast_getIntForOp.f 3).bind fun t104 => (ast_opPrecedence.j1 k x3 (x3 == t104)))))))))
def ast_opPrecedence.j1 : Nat → Int → Bool → Option (Int)
  | 0, _, _ => none
  | k + 1, x3, x11 => if x11 = true then (some 3) else ((ast_getIntForOp.f 5).bind fun t105 => (if x3 = t105 then (ast_opPrecedence.j2 k x3 (x3 == t105)) else ((ast_getIntForOp.f 6).bind fun t106 => (ast_opPrecedence.j2 k x3 (x3 == t106)))))
def ast_opPrecedence.j2 : Nat → Int → Bool → Option (Int)
  | 0, _, _ => none
  | k + 1, x3, x18 => if x18 = true then (some 4) else ((ast_getIntForOp.f 7).bind fun t107 => (if x3 = t107 then (ast_opPrecedence.j3 k x3 (x3 == t107)) else ((ast_getIntForOp.f 8).bind fun t108 => (if x3 = t108 then (ast_opPrecedence.j3 k x3 (x3 == t108)) else ((ast_getIntForOp.f 9).bind fun t109 => (if x3 = t109 then (ast_opPrecedence.j3 k x3 (x3 == t109)) else ((ast_getIntForOp.f 10).bind fun t110 => (if x3 = t110 then (ast_opPrecedence.j3 k x3 (x3 == t110)) else ((ast_getIntForOp.f 11).bind fun t111 => (if x3 = t111 then (ast_opPrecedence.j3 k x3 (x3 == t111)) else ((ast_getIntForOp.f 12).bind fun t112 => (if x3 = t112 then (ast_opPrecedence.j3 k x3 (x3 == t112)) else ((ast_getIntForOp.f 15).bind fun t113 => (if x3 = t113 then (ast_opPrecedence.j3 k x3 (x3 == t113)) else ((ast_getIntForOp.f 16).bind fun t114 => (if x3 = t114 then (ast_opPrecedence.j3 k x3 (x3 == t114)) else ((ast_getIntForOp.f 17).bind fun t115 => (if x3 = t115 then (ast_opPrecedence.j3 k x3 (x3 == t115)) else ((ast_getIntForOp.f 18).bind fun t116 => (if x3 = t116 then (ast_opPrecedence.j3 k x3 (x3 == t116)) else ((ast_getIntForOp.f 19).bind fun t117 => (if x3 = t117 then (ast_opPrecedence.j3 k x3 (x3 == t117)) else ((ast_getIntForOp.f 20).bind fun t118 => (ast_opPrecedence.j3 k x3 (x3 == t118)))))))))))))))))))))))))
def ast_opPrecedence.j3 : Nat → Int → Bool → Option (Int)
  | 0, _, _ => none
  | k + 1, x3, x23 => if x23 = true then (some 5) else ((ast_getIntForOp.f 13).bind fun t119 => (if x3 = t119 then (ast_opPrecedence.j4 k x3 (x3 == t119)) else ((ast_getIntForOp.f 14).bind fun t120 => (ast_opPrecedence.j4 k x3 (x3 == t120)))))
def ast_opPrecedence.j4 : Nat → Int → Bool → Option (Int)
  | 0, _, _ => none
  | k + 1, x3, x48 => if x48 = true then (some 6) else ((ast_getIntForLOp.f 1).bind fun t121 => (if x3 = t121 then (some 7) else ((ast_getIntForLOp.f 2).bind fun t122 => (if x3 = t122 then (some 8) else (some 0)))))
end
def ast_opPrecedence.f (k : Nat) (a0 : Int) : Option (Int) := if a0 = 1 then (ast_opPrecedence.j0 k a0 (a0 == 1)) else (if a0 = 2 then (ast_opPrecedence.j0 k a0 (a0 == 2)) else (ast_opPrecedence.j0 k a0 (a0 == 3)))
theorem ast_opPrecedence.mono_l : ∀ k, (∀ y0 y1, LeO (ast_opPrecedence.j0 k y0 y1) (ast_opPrecedence.j0 (k + 1) y0 y1)) ∧ (∀ y0 y1, LeO (ast_opPrecedence.j1 k y0 y1) (ast_opPrecedence.j1 (k + 1) y0 y1)) ∧ (∀ y0 y1, LeO (ast_opPrecedence.j2 k y0 y1) (ast_opPrecedence.j2 (k + 1) y0 y1)) ∧ (∀ y0 y1, LeO (ast_opPrecedence.j3 k y0 y1) (ast_opPrecedence.j3 (k + 1) y0 y1)) ∧ (∀ y0 y1, LeO (ast_opPrecedence.j4 k y0 y1) (ast_opPrecedence.j4 (k + 1) y0 y1))
  | 0 => ⟨fun _ _ r h => by simp [ast_opPrecedence.j0] at h, fun _ _ r h => by simp [ast_opPrecedence.j1] at h, fun _ _ r h => by simp [ast_opPrecedence.j2] at h, fun _ _ r h => by simp [ast_opPrecedence.j3] at h, fun _ _ r h => by simp [ast_opPrecedence.j4] at h⟩
  | k + 1 => by
    obtain ⟨ih0, ih1, ih2, ih3, ih4⟩ := ast_opPrecedence.mono_l k
    refine ⟨?_, ?_, ?_, ?_, ?_⟩
    · intro y0 y1
      unfold ast_opPrecedence.j0
      repeat' first
      | (with_reducible exact ih0 _ _)
      | (with_reducible exact ih1 _ _)
      | (with_reducible exact ih2 _ _)
      | (with_reducible exact ih3 _ _)
      | (with_reducible exact ih4 _ _)
      | (with_reducible exact LeO.refl _)
      | (with_reducible exact LeO.none _)
      | (with_reducible refine LeO.ite ?_ ?_)
      | (with_reducible refine LeO.bind ?_ (fun _ => ?_))
      | exact ih0 _ _
      | exact ih1 _ _
      | exact ih2 _ _
      | exact ih3 _ _
      | exact ih4 _ _
      | exact LeO.none _
      | refine LeO.ite ?_ ?_
      | refine LeO.bind ?_ (fun _ => ?_)
    · intro y0 y1
      unfold ast_opPrecedence.j1
      repeat' first
      | (with_reducible exact ih0 _ _)
      | (with_reducible exact ih1 _ _)
      | (with_reducible exact ih2 _ _)
      | (with_reducible exact ih3 _ _)
      | (with_reducible exact ih4 _ _)
      | (with_reducible exact LeO.refl _)
      | (with_reducible exact LeO.none _)
      | (with_reducible refine LeO.ite ?_ ?_)
      | (with_reducible refine LeO.bind ?_ (fun _ => ?_))
      | exact ih0 _ _
      | exact ih1 _ _
      | exact ih2 _ _
      | exact ih3 _ _
      | exact ih4 _ _
      | exact LeO.none _
      | refine LeO.ite ?_ ?_
      | refine LeO.bind ?_ (fun _ => ?_)
    · intro y0 y1
      unfold ast_opPrecedence.j2
      repeat' first
      | (with_reducible exact ih0 _ _)
      | (with_reducible exact ih1 _ _)
      | (with_reducible exact ih2 _ _)
      | (with_reducible exact ih3 _ _)
      | (with_reducible exact ih4 _ _)
      | (with_reducible exact LeO.refl _)
      | (with_reducible exact LeO.none _)
      | (with_reducible refine LeO.ite ?_ ?_)
      | (with_reducible refine LeO.bind ?_ (fun _ => ?_))
      | exact ih0 _ _
      | exact ih1 _ _
      | exact ih2 _ _
      | exact ih3 _ _
      | exact ih4 _ _
      | exact LeO.none _
      | refine LeO.ite ?_ ?_
      | refine LeO.bind ?_ (fun _ => ?_)
    · intro y0 y1
      unfold ast_opPrecedence.j3
      repeat' first
      | (with_reducible exact ih0 _ _)
      | (with_reducible exact ih1 _ _)
      | (with_reducible exact ih2 _ _)
      | (with_reducible exact ih3 _ _)
      | (with_reducible exact ih4 _ _)
      | (with_reducible exact LeO.refl _)
      | (with_reducible exact LeO.none _)
      | (with_reducible refine LeO.ite ?_ ?_)
      | (with_reducible refine LeO.bind ?_ (fun _ => ?_))
      | exact ih0 _ _
      | exact ih1 _ _
      | exact ih2 _ _
      | exact ih3 _ _
      | exact ih4 _ _
      | exact LeO.none _
      | refine LeO.ite ?_ ?_
      | refine LeO.bind ?_ (fun _ => ?_)
    · intro y0 y1
      unfold ast_opPrecedence.j4
      repeat' first
      | (with_reducible exact ih0 _ _)
      | (with_reducible exact ih1 _ _)
      | (with_reducible exact ih2 _ _)
      | (with_reducible exact ih3 _ _)
      | (with_reducible exact ih4 _ _)
      | (with_reducible exact LeO.refl _)
      | (with_reducible exact LeO.none _)
      | (with_reducible refine LeO.ite ?_ ?_)
      | (with_reducible refine LeO.bind ?_ (fun _ => ?_))
      | exact ih0 _ _
      | exact ih1 _ _
      | exact ih2 _ _
      | exact ih3 _ _
      | exact ih4 _ _
      | exact LeO.none _
      | refine LeO.ite ?_ ?_
      | refine LeO.bind ?_ (fun _ => ?_)
theorem ast_opPrecedence.mono : ∀ a0 k, LeO (ast_opPrecedence.f k a0) (ast_opPrecedence.f (k + 1) a0) := by
  intro a0 k
  obtain ⟨ih0, ih1, ih2, ih3, ih4⟩ := ast_opPrecedence.mono_l k
  unfold ast_opPrecedence.f
  repeat' first
      | (with_reducible exact ih0 _ _)
      | (with_reducible exact ih1 _ _)
      | (with_reducible exact ih2 _ _)
      | (with_reducible exact ih3 _ _)
      | (with_reducible exact ih4 _ _)
      | (with_reducible exact LeO.refl _)
      | (with_reducible exact LeO.none _)
      | (with_reducible refine LeO.ite ?_ ?_)
      | (with_reducible refine LeO.bind ?_ (fun _ => ?_))
      | exact ih0 _ _
      | exact ih1 _ _
      | exact ih2 _ _
      | exact ih3 _ _
      | exact ih4 _ _
      | exact LeO.none _
      | refine LeO.ite ?_ ?_
      | refine LeO.bind ?_ (fun _ => ?_)
set_option maxHeartbeats 8000000 in
set_option maxRecDepth 100000 in
theorem ast_opPrecedence.calls (k : Nat) (a0 : Int) (r : Int) (w : World) (h : ast_opPrecedence.f k a0 = some r) :
    Calls Try.prog 36 #[.int .i64 a0] w fun e w' => e = .returned (.int .i64 r) ∧ Drawn0 w w' := by
  have H : (if a0 = 1 then (ast_opPrecedence.j0 k a0 (a0 == 1)) else (if a0 = 2 then (ast_opPrecedence.j0 k a0 (a0 == 2)) else (ast_opPrecedence.j0 k a0 (a0 == 3)))) = some r := h
  clear h
  have HC2 := Aside0.mk H
  clear H
  go_enter Try.func36, Try.ntmps36
  go_upto_if 4 with (fail)
  go_cut [4] (fun v4 wc => ∃ (kq : Nat) (x4_1 : Bool), v4 = .bool x4_1 ∧ Aside0 (ast_opPrecedence.j0 kq a0 x4_1 = some r) ∧ Aside0 (kq ≤ k) ∧ Drawn0 w wc)
  case first =>
    have H := HC2.out
    clear HC2
    by_cases c3 : a0 = 1
    · rw [if_pos c3] at H
      have c3b0 : (a0 == 1) = true := beq_iff_eq.mpr c3
      have c3b1 : (a0 != 1) = false := bne_eq_false_iff_eq.mpr c3
      clear c3
      (first | rw [c3b0] | (simp only [i64_w, i32_w]; rw [c3b0]) | skip)
      have H' := Aside0.mk H
      clear H
      go_wp2
      go_meet
      case rel => exact ⟨_, ((a0 == 1)), (by first | rfl | (simp; done) | (simp [*]; done)), H', ⟨by first | omega | exact Nat.le_refl _⟩, by repeat (first | exact Drawn0.refl _ | apply Drawn0.step)⟩
    · rw [if_neg c3] at H
      have c3b0 : (a0 == 1) = false := beq_eq_false_iff_ne.mpr c3
      have c3b1 : (a0 != 1) = true := bne_iff_ne.mpr c3
      (first | rw [c3b0] | (simp only [i64_w, i32_w]; rw [c3b0]) | skip)
      by_cases c4 : a0 = 2
      · rw [if_pos c4] at H
        have c4b0 : (a0 == 2) = true := beq_iff_eq.mpr c4
        have c4b1 : (a0 != 2) = false := bne_eq_false_iff_eq.mpr c4
        clear c4
        have H' := Aside0.mk H
        clear H
        go_wp2
        go_meet
        case rel => exact ⟨_, ((a0 == 2)), (by first | rfl | (simp; done) | (simp [*]; done)), H', ⟨by first | omega | exact Nat.le_refl _⟩, by repeat (first | exact Drawn0.refl _ | apply Drawn0.step)⟩
      · rw [if_neg c4] at H
        have c4b0 : (a0 == 2) = false := beq_eq_false_iff_ne.mpr c4
        have c4b1 : (a0 != 2) = true := bne_iff_ne.mpr c4
        have H' := Aside0.mk H
        clear H
        go_wp2
        go_meet
        case rel => exact ⟨_, ((a0 == 3)), (by first | rfl | (simp; done) | (simp [*]; done)), H', ⟨by first | omega | exact Nat.le_refl _⟩, by repeat (first | exact Drawn0.refl _ | apply Drawn0.step)⟩
  case rest =>
    clear HC2
    try clear p2
    try clear c3
    try clear c3b0
    try clear c3b1
    try clear c4
    try clear c4b0
    try clear c4b1
    obtain ⟨kq, x4_1, rfl, HA, HJ1, ⟨mc1, rfl⟩⟩ := hcut
    cases kq with
    | zero => exact absurd HA.out (by simp [ast_opPrecedence.j0])
    | succ kj1 =>
      have H := HA.out
      clear HA
      simp only [ast_opPrecedence.j0] at H
      by_cases c5 : x4_1 = true
      · subst c5
        have H1 : (some 1) = some r := by rw [if_pos rfl] at H; exact H
        clear H
        have H := H1
        clear H1
        obtain rfl := Option.some.inj H
        go_wp2
        go_ret
        exact ⟨by first | rfl | (simp; done) | (simp [*]; done), by repeat (first | exact Drawn0.refl _ | apply Drawn0.step)⟩
      · replace c5 := Bool.eq_false_iff.mpr c5
        subst c5
        have H1 : ((ast_getIntForOp.f 4).bind fun t101 => (if a0 = t101 then (some 2) else ((ast_getIntForOp.f 1).bind fun t102 => (if a0 = t102 then (ast_opPrecedence.j1 kj1 a0 (a0 == t102)) else ((ast_getIntForOp.f 2).bind fun t103 => (if a0 = t103 then (ast_opPrecedence.j1 kj1 a0 (a0 == t103)) else ((ast_getIntForOp.f 3).bind fun t104 => (ast_opPrecedence.j1 kj1 a0 (a0 == t104))))))))) = some r := by rw [if_neg (show ¬ (false = true) by decide)] at H; exact H
        clear H
        have H := H1
        clear H1
        replace H := Option.bind_eq_some_iff.mp H
        obtain ⟨t101, A60, H⟩ := H
        replace H : (if a0 = t101 then (some 2) else ((ast_getIntForOp.f 1).bind fun t102 => (if a0 = t102 then (ast_opPrecedence.j1 kj1 a0 (a0 == t102)) else ((ast_getIntForOp.f 2).bind fun t103 => (if a0 = t103 then (ast_opPrecedence.j1 kj1 a0 (a0 == t103)) else ((ast_getIntForOp.f 3).bind fun t104 => (ast_opPrecedence.j1 kj1 a0 (a0 == t104)))))))) = some r := H
        have A6 := Aside0.mk A60
        clear A60
        by_cases c7 : a0 = t101
        · rw [if_pos c7] at H
          have c7b0 : (a0 == t101) = true := beq_iff_eq.mpr c7
          have c7b1 : (a0 != t101) = false := bne_eq_false_iff_eq.mpr c7
          clear c7
          obtain rfl := Option.some.inj H
          go_wp2_with (first | ((with_reducible refine gate_callee (f := 34) rfl ?_); refine goesL_ (some 9) rfl rfl Try.func34 (by kernel_rfl) rfl #[.int .i64 4] rfl (by (try simp only [List.map_toArray, List.map_cons, List.map_nil]); first | done | rfl | (simp only [List.length_drop, List.length_take]; rfl)) ?_; (with_reducible refine (ast_getIntForOp.calls 4 t101 _ A6.out).mono ?_); rintro e w' ⟨rfl, ⟨nd, rfl⟩⟩; refine ⟨_, rfl, ?_⟩))
          go_ret
          exact ⟨by first | rfl | (simp; done) | (simp [*]; done), by repeat (first | exact Drawn0.refl _ | apply Drawn0.step)⟩
        · rw [if_neg c7] at H
          have c7b0 : (a0 == t101) = false := beq_eq_false_iff_ne.mpr c7
          have c7b1 : (a0 != t101) = true := bne_iff_ne.mpr c7
          replace H := Option.bind_eq_some_iff.mp H
          obtain ⟨t102, A80, H⟩ := H
          replace H : (if a0 = t102 then (ast_opPrecedence.j1 kj1 a0 (a0 == t102)) else ((ast_getIntForOp.f 2).bind fun t103 => (if a0 = t103 then (ast_opPrecedence.j1 kj1 a0 (a0 == t103)) else ((ast_getIntForOp.f 3).bind fun t104 => (ast_opPrecedence.j1 kj1 a0 (a0 == t104)))))) = some r := H
          have A8 := Aside0.mk A80
          clear A80
          have HC9 := Aside0.mk H
          clear H
          go_upto_if 11 with (first | ((with_reducible refine gate_callee (f := 34) rfl ?_); refine goesL_ (some 9) rfl rfl Try.func34 (by kernel_rfl) rfl #[.int .i64 4] rfl (by (try simp only [List.map_toArray, List.map_cons, List.map_nil]); first | done | rfl | (simp only [List.length_drop, List.length_take]; rfl)) ?_; (with_reducible refine (ast_getIntForOp.calls 4 t101 _ A6.out).mono ?_); rintro e w' ⟨rfl, ⟨nd, rfl⟩⟩; refine ⟨_, rfl, ?_⟩) | ((with_reducible refine gate_callee (f := 34) rfl ?_); refine goesL_ (some 12) rfl rfl Try.func34 (by kernel_rfl) rfl #[.int .i64 1] rfl (by (try simp only [List.map_toArray, List.map_cons, List.map_nil]); first | done | rfl | (simp only [List.length_drop, List.length_take]; rfl)) ?_; (with_reducible refine (ast_getIntForOp.calls 1 t102 _ A8.out).mono ?_); rintro e w' ⟨rfl, ⟨nd, rfl⟩⟩; refine ⟨_, rfl, ?_⟩))
          (try simp only [Act.put, List.setIfInBounds_toArray, List.set_cons_zero, List.set_cons_succ])
          go_cut [11] (fun v11 wc => ∃ (kq : Nat) (x11_8 : Bool), v11 = .bool x11_8 ∧ Aside0 (ast_opPrecedence.j1 kq a0 x11_8 = some r) ∧ Aside0 (kq ≤ kj1) ∧ Drawn0 w wc)
          case first =>
            have H := HC9.out
            clear HC9
            by_cases c10 : a0 = t102
            · rw [if_pos c10] at H
              have c10b0 : (a0 == t102) = true := beq_iff_eq.mpr c10
              have c10b1 : (a0 != t102) = false := bne_eq_false_iff_eq.mpr c10
              clear c10
              (first | rw [c10b0] | (simp only [i64_w, i32_w]; rw [c10b0]) | skip)
              have H' := Aside0.mk H
              clear H
              go_wp2
              go_meet
              case rel => exact ⟨_, ((a0 == t102)), (by first | rfl | (simp; done) | (simp [*]; done)), H', ⟨by have := HJ1.out; first | omega | exact Nat.le_refl _⟩, by repeat (first | exact Drawn0.refl _ | apply Drawn0.step)⟩
            · rw [if_neg c10] at H
              have c10b0 : (a0 == t102) = false := beq_eq_false_iff_ne.mpr c10
              have c10b1 : (a0 != t102) = true := bne_iff_ne.mpr c10
              (first | rw [c10b0] | (simp only [i64_w, i32_w]; rw [c10b0]) | skip)
              replace H := Option.bind_eq_some_iff.mp H
              obtain ⟨t103, A110, H⟩ := H
              replace H : (if a0 = t103 then (ast_opPrecedence.j1 kj1 a0 (a0 == t103)) else ((ast_getIntForOp.f 3).bind fun t104 => (ast_opPrecedence.j1 kj1 a0 (a0 == t104)))) = some r := H
              have A11 := Aside0.mk A110
              clear A110
              by_cases c12 : a0 = t103
              · rw [if_pos c12] at H
                have c12b0 : (a0 == t103) = true := beq_iff_eq.mpr c12
                have c12b1 : (a0 != t103) = false := bne_eq_false_iff_eq.mpr c12
                clear c12
                have H' := Aside0.mk H
                clear H
                go_wp2_with (first | ((with_reducible refine gate_callee (f := 34) rfl ?_); refine goesL_ (some 14) rfl rfl Try.func34 (by kernel_rfl) rfl #[.int .i64 2] rfl (by (try simp only [List.map_toArray, List.map_cons, List.map_nil]); first | done | rfl | (simp only [List.length_drop, List.length_take]; rfl)) ?_; (with_reducible refine (ast_getIntForOp.calls 2 t103 _ A11.out).mono ?_); rintro e w' ⟨rfl, ⟨nd, rfl⟩⟩; refine ⟨_, rfl, ?_⟩))
                go_meet
                case rel => exact ⟨_, ((a0 == t103)), (by first | rfl | (simp; done) | (simp [*]; done)), H', ⟨by have := HJ1.out; first | omega | exact Nat.le_refl _⟩, by repeat (first | exact Drawn0.refl _ | apply Drawn0.step)⟩
              · rw [if_neg c12] at H
                have c12b0 : (a0 == t103) = false := beq_eq_false_iff_ne.mpr c12
                have c12b1 : (a0 != t103) = true := bne_iff_ne.mpr c12
                replace H := Option.bind_eq_some_iff.mp H
                obtain ⟨t104, A130, H⟩ := H
                replace H : (ast_opPrecedence.j1 kj1 a0 (a0 == t104)) = some r := H
                have A13 := Aside0.mk A130
                clear A130
                have H' := Aside0.mk H
                clear H
                go_wp2_with (first | ((with_reducible refine gate_callee (f := 34) rfl ?_); refine goesL_ (some 14) rfl rfl Try.func34 (by kernel_rfl) rfl #[.int .i64 2] rfl (by (try simp only [List.map_toArray, List.map_cons, List.map_nil]); first | done | rfl | (simp only [List.length_drop, List.length_take]; rfl)) ?_; (with_reducible refine (ast_getIntForOp.calls 2 t103 _ A11.out).mono ?_); rintro e w' ⟨rfl, ⟨nd, rfl⟩⟩; refine ⟨_, rfl, ?_⟩) | ((with_reducible refine gate_callee (f := 34) rfl ?_); refine goesL_ (some 16) rfl rfl Try.func34 (by kernel_rfl) rfl #[.int .i64 3] rfl (by (try simp only [List.map_toArray, List.map_cons, List.map_nil]); first | done | rfl | (simp only [List.length_drop, List.length_take]; rfl)) ?_; (with_reducible refine (ast_getIntForOp.calls 3 t104 _ A13.out).mono ?_); rintro e w' ⟨rfl, ⟨nd, rfl⟩⟩; refine ⟨_, rfl, ?_⟩))
                go_meet
                case rel => exact ⟨_, ((a0 == t104)), (by first | rfl | (simp; done) | (simp [*]; done)), H', ⟨by have := HJ1.out; first | omega | exact Nat.le_refl _⟩, by repeat (first | exact Drawn0.refl _ | apply Drawn0.step)⟩
          case rest =>
            clear HC9
            try clear c1
            try clear p2
            try clear c3
            try clear c3b0
            try clear c3b1
            try clear c4
            try clear c4b0
            try clear c4b1
            try clear c5
            try clear c7
            try clear c7b0
            try clear c7b1
            try clear c10
            try clear c10b0
            try clear c10b1
            try clear c12
            try clear c12b0
            try clear c12b1
            try clear p2
            obtain ⟨kq, x11_8, rfl, HA, HJ8, ⟨mc8, rfl⟩⟩ := hcut
            cases kq with
            | zero => exact absurd HA.out (by simp [ast_opPrecedence.j1])
            | succ kj8 =>
              have H := HA.out
              clear HA
              simp only [ast_opPrecedence.j1] at H
              by_cases c14 : x11_8 = true
              · subst c14
                have H1 : (some 3) = some r := by rw [if_pos rfl] at H; exact H
                clear H
                have H := H1
                clear H1
                obtain rfl := Option.some.inj H
                go_wp2
                go_ret
                exact ⟨by first | rfl | (simp; done) | (simp [*]; done), by repeat (first | exact Drawn0.refl _ | apply Drawn0.step)⟩
              · replace c14 := Bool.eq_false_iff.mpr c14
                subst c14
                have H1 : ((ast_getIntForOp.f 5).bind fun t105 => (if a0 = t105 then (ast_opPrecedence.j2 kj8 a0 (a0 == t105)) else ((ast_getIntForOp.f 6).bind fun t106 => (ast_opPrecedence.j2 kj8 a0 (a0 == t106))))) = some r := by rw [if_neg (show ¬ (false = true) by decide)] at H; exact H
                clear H
                have H := H1
                clear H1
                replace H := Option.bind_eq_some_iff.mp H
                obtain ⟨t105, A150, H⟩ := H
                replace H : (if a0 = t105 then (ast_opPrecedence.j2 kj8 a0 (a0 == t105)) else ((ast_getIntForOp.f 6).bind fun t106 => (ast_opPrecedence.j2 kj8 a0 (a0 == t106)))) = some r := H
                have A15 := Aside0.mk A150
                clear A150
                have HC16 := Aside0.mk H
                clear H
                go_upto_if 18 with (first | ((with_reducible refine gate_callee (f := 34) rfl ?_); refine goesL_ (some 19) rfl rfl Try.func34 (by kernel_rfl) rfl #[.int .i64 5] rfl (by (try simp only [List.map_toArray, List.map_cons, List.map_nil]); first | done | rfl | (simp only [List.length_drop, List.length_take]; rfl)) ?_; (with_reducible refine (ast_getIntForOp.calls 5 t105 _ A15.out).mono ?_); rintro e w' ⟨rfl, ⟨nd, rfl⟩⟩; refine ⟨_, rfl, ?_⟩))
                (try simp only [Act.put, List.setIfInBounds_toArray, List.set_cons_zero, List.set_cons_succ])
                go_cut [18] (fun v18 wc => ∃ (kq : Nat) (x18_15 : Bool), v18 = .bool x18_15 ∧ Aside0 (ast_opPrecedence.j2 kq a0 x18_15 = some r) ∧ Aside0 (kq ≤ kj8) ∧ Drawn0 w wc)
                case first =>
                  have H := HC16.out
                  clear HC16
                  by_cases c17 : a0 = t105
                  · rw [if_pos c17] at H
                    have c17b0 : (a0 == t105) = true := beq_iff_eq.mpr c17
                    have c17b1 : (a0 != t105) = false := bne_eq_false_iff_eq.mpr c17
                    clear c17
                    (first | rw [c17b0] | (simp only [i64_w, i32_w]; rw [c17b0]) | skip)
                    have H' := Aside0.mk H
                    clear H
                    go_wp2
                    go_meet
                    case rel => exact ⟨_, ((a0 == t105)), (by first | rfl | (simp; done) | (simp [*]; done)), H', ⟨by have := HJ1.out; have := HJ8.out; first | omega | exact Nat.le_refl _⟩, by repeat (first | exact Drawn0.refl _ | apply Drawn0.step)⟩
                  · rw [if_neg c17] at H
                    have c17b0 : (a0 == t105) = false := beq_eq_false_iff_ne.mpr c17
                    have c17b1 : (a0 != t105) = true := bne_iff_ne.mpr c17
                    (first | rw [c17b0] | (simp only [i64_w, i32_w]; rw [c17b0]) | skip)
                    replace H := Option.bind_eq_some_iff.mp H
                    obtain ⟨t106, A180, H⟩ := H
                    replace H : (ast_opPrecedence.j2 kj8 a0 (a0 == t106)) = some r := H
                    have A18 := Aside0.mk A180
                    clear A180
                    have H' := Aside0.mk H
                    clear H
                    go_wp2_with (first | ((with_reducible refine gate_callee (f := 34) rfl ?_); refine goesL_ (some 21) rfl rfl Try.func34 (by kernel_rfl) rfl #[.int .i64 6] rfl (by (try simp only [List.map_toArray, List.map_cons, List.map_nil]); first | done | rfl | (simp only [List.length_drop, List.length_take]; rfl)) ?_; (with_reducible refine (ast_getIntForOp.calls 6 t106 _ A18.out).mono ?_); rintro e w' ⟨rfl, ⟨nd, rfl⟩⟩; refine ⟨_, rfl, ?_⟩))
                    go_meet
                    case rel => exact ⟨_, ((a0 == t106)), (by first | rfl | (simp; done) | (simp [*]; done)), H', ⟨by have := HJ1.out; have := HJ8.out; first | omega | exact Nat.le_refl _⟩, by repeat (first | exact Drawn0.refl _ | apply Drawn0.step)⟩
                case rest =>
                  clear HC16
                  try clear c1
                  try clear p2
                  try clear c3
                  try clear c3b0
                  try clear c3b1
                  try clear c4
                  try clear c4b0
                  try clear c4b1
                  try clear c5
                  try clear c7
                  try clear c7b0
                  try clear c7b1
                  try clear c8
                  try clear c10
                  try clear c10b0
                  try clear c10b1
                  try clear c12
                  try clear c12b0
                  try clear c12b1
                  try clear c14
                  try clear c17
                  try clear c17b0
                  try clear c17b1
                  try clear p2
                  obtain ⟨kq, x18_15, rfl, HA, HJ15, ⟨mc15, rfl⟩⟩ := hcut
                  cases kq with
                  | zero => exact absurd HA.out (by simp [ast_opPrecedence.j2])
                  | succ kj15 =>
                    have H := HA.out
                    clear HA
                    simp only [ast_opPrecedence.j2] at H
                    by_cases c19 : x18_15 = true
                    · subst c19
                      have H1 : (some 4) = some r := by rw [if_pos rfl] at H; exact H
                      clear H
                      have H := H1
                      clear H1
                      obtain rfl := Option.some.inj H
                      go_wp2
                      go_ret
                      exact ⟨by first | rfl | (simp; done) | (simp [*]; done), by repeat (first | exact Drawn0.refl _ | apply Drawn0.step)⟩
                    · replace c19 := Bool.eq_false_iff.mpr c19
                      subst c19
                      have H1 : ((ast_getIntForOp.f 7).bind fun t107 => (if a0 = t107 then (ast_opPrecedence.j3 kj15 a0 (a0 == t107)) else ((ast_getIntForOp.f 8).bind fun t108 => (if a0 = t108 then (ast_opPrecedence.j3 kj15 a0 (a0 == t108)) else ((ast_getIntForOp.f 9).bind fun t109 => (if a0 = t109 then (ast_opPrecedence.j3 kj15 a0 (a0 == t109)) else ((ast_getIntForOp.f 10).bind fun t110 => (if a0 = t110 then (ast_opPrecedence.j3 kj15 a0 (a0 == t110)) else ((ast_getIntForOp.f 11).bind fun t111 => (if a0 = t111 then (ast_opPrecedence.j3 kj15 a0 (a0 == t111)) else ((ast_getIntForOp.f 12).bind fun t112 => (if a0 = t112 then (ast_opPrecedence.j3 kj15 a0 (a0 == t112)) else ((ast_getIntForOp.f 15).bind fun t113 => (if a0 = t113 then (ast_opPrecedence.j3 kj15 a0 (a0 == t113)) else ((ast_getIntForOp.f 16).bind fun t114 => (if a0 = t114 then (ast_opPrecedence.j3 kj15 a0 (a0 == t114)) else ((ast_getIntForOp.f 17).bind fun t115 => (if a0 = t115 then (ast_opPrecedence.j3 kj15 a0 (a0 == t115)) else ((ast_getIntForOp.f 18).bind fun t116 => (if a0 = t116 then (ast_opPrecedence.j3 kj15 a0 (a0 == t116)) else ((ast_getIntForOp.f 19).bind fun t117 => (if a0 = t117 then (ast_opPrecedence.j3 kj15 a0 (a0 == t117)) else ((ast_getIntForOp.f 20).bind fun t118 => (ast_opPrecedence.j3 kj15 a0 (a0 == t118))))))))))))))))))))))))) = some r := by rw [if_neg (show ¬ (false = true) by decide)] at H; exact H
                      clear H
                      have H := H1
                      clear H1
                      replace H := Option.bind_eq_some_iff.mp H
                      obtain ⟨t107, A200, H⟩ := H
                      replace H : (if a0 = t107 then (ast_opPrecedence.j3 kj15 a0 (a0 == t107)) else ((ast_getIntForOp.f 8).bind fun t108 => (if a0 = t108 then (ast_opPrecedence.j3 kj15 a0 (a0 == t108)) else ((ast_getIntForOp.f 9).bind fun t109 => (if a0 = t109 then (ast_opPrecedence.j3 kj15 a0 (a0 == t109)) else ((ast_getIntForOp.f 10).bind fun t110 => (if a0 = t110 then (ast_opPrecedence.j3 kj15 a0 (a0 == t110)) else ((ast_getIntForOp.f 11).bind fun t111 => (if a0 = t111 then (ast_opPrecedence.j3 kj15 a0 (a0 == t111)) else ((ast_getIntForOp.f 12).bind fun t112 => (if a0 = t112 then (ast_opPrecedence.j3 kj15 a0 (a0 == t112)) else ((ast_getIntForOp.f 15).bind fun t113 => (if a0 = t113 then (ast_opPrecedence.j3 kj15 a0 (a0 == t113)) else ((ast_getIntForOp.f 16).bind fun t114 => (if a0 = t114 then (ast_opPrecedence.j3 kj15 a0 (a0 == t114)) else ((ast_getIntForOp.f 17).bind fun t115 => (if a0 = t115 then (ast_opPrecedence.j3 kj15 a0 (a0 == t115)) else ((ast_getIntForOp.f 18).bind fun t116 => (if a0 = t116 then (ast_opPrecedence.j3 kj15 a0 (a0 == t116)) else ((ast_getIntForOp.f 19).bind fun t117 => (if a0 = t117 then (ast_opPrecedence.j3 kj15 a0 (a0 == t117)) else ((ast_getIntForOp.f 20).bind fun t118 => (ast_opPrecedence.j3 kj15 a0 (a0 == t118)))))))))))))))))))))))) = some r := H
                      have A20 := Aside0.mk A200
                      clear A200
                      have HC21 := Aside0.mk H
                      clear H
                      go_upto_if 23 with (first | ((with_reducible refine gate_callee (f := 34) rfl ?_); refine goesL_ (some 24) rfl rfl Try.func34 (by kernel_rfl) rfl #[.int .i64 7] rfl (by (try simp only [List.map_toArray, List.map_cons, List.map_nil]); first | done | rfl | (simp only [List.length_drop, List.length_take]; rfl)) ?_; (with_reducible refine (ast_getIntForOp.calls 7 t107 _ A20.out).mono ?_); rintro e w' ⟨rfl, ⟨nd, rfl⟩⟩; refine ⟨_, rfl, ?_⟩))
                      (try simp only [Act.put, List.setIfInBounds_toArray, List.set_cons_zero, List.set_cons_succ])
                      go_cut [23] (fun v23 wc => ∃ (kq : Nat) (x23_20 : Bool), v23 = .bool x23_20 ∧ Aside0 (ast_opPrecedence.j3 kq a0 x23_20 = some r) ∧ Aside0 (kq ≤ kj15) ∧ Drawn0 w wc)
                      case first =>
                        have H := HC21.out
                        clear HC21
                        by_cases c22 : a0 = t107
                        · rw [if_pos c22] at H
                          have c22b0 : (a0 == t107) = true := beq_iff_eq.mpr c22
                          have c22b1 : (a0 != t107) = false := bne_eq_false_iff_eq.mpr c22
                          clear c22
                          (first | rw [c22b0] | (simp only [i64_w, i32_w]; rw [c22b0]) | skip)
                          have H' := Aside0.mk H
                          clear H
                          go_wp2
                          go_meet
                          case rel => exact ⟨_, ((a0 == t107)), (by first | rfl | (simp; done) | (simp [*]; done)), H', ⟨by have := HJ1.out; have := HJ8.out; have := HJ15.out; first | omega | exact Nat.le_refl _⟩, by repeat (first | exact Drawn0.refl _ | apply Drawn0.step)⟩
                        · rw [if_neg c22] at H
                          have c22b0 : (a0 == t107) = false := beq_eq_false_iff_ne.mpr c22
                          have c22b1 : (a0 != t107) = true := bne_iff_ne.mpr c22
                          (first | rw [c22b0] | (simp only [i64_w, i32_w]; rw [c22b0]) | skip)
                          replace H := Option.bind_eq_some_iff.mp H
                          obtain ⟨t108, A230, H⟩ := H
                          replace H : (if a0 = t108 then (ast_opPrecedence.j3 kj15 a0 (a0 == t108)) else ((ast_getIntForOp.f 9).bind fun t109 => (if a0 = t109 then (ast_opPrecedence.j3 kj15 a0 (a0 == t109)) else ((ast_getIntForOp.f 10).bind fun t110 => (if a0 = t110 then (ast_opPrecedence.j3 kj15 a0 (a0 == t110)) else ((ast_getIntForOp.f 11).bind fun t111 => (if a0 = t111 then (ast_opPrecedence.j3 kj15 a0 (a0 == t111)) else ((ast_getIntForOp.f 12).bind fun t112 => (if a0 = t112 then (ast_opPrecedence.j3 kj15 a0 (a0 == t112)) else ((ast_getIntForOp.f 15).bind fun t113 => (if a0 = t113 then (ast_opPrecedence.j3 kj15 a0 (a0 == t113)) else ((ast_getIntForOp.f 16).bind fun t114 => (if a0 = t114 then (ast_opPrecedence.j3 kj15 a0 (a0 == t114)) else ((ast_getIntForOp.f 17).bind fun t115 => (if a0 = t115 then (ast_opPrecedence.j3 kj15 a0 (a0 == t115)) else ((ast_getIntForOp.f 18).bind fun t116 => (if a0 = t116 then (ast_opPrecedence.j3 kj15 a0 (a0 == t116)) else ((ast_getIntForOp.f 19).bind fun t117 => (if a0 = t117 then (ast_opPrecedence.j3 kj15 a0 (a0 == t117)) else ((ast_getIntForOp.f 20).bind fun t118 => (ast_opPrecedence.j3 kj15 a0 (a0 == t118)))))))))))))))))))))) = some r := H
                          have A23 := Aside0.mk A230
                          clear A230
                          by_cases c24 : a0 = t108
                          · rw [if_pos c24] at H
                            have c24b0 : (a0 == t108) = true := beq_iff_eq.mpr c24
                            have c24b1 : (a0 != t108) = false := bne_eq_false_iff_eq.mpr c24
                            clear c24
                            have H' := Aside0.mk H
                            clear H
                            go_wp2_with (first | ((with_reducible refine gate_callee (f := 34) rfl ?_); refine goesL_ (some 26) rfl rfl Try.func34 (by kernel_rfl) rfl #[.int .i64 8] rfl (by (try simp only [List.map_toArray, List.map_cons, List.map_nil]); first | done | rfl | (simp only [List.length_drop, List.length_take]; rfl)) ?_; (with_reducible refine (ast_getIntForOp.calls 8 t108 _ A23.out).mono ?_); rintro e w' ⟨rfl, ⟨nd, rfl⟩⟩; refine ⟨_, rfl, ?_⟩))
                            go_meet
                            case rel => exact ⟨_, ((a0 == t108)), (by first | rfl | (simp; done) | (simp [*]; done)), H', ⟨by have := HJ1.out; have := HJ8.out; have := HJ15.out; first | omega | exact Nat.le_refl _⟩, by repeat (first | exact Drawn0.refl _ | apply Drawn0.step)⟩
                          · rw [if_neg c24] at H
                            have c24b0 : (a0 == t108) = false := beq_eq_false_iff_ne.mpr c24
                            have c24b1 : (a0 != t108) = true := bne_iff_ne.mpr c24
                            replace H := Option.bind_eq_some_iff.mp H
                            obtain ⟨t109, A250, H⟩ := H
                            replace H : (if a0 = t109 then (ast_opPrecedence.j3 kj15 a0 (a0 == t109)) else ((ast_getIntForOp.f 10).bind fun t110 => (if a0 = t110 then (ast_opPrecedence.j3 kj15 a0 (a0 == t110)) else ((ast_getIntForOp.f 11).bind fun t111 => (if a0 = t111 then (ast_opPrecedence.j3 kj15 a0 (a0 == t111)) else ((ast_getIntForOp.f 12).bind fun t112 => (if a0 = t112 then (ast_opPrecedence.j3 kj15 a0 (a0 == t112)) else ((ast_getIntForOp.f 15).bind fun t113 => (if a0 = t113 then (ast_opPrecedence.j3 kj15 a0 (a0 == t113)) else ((ast_getIntForOp.f 16).bind fun t114 => (if a0 = t114 then (ast_opPrecedence.j3 kj15 a0 (a0 == t114)) else ((ast_getIntForOp.f 17).bind fun t115 => (if a0 = t115 then (ast_opPrecedence.j3 kj15 a0 (a0 == t115)) else ((ast_getIntForOp.f 18).bind fun t116 => (if a0 = t116 then (ast_opPrecedence.j3 kj15 a0 (a0 == t116)) else ((ast_getIntForOp.f 19).bind fun t117 => (if a0 = t117 then (ast_opPrecedence.j3 kj15 a0 (a0 == t117)) else ((ast_getIntForOp.f 20).bind fun t118 => (ast_opPrecedence.j3 kj15 a0 (a0 == t118)))))))))))))))))))) = some r := H
                            have A25 := Aside0.mk A250
                            clear A250
                            by_cases c26 : a0 = t109
                            · rw [if_pos c26] at H
                              have c26b0 : (a0 == t109) = true := beq_iff_eq.mpr c26
                              have c26b1 : (a0 != t109) = false := bne_eq_false_iff_eq.mpr c26
                              clear c26
                              have H' := Aside0.mk H
                              clear H
                              go_wp2_with (first | ((with_reducible refine gate_callee (f := 34) rfl ?_); refine goesL_ (some 26) rfl rfl Try.func34 (by kernel_rfl) rfl #[.int .i64 8] rfl (by (try simp only [List.map_toArray, List.map_cons, List.map_nil]); first | done | rfl | (simp only [List.length_drop, List.length_take]; rfl)) ?_; (with_reducible refine (ast_getIntForOp.calls 8 t108 _ A23.out).mono ?_); rintro e w' ⟨rfl, ⟨nd, rfl⟩⟩; refine ⟨_, rfl, ?_⟩) | ((with_reducible refine gate_callee (f := 34) rfl ?_); refine goesL_ (some 28) rfl rfl Try.func34 (by kernel_rfl) rfl #[.int .i64 9] rfl (by (try simp only [List.map_toArray, List.map_cons, List.map_nil]); first | done | rfl | (simp only [List.length_drop, List.length_take]; rfl)) ?_; (with_reducible refine (ast_getIntForOp.calls 9 t109 _ A25.out).mono ?_); rintro e w' ⟨rfl, ⟨nd, rfl⟩⟩; refine ⟨_, rfl, ?_⟩))
                              go_meet
                              case rel => exact ⟨_, ((a0 == t109)), (by first | rfl | (simp; done) | (simp [*]; done)), H', ⟨by have := HJ1.out; have := HJ8.out; have := HJ15.out; first | omega | exact Nat.le_refl _⟩, by repeat (first | exact Drawn0.refl _ | apply Drawn0.step)⟩
                            · rw [if_neg c26] at H
                              have c26b0 : (a0 == t109) = false := beq_eq_false_iff_ne.mpr c26
                              have c26b1 : (a0 != t109) = true := bne_iff_ne.mpr c26
                              replace H := Option.bind_eq_some_iff.mp H
                              obtain ⟨t110, A270, H⟩ := H
                              replace H : (if a0 = t110 then (ast_opPrecedence.j3 kj15 a0 (a0 == t110)) else ((ast_getIntForOp.f 11).bind fun t111 => (if a0 = t111 then (ast_opPrecedence.j3 kj15 a0 (a0 == t111)) else ((ast_getIntForOp.f 12).bind fun t112 => (if a0 = t112 then (ast_opPrecedence.j3 kj15 a0 (a0 == t112)) else ((ast_getIntForOp.f 15).bind fun t113 => (if a0 = t113 then (ast_opPrecedence.j3 kj15 a0 (a0 == t113)) else ((ast_getIntForOp.f 16).bind fun t114 => (if a0 = t114 then (ast_opPrecedence.j3 kj15 a0 (a0 == t114)) else ((ast_getIntForOp.f 17).bind fun t115 => (if a0 = t115 then (ast_opPrecedence.j3 kj15 a0 (a0 == t115)) else ((ast_getIntForOp.f 18).bind fun t116 => (if a0 = t116 then (ast_opPrecedence.j3 kj15 a0 (a0 == t116)) else ((ast_getIntForOp.f 19).bind fun t117 => (if a0 = t117 then (ast_opPrecedence.j3 kj15 a0 (a0 == t117)) else ((ast_getIntForOp.f 20).bind fun t118 => (ast_opPrecedence.j3 kj15 a0 (a0 == t118)))))))))))))))))) = some r := H
                              have A27 := Aside0.mk A270
                              clear A270
                              by_cases c28 : a0 = t110
                              · rw [if_pos c28] at H
                                have c28b0 : (a0 == t110) = true := beq_iff_eq.mpr c28
                                have c28b1 : (a0 != t110) = false := bne_eq_false_iff_eq.mpr c28
                                clear c28
                                have H' := Aside0.mk H
                                clear H
                                go_wp2_with (first | ((with_reducible refine gate_callee (f := 34) rfl ?_); refine goesL_ (some 26) rfl rfl Try.func34 (by kernel_rfl) rfl #[.int .i64 8] rfl (by (try simp only [List.map_toArray, List.map_cons, List.map_nil]); first | done | rfl | (simp only [List.length_drop, List.length_take]; rfl)) ?_; (with_reducible refine (ast_getIntForOp.calls 8 t108 _ A23.out).mono ?_); rintro e w' ⟨rfl, ⟨nd, rfl⟩⟩; refine ⟨_, rfl, ?_⟩) | ((with_reducible refine gate_callee (f := 34) rfl ?_); refine goesL_ (some 28) rfl rfl Try.func34 (by kernel_rfl) rfl #[.int .i64 9] rfl (by (try simp only [List.map_toArray, List.map_cons, List.map_nil]); first | done | rfl | (simp only [List.length_drop, List.length_take]; rfl)) ?_; (with_reducible refine (ast_getIntForOp.calls 9 t109 _ A25.out).mono ?_); rintro e w' ⟨rfl, ⟨nd, rfl⟩⟩; refine ⟨_, rfl, ?_⟩) | ((with_reducible refine gate_callee (f := 34) rfl ?_); refine goesL_ (some 30) rfl rfl Try.func34 (by kernel_rfl) rfl #[.int .i64 10] rfl (by (try simp only [List.map_toArray, List.map_cons, List.map_nil]); first | done | rfl | (simp only [List.length_drop, List.length_take]; rfl)) ?_; (with_reducible refine (ast_getIntForOp.calls 10 t110 _ A27.out).mono ?_); rintro e w' ⟨rfl, ⟨nd, rfl⟩⟩; refine ⟨_, rfl, ?_⟩))
                                go_meet
                                case rel => exact ⟨_, ((a0 == t110)), (by first | rfl | (simp; done) | (simp [*]; done)), H', ⟨by have := HJ1.out; have := HJ8.out; have := HJ15.out; first | omega | exact Nat.le_refl _⟩, by repeat (first | exact Drawn0.refl _ | apply Drawn0.step)⟩
                              · rw [if_neg c28] at H
                                have c28b0 : (a0 == t110) = false := beq_eq_false_iff_ne.mpr c28
                                have c28b1 : (a0 != t110) = true := bne_iff_ne.mpr c28
                                replace H := Option.bind_eq_some_iff.mp H
                                obtain ⟨t111, A290, H⟩ := H
                                replace H : (if a0 = t111 then (ast_opPrecedence.j3 kj15 a0 (a0 == t111)) else ((ast_getIntForOp.f 12).bind fun t112 => (if a0 = t112 then (ast_opPrecedence.j3 kj15 a0 (a0 == t112)) else ((ast_getIntForOp.f 15).bind fun t113 => (if a0 = t113 then (ast_opPrecedence.j3 kj15 a0 (a0 == t113)) else ((ast_getIntForOp.f 16).bind fun t114 => (if a0 = t114 then (ast_opPrecedence.j3 kj15 a0 (a0 == t114)) else ((ast_getIntForOp.f 17).bind fun t115 => (if a0 = t115 then (ast_opPrecedence.j3 kj15 a0 (a0 == t115)) else ((ast_getIntForOp.f 18).bind fun t116 => (if a0 = t116 then (ast_opPrecedence.j3 kj15 a0 (a0 == t116)) else ((ast_getIntForOp.f 19).bind fun t117 => (if a0 = t117 then (ast_opPrecedence.j3 kj15 a0 (a0 == t117)) else ((ast_getIntForOp.f 20).bind fun t118 => (ast_opPrecedence.j3 kj15 a0 (a0 == t118)))))))))))))))) = some r := H
                                have A29 := Aside0.mk A290
                                clear A290
                                by_cases c30 : a0 = t111
                                · rw [if_pos c30] at H
                                  have c30b0 : (a0 == t111) = true := beq_iff_eq.mpr c30
                                  have c30b1 : (a0 != t111) = false := bne_eq_false_iff_eq.mpr c30
                                  clear c30
                                  have H' := Aside0.mk H
                                  clear H
                                  go_wp2_with (first | ((with_reducible refine gate_callee (f := 34) rfl ?_); refine goesL_ (some 26) rfl rfl Try.func34 (by kernel_rfl) rfl #[.int .i64 8] rfl (by (try simp only [List.map_toArray, List.map_cons, List.map_nil]); first | done | rfl | (simp only [List.length_drop, List.length_take]; rfl)) ?_; (with_reducible refine (ast_getIntForOp.calls 8 t108 _ A23.out).mono ?_); rintro e w' ⟨rfl, ⟨nd, rfl⟩⟩; refine ⟨_, rfl, ?_⟩) | ((with_reducible refine gate_callee (f := 34) rfl ?_); refine goesL_ (some 28) rfl rfl Try.func34 (by kernel_rfl) rfl #[.int .i64 9] rfl (by (try simp only [List.map_toArray, List.map_cons, List.map_nil]); first | done | rfl | (simp only [List.length_drop, List.length_take]; rfl)) ?_; (with_reducible refine (ast_getIntForOp.calls 9 t109 _ A25.out).mono ?_); rintro e w' ⟨rfl, ⟨nd, rfl⟩⟩; refine ⟨_, rfl, ?_⟩) | ((with_reducible refine gate_callee (f := 34) rfl ?_); refine goesL_ (some 30) rfl rfl Try.func34 (by kernel_rfl) rfl #[.int .i64 10] rfl (by (try simp only [List.map_toArray, List.map_cons, List.map_nil]); first | done | rfl | (simp only [List.length_drop, List.length_take]; rfl)) ?_; (with_reducible refine (ast_getIntForOp.calls 10 t110 _ A27.out).mono ?_); rintro e w' ⟨rfl, ⟨nd, rfl⟩⟩; refine ⟨_, rfl, ?_⟩) | ((with_reducible refine gate_callee (f := 34) rfl ?_); refine goesL_ (some 32) rfl rfl Try.func34 (by kernel_rfl) rfl #[.int .i64 11] rfl (by (try simp only [List.map_toArray, List.map_cons, List.map_nil]); first | done | rfl | (simp only [List.length_drop, List.length_take]; rfl)) ?_; (with_reducible refine (ast_getIntForOp.calls 11 t111 _ A29.out).mono ?_); rintro e w' ⟨rfl, ⟨nd, rfl⟩⟩; refine ⟨_, rfl, ?_⟩))
                                  go_meet
                                  case rel => exact ⟨_, ((a0 == t111)), (by first | rfl | (simp; done) | (simp [*]; done)), H', ⟨by have := HJ1.out; have := HJ8.out; have := HJ15.out; first | omega | exact Nat.le_refl _⟩, by repeat (first | exact Drawn0.refl _ | apply Drawn0.step)⟩
                                · rw [if_neg c30] at H
                                  have c30b0 : (a0 == t111) = false := beq_eq_false_iff_ne.mpr c30
                                  have c30b1 : (a0 != t111) = true := bne_iff_ne.mpr c30
                                  replace H := Option.bind_eq_some_iff.mp H
                                  obtain ⟨t112, A310, H⟩ := H
                                  replace H : (if a0 = t112 then (ast_opPrecedence.j3 kj15 a0 (a0 == t112)) else ((ast_getIntForOp.f 15).bind fun t113 => (if a0 = t113 then (ast_opPrecedence.j3 kj15 a0 (a0 == t113)) else ((ast_getIntForOp.f 16).bind fun t114 => (if a0 = t114 then (ast_opPrecedence.j3 kj15 a0 (a0 == t114)) else ((ast_getIntForOp.f 17).bind fun t115 => (if a0 = t115 then (ast_opPrecedence.j3 kj15 a0 (a0 == t115)) else ((ast_getIntForOp.f 18).bind fun t116 => (if a0 = t116 then (ast_opPrecedence.j3 kj15 a0 (a0 == t116)) else ((ast_getIntForOp.f 19).bind fun t117 => (if a0 = t117 then (ast_opPrecedence.j3 kj15 a0 (a0 == t117)) else ((ast_getIntForOp.f 20).bind fun t118 => (ast_opPrecedence.j3 kj15 a0 (a0 == t118)))))))))))))) = some r := H
                                  have A31 := Aside0.mk A310
                                  clear A310
                                  by_cases c32 : a0 = t112
                                  · rw [if_pos c32] at H
                                    have c32b0 : (a0 == t112) = true := beq_iff_eq.mpr c32
                                    have c32b1 : (a0 != t112) = false := bne_eq_false_iff_eq.mpr c32
                                    clear c32
                                    have H' := Aside0.mk H
                                    clear H
                                    go_wp2_with (first | ((with_reducible refine gate_callee (f := 34) rfl ?_); refine goesL_ (some 26) rfl rfl Try.func34 (by kernel_rfl) rfl #[.int .i64 8] rfl (by (try simp only [List.map_toArray, List.map_cons, List.map_nil]); first | done | rfl | (simp only [List.length_drop, List.length_take]; rfl)) ?_; (with_reducible refine (ast_getIntForOp.calls 8 t108 _ A23.out).mono ?_); rintro e w' ⟨rfl, ⟨nd, rfl⟩⟩; refine ⟨_, rfl, ?_⟩) | ((with_reducible refine gate_callee (f := 34) rfl ?_); refine goesL_ (some 28) rfl rfl Try.func34 (by kernel_rfl) rfl #[.int .i64 9] rfl (by (try simp only [List.map_toArray, List.map_cons, List.map_nil]); first | done | rfl | (simp only [List.length_drop, List.length_take]; rfl)) ?_; (with_reducible refine (ast_getIntForOp.calls 9 t109 _ A25.out).mono ?_); rintro e w' ⟨rfl, ⟨nd, rfl⟩⟩; refine ⟨_, rfl, ?_⟩) | ((with_reducible refine gate_callee (f := 34) rfl ?_); refine goesL_ (some 30) rfl rfl Try.func34 (by kernel_rfl) rfl #[.int .i64 10] rfl (by (try simp only [List.map_toArray, List.map_cons, List.map_nil]); first | done | rfl | (simp only [List.length_drop, List.length_take]; rfl)) ?_; (with_reducible refine (ast_getIntForOp.calls 10 t110 _ A27.out).mono ?_); rintro e w' ⟨rfl, ⟨nd, rfl⟩⟩; refine ⟨_, rfl, ?_⟩) | ((with_reducible refine gate_callee (f := 34) rfl ?_); refine goesL_ (some 32) rfl rfl Try.func34 (by kernel_rfl) rfl #[.int .i64 11] rfl (by (try simp only [List.map_toArray, List.map_cons, List.map_nil]); first | done | rfl | (simp only [List.length_drop, List.length_take]; rfl)) ?_; (with_reducible refine (ast_getIntForOp.calls 11 t111 _ A29.out).mono ?_); rintro e w' ⟨rfl, ⟨nd, rfl⟩⟩; refine ⟨_, rfl, ?_⟩) | ((with_reducible refine gate_callee (f := 34) rfl ?_); refine goesL_ (some 34) rfl rfl Try.func34 (by kernel_rfl) rfl #[.int .i64 12] rfl (by (try simp only [List.map_toArray, List.map_cons, List.map_nil]); first | done | rfl | (simp only [List.length_drop, List.length_take]; rfl)) ?_; (with_reducible refine (ast_getIntForOp.calls 12 t112 _ A31.out).mono ?_); rintro e w' ⟨rfl, ⟨nd, rfl⟩⟩; refine ⟨_, rfl, ?_⟩))
                                    go_meet
                                    case rel => exact ⟨_, ((a0 == t112)), (by first | rfl | (simp; done) | (simp [*]; done)), H', ⟨by have := HJ1.out; have := HJ8.out; have := HJ15.out; first | omega | exact Nat.le_refl _⟩, by repeat (first | exact Drawn0.refl _ | apply Drawn0.step)⟩
                                  · rw [if_neg c32] at H
                                    have c32b0 : (a0 == t112) = false := beq_eq_false_iff_ne.mpr c32
                                    have c32b1 : (a0 != t112) = true := bne_iff_ne.mpr c32
                                    replace H := Option.bind_eq_some_iff.mp H
                                    obtain ⟨t113, A330, H⟩ := H
                                    replace H : (if a0 = t113 then (ast_opPrecedence.j3 kj15 a0 (a0 == t113)) else ((ast_getIntForOp.f 16).bind fun t114 => (if a0 = t114 then (ast_opPrecedence.j3 kj15 a0 (a0 == t114)) else ((ast_getIntForOp.f 17).bind fun t115 => (if a0 = t115 then (ast_opPrecedence.j3 kj15 a0 (a0 == t115)) else ((ast_getIntForOp.f 18).bind fun t116 => (if a0 = t116 then (ast_opPrecedence.j3 kj15 a0 (a0 == t116)) else ((ast_getIntForOp.f 19).bind fun t117 => (if a0 = t117 then (ast_opPrecedence.j3 kj15 a0 (a0 == t117)) else ((ast_getIntForOp.f 20).bind fun t118 => (ast_opPrecedence.j3 kj15 a0 (a0 == t118)))))))))))) = some r := H
                                    have A33 := Aside0.mk A330
                                    clear A330
                                    by_cases c34 : a0 = t113
                                    · rw [if_pos c34] at H
                                      have c34b0 : (a0 == t113) = true := beq_iff_eq.mpr c34
                                      have c34b1 : (a0 != t113) = false := bne_eq_false_iff_eq.mpr c34
                                      clear c34
                                      have H' := Aside0.mk H
                                      clear H
                                      go_wp2_with (first | ((with_reducible refine gate_callee (f := 34) rfl ?_); refine goesL_ (some 26) rfl rfl Try.func34 (by kernel_rfl) rfl #[.int .i64 8] rfl (by (try simp only [List.map_toArray, List.map_cons, List.map_nil]); first | done | rfl | (simp only [List.length_drop, List.length_take]; rfl)) ?_; (with_reducible refine (ast_getIntForOp.calls 8 t108 _ A23.out).mono ?_); rintro e w' ⟨rfl, ⟨nd, rfl⟩⟩; refine ⟨_, rfl, ?_⟩) | ((with_reducible refine gate_callee (f := 34) rfl ?_); refine goesL_ (some 28) rfl rfl Try.func34 (by kernel_rfl) rfl #[.int .i64 9] rfl (by (try simp only [List.map_toArray, List.map_cons, List.map_nil]); first | done | rfl | (simp only [List.length_drop, List.length_take]; rfl)) ?_; (with_reducible refine (ast_getIntForOp.calls 9 t109 _ A25.out).mono ?_); rintro e w' ⟨rfl, ⟨nd, rfl⟩⟩; refine ⟨_, rfl, ?_⟩) | ((with_reducible refine gate_callee (f := 34) rfl ?_); refine goesL_ (some 30) rfl rfl Try.func34 (by kernel_rfl) rfl #[.int .i64 10] rfl (by (try simp only [List.map_toArray, List.map_cons, List.map_nil]); first | done | rfl | (simp only [List.length_drop, List.length_take]; rfl)) ?_; (with_reducible refine (ast_getIntForOp.calls 10 t110 _ A27.out).mono ?_); rintro e w' ⟨rfl, ⟨nd, rfl⟩⟩; refine ⟨_, rfl, ?_⟩) | ((with_reducible refine gate_callee (f := 34) rfl ?_); refine goesL_ (some 32) rfl rfl Try.func34 (by kernel_rfl) rfl #[.int .i64 11] rfl (by (try simp only [List.map_toArray, List.map_cons, List.map_nil]); first | done | rfl | (simp only [List.length_drop, List.length_take]; rfl)) ?_; (with_reducible refine (ast_getIntForOp.calls 11 t111 _ A29.out).mono ?_); rintro e w' ⟨rfl, ⟨nd, rfl⟩⟩; refine ⟨_, rfl, ?_⟩) | ((with_reducible refine gate_callee (f := 34) rfl ?_); refine goesL_ (some 34) rfl rfl Try.func34 (by kernel_rfl) rfl #[.int .i64 12] rfl (by (try simp only [List.map_toArray, List.map_cons, List.map_nil]); first | done | rfl | (simp only [List.length_drop, List.length_take]; rfl)) ?_; (with_reducible refine (ast_getIntForOp.calls 12 t112 _ A31.out).mono ?_); rintro e w' ⟨rfl, ⟨nd, rfl⟩⟩; refine ⟨_, rfl, ?_⟩) | ((with_reducible refine gate_callee (f := 34) rfl ?_); refine goesL_ (some 36) rfl rfl Try.func34 (by kernel_rfl) rfl #[.int .i64 15] rfl (by (try simp only [List.map_toArray, List.map_cons, List.map_nil]); first | done | rfl | (simp only [List.length_drop, List.length_take]; rfl)) ?_; (with_reducible refine (ast_getIntForOp.calls 15 t113 _ A33.out).mono ?_); rintro e w' ⟨rfl, ⟨nd, rfl⟩⟩; refine ⟨_, rfl, ?_⟩))
                                      go_meet
                                      case rel => exact ⟨_, ((a0 == t113)), (by first | rfl | (simp; done) | (simp [*]; done)), H', ⟨by have := HJ1.out; have := HJ8.out; have := HJ15.out; first | omega | exact Nat.le_refl _⟩, by repeat (first | exact Drawn0.refl _ | apply Drawn0.step)⟩
                                    · rw [if_neg c34] at H
                                      have c34b0 : (a0 == t113) = false := beq_eq_false_iff_ne.mpr c34
                                      have c34b1 : (a0 != t113) = true := bne_iff_ne.mpr c34
                                      replace H := Option.bind_eq_some_iff.mp H
                                      obtain ⟨t114, A350, H⟩ := H
                                      replace H : (if a0 = t114 then (ast_opPrecedence.j3 kj15 a0 (a0 == t114)) else ((ast_getIntForOp.f 17).bind fun t115 => (if a0 = t115 then (ast_opPrecedence.j3 kj15 a0 (a0 == t115)) else ((ast_getIntForOp.f 18).bind fun t116 => (if a0 = t116 then (ast_opPrecedence.j3 kj15 a0 (a0 == t116)) else ((ast_getIntForOp.f 19).bind fun t117 => (if a0 = t117 then (ast_opPrecedence.j3 kj15 a0 (a0 == t117)) else ((ast_getIntForOp.f 20).bind fun t118 => (ast_opPrecedence.j3 kj15 a0 (a0 == t118)))))))))) = some r := H
                                      have A35 := Aside0.mk A350
                                      clear A350
                                      by_cases c36 : a0 = t114
                                      · rw [if_pos c36] at H
                                        have c36b0 : (a0 == t114) = true := beq_iff_eq.mpr c36
                                        have c36b1 : (a0 != t114) = false := bne_eq_false_iff_eq.mpr c36
                                        clear c36
                                        have H' := Aside0.mk H
                                        clear H
                                        go_wp2_with (first | ((with_reducible refine gate_callee (f := 34) rfl ?_); refine goesL_ (some 26) rfl rfl Try.func34 (by kernel_rfl) rfl #[.int .i64 8] rfl (by (try simp only [List.map_toArray, List.map_cons, List.map_nil]); first | done | rfl | (simp only [List.length_drop, List.length_take]; rfl)) ?_; (with_reducible refine (ast_getIntForOp.calls 8 t108 _ A23.out).mono ?_); rintro e w' ⟨rfl, ⟨nd, rfl⟩⟩; refine ⟨_, rfl, ?_⟩) | ((with_reducible refine gate_callee (f := 34) rfl ?_); refine goesL_ (some 28) rfl rfl Try.func34 (by kernel_rfl) rfl #[.int .i64 9] rfl (by (try simp only [List.map_toArray, List.map_cons, List.map_nil]); first | done | rfl | (simp only [List.length_drop, List.length_take]; rfl)) ?_; (with_reducible refine (ast_getIntForOp.calls 9 t109 _ A25.out).mono ?_); rintro e w' ⟨rfl, ⟨nd, rfl⟩⟩; refine ⟨_, rfl, ?_⟩) | ((with_reducible refine gate_callee (f := 34) rfl ?_); refine goesL_ (some 30) rfl rfl Try.func34 (by kernel_rfl) rfl #[.int .i64 10] rfl (by (try simp only [List.map_toArray, List.map_cons, List.map_nil]); first | done | rfl | (simp only [List.length_drop, List.length_take]; rfl)) ?_; (with_reducible refine (ast_getIntForOp.calls 10 t110 _ A27.out).mono ?_); rintro e w' ⟨rfl, ⟨nd, rfl⟩⟩; refine ⟨_, rfl, ?_⟩) | ((with_reducible refine gate_callee (f := 34) rfl ?_); refine goesL_ (some 32) rfl rfl Try.func34 (by kernel_rfl) rfl #[.int .i64 11] rfl (by (try simp only [List.map_toArray, List.map_cons, List.map_nil]); first | done | rfl | (simp only [List.length_drop, List.length_take]; rfl)) ?_; (with_reducible refine (ast_getIntForOp.calls 11 t111 _ A29.out).mono ?_); rintro e w' ⟨rfl, ⟨nd, rfl⟩⟩; refine ⟨_, rfl, ?_⟩) | ((with_reducible refine gate_callee (f := 34) rfl ?_); refine goesL_ (some 34) rfl rfl Try.func34 (by kernel_rfl) rfl #[.int .i64 12] rfl (by (try simp only [List.map_toArray, List.map_cons, List.map_nil]); first | done | rfl | (simp only [List.length_drop, List.length_take]; rfl)) ?_; (with_reducible refine (ast_getIntForOp.calls 12 t112 _ A31.out).mono ?_); rintro e w' ⟨rfl, ⟨nd, rfl⟩⟩; refine ⟨_, rfl, ?_⟩) | ((with_reducible refine gate_callee (f := 34) rfl ?_); refine goesL_ (some 36) rfl rfl Try.func34 (by kernel_rfl) rfl #[.int .i64 15] rfl (by (try simp only [List.map_toArray, List.map_cons, List.map_nil]); first | done | rfl | (simp only [List.length_drop, List.length_take]; rfl)) ?_; (with_reducible refine (ast_getIntForOp.calls 15 t113 _ A33.out).mono ?_); rintro e w' ⟨rfl, ⟨nd, rfl⟩⟩; refine ⟨_, rfl, ?_⟩) | ((with_reducible refine gate_callee (f := 34) rfl ?_); refine goesL_ (some 38) rfl rfl Try.func34 (by kernel_rfl) rfl #[.int .i64 16] rfl (by (try simp only [List.map_toArray, List.map_cons, List.map_nil]); first | done | rfl | (simp only [List.length_drop, List.length_take]; rfl)) ?_; (with_reducible refine (ast_getIntForOp.calls 16 t114 _ A35.out).mono ?_); rintro e w' ⟨rfl, ⟨nd, rfl⟩⟩; refine ⟨_, rfl, ?_⟩))
                                        go_meet
                                        case rel => exact ⟨_, ((a0 == t114)), (by first | rfl | (simp; done) | (simp [*]; done)), H', ⟨by have := HJ1.out; have := HJ8.out; have := HJ15.out; first | omega | exact Nat.le_refl _⟩, by repeat (first | exact Drawn0.refl _ | apply Drawn0.step)⟩
                                      · rw [if_neg c36] at H
                                        have c36b0 : (a0 == t114) = false := beq_eq_false_iff_ne.mpr c36
                                        have c36b1 : (a0 != t114) = true := bne_iff_ne.mpr c36
                                        replace H := Option.bind_eq_some_iff.mp H
                                        obtain ⟨t115, A370, H⟩ := H
                                        replace H : (if a0 = t115 then (ast_opPrecedence.j3 kj15 a0 (a0 == t115)) else ((ast_getIntForOp.f 18).bind fun t116 => (if a0 = t116 then (ast_opPrecedence.j3 kj15 a0 (a0 == t116)) else ((ast_getIntForOp.f 19).bind fun t117 => (if a0 = t117 then (ast_opPrecedence.j3 kj15 a0 (a0 == t117)) else ((ast_getIntForOp.f 20).bind fun t118 => (ast_opPrecedence.j3 kj15 a0 (a0 == t118)))))))) = some r := H
                                        have A37 := Aside0.mk A370
                                        clear A370
                                        by_cases c38 : a0 = t115
                                        · rw [if_pos c38] at H
                                          have c38b0 : (a0 == t115) = true := beq_iff_eq.mpr c38
                                          have c38b1 : (a0 != t115) = false := bne_eq_false_iff_eq.mpr c38
                                          clear c38
                                          have H' := Aside0.mk H
                                          clear H
                                          go_wp2_with (first | ((with_reducible refine gate_callee (f := 34) rfl ?_); refine goesL_ (some 26) rfl rfl Try.func34 (by kernel_rfl) rfl #[.int .i64 8] rfl (by (try simp only [List.map_toArray, List.map_cons, List.map_nil]); first | done | rfl | (simp only [List.length_drop, List.length_take]; rfl)) ?_; (with_reducible refine (ast_getIntForOp.calls 8 t108 _ A23.out).mono ?_); rintro e w' ⟨rfl, ⟨nd, rfl⟩⟩; refine ⟨_, rfl, ?_⟩) | ((with_reducible refine gate_callee (f := 34) rfl ?_); refine goesL_ (some 28) rfl rfl Try.func34 (by kernel_rfl) rfl #[.int .i64 9] rfl (by (try simp only [List.map_toArray, List.map_cons, List.map_nil]); first | done | rfl | (simp only [List.length_drop, List.length_take]; rfl)) ?_; (with_reducible refine (ast_getIntForOp.calls 9 t109 _ A25.out).mono ?_); rintro e w' ⟨rfl, ⟨nd, rfl⟩⟩; refine ⟨_, rfl, ?_⟩) | ((with_reducible refine gate_callee (f := 34) rfl ?_); refine goesL_ (some 30) rfl rfl Try.func34 (by kernel_rfl) rfl #[.int .i64 10] rfl (by (try simp only [List.map_toArray, List.map_cons, List.map_nil]); first | done | rfl | (simp only [List.length_drop, List.length_take]; rfl)) ?_; (with_reducible refine (ast_getIntForOp.calls 10 t110 _ A27.out).mono ?_); rintro e w' ⟨rfl, ⟨nd, rfl⟩⟩; refine ⟨_, rfl, ?_⟩) | ((with_reducible refine gate_callee (f := 34) rfl ?_); refine goesL_ (some 32) rfl rfl Try.func34 (by kernel_rfl) rfl #[.int .i64 11] rfl (by (try simp only [List.map_toArray, List.map_cons, List.map_nil]); first | done | rfl | (simp only [List.length_drop, List.length_take]; rfl)) ?_; (with_reducible refine (ast_getIntForOp.calls 11 t111 _ A29.out).mono ?_); rintro e w' ⟨rfl, ⟨nd, rfl⟩⟩; refine ⟨_, rfl, ?_⟩) | ((with_reducible refine gate_callee (f := 34) rfl ?_); refine goesL_ (some 34) rfl rfl Try.func34 (by kernel_rfl) rfl #[.int .i64 12] rfl (by (try simp only [List.map_toArray, List.map_cons, List.map_nil]); first | done | rfl | (simp only [List.length_drop, List.length_take]; rfl)) ?_; (with_reducible refine (ast_getIntForOp.calls 12 t112 _ A31.out).mono ?_); rintro e w' ⟨rfl, ⟨nd, rfl⟩⟩; refine ⟨_, rfl, ?_⟩) | ((with_reducible refine gate_callee (f := 34) rfl ?_); refine goesL_ (some 36) rfl rfl Try.func34 (by kernel_rfl) rfl #[.int .i64 15] rfl (by (try simp only [List.map_toArray, List.map_cons, List.map_nil]); first | done | rfl | (simp only [List.length_drop, List.length_take]; rfl)) ?_; (with_reducible refine (ast_getIntForOp.calls 15 t113 _ A33.out).mono ?_); rintro e w' ⟨rfl, ⟨nd, rfl⟩⟩; refine ⟨_, rfl, ?_⟩) | ((with_reducible refine gate_callee (f := 34) rfl ?_); refine goesL_ (some 38) rfl rfl Try.func34 (by kernel_rfl) rfl #[.int .i64 16] rfl (by (try simp only [List.map_toArray, List.map_cons, List.map_nil]); first | done | rfl | (simp only [List.length_drop, List.length_take]; rfl)) ?_; (with_reducible refine (ast_getIntForOp.calls 16 t114 _ A35.out).mono ?_); rintro e w' ⟨rfl, ⟨nd, rfl⟩⟩; refine ⟨_, rfl, ?_⟩) | ((with_reducible refine gate_callee (f := 34) rfl ?_); refine goesL_ (some 40) rfl rfl Try.func34 (by kernel_rfl) rfl #[.int .i64 17] rfl (by (try simp only [List.map_toArray, List.map_cons, List.map_nil]); first | done | rfl | (simp only [List.length_drop, List.length_take]; rfl)) ?_; (with_reducible refine (ast_getIntForOp.calls 17 t115 _ A37.out).mono ?_); rintro e w' ⟨rfl, ⟨nd, rfl⟩⟩; refine ⟨_, rfl, ?_⟩))
                                          go_meet
                                          case rel => exact ⟨_, ((a0 == t115)), (by first | rfl | (simp; done) | (simp [*]; done)), H', ⟨by have := HJ1.out; have := HJ8.out; have := HJ15.out; first | omega | exact Nat.le_refl _⟩, by repeat (first | exact Drawn0.refl _ | apply Drawn0.step)⟩
                                        · rw [if_neg c38] at H
                                          have c38b0 : (a0 == t115) = false := beq_eq_false_iff_ne.mpr c38
                                          have c38b1 : (a0 != t115) = true := bne_iff_ne.mpr c38
                                          replace H := Option.bind_eq_some_iff.mp H
                                          obtain ⟨t116, A390, H⟩ := H
                                          replace H : (if a0 = t116 then (ast_opPrecedence.j3 kj15 a0 (a0 == t116)) else ((ast_getIntForOp.f 19).bind fun t117 => (if a0 = t117 then (ast_opPrecedence.j3 kj15 a0 (a0 == t117)) else ((ast_getIntForOp.f 20).bind fun t118 => (ast_opPrecedence.j3 kj15 a0 (a0 == t118)))))) = some r := H
                                          have A39 := Aside0.mk A390
                                          clear A390
                                          by_cases c40 : a0 = t116
                                          · rw [if_pos c40] at H
                                            have c40b0 : (a0 == t116) = true := beq_iff_eq.mpr c40
                                            have c40b1 : (a0 != t116) = false := bne_eq_false_iff_eq.mpr c40
                                            clear c40
                                            have H' := Aside0.mk H
                                            clear H
                                            go_wp2_with (first | ((with_reducible refine gate_callee (f := 34) rfl ?_); refine goesL_ (some 26) rfl rfl Try.func34 (by kernel_rfl) rfl #[.int .i64 8] rfl (by (try simp only [List.map_toArray, List.map_cons, List.map_nil]); first | done | rfl | (simp only [List.length_drop, List.length_take]; rfl)) ?_; (with_reducible refine (ast_getIntForOp.calls 8 t108 _ A23.out).mono ?_); rintro e w' ⟨rfl, ⟨nd, rfl⟩⟩; refine ⟨_, rfl, ?_⟩) | ((with_reducible refine gate_callee (f := 34) rfl ?_); refine goesL_ (some 28) rfl rfl Try.func34 (by kernel_rfl) rfl #[.int .i64 9] rfl (by (try simp only [List.map_toArray, List.map_cons, List.map_nil]); first | done | rfl | (simp only [List.length_drop, List.length_take]; rfl)) ?_; (with_reducible refine (ast_getIntForOp.calls 9 t109 _ A25.out).mono ?_); rintro e w' ⟨rfl, ⟨nd, rfl⟩⟩; refine ⟨_, rfl, ?_⟩) | ((with_reducible refine gate_callee (f := 34) rfl ?_); refine goesL_ (some 30) rfl rfl Try.func34 (by kernel_rfl) rfl #[.int .i64 10] rfl (by (try simp only [List.map_toArray, List.map_cons, List.map_nil]); first | done | rfl | (simp only [List.length_drop, List.length_take]; rfl)) ?_; (with_reducible refine (ast_getIntForOp.calls 10 t110 _ A27.out).mono ?_); rintro e w' ⟨rfl, ⟨nd, rfl⟩⟩; refine ⟨_, rfl, ?_⟩) | ((with_reducible refine gate_callee (f := 34) rfl ?_); refine goesL_ (some 32) rfl rfl Try.func34 (by kernel_rfl) rfl #[.int .i64 11] rfl (by (try simp only [List.map_toArray, List.map_cons, List.map_nil]); first | done | rfl | (simp only [List.length_drop, List.length_take]; rfl)) ?_; (with_reducible refine (ast_getIntForOp.calls 11 t111 _ A29.out).mono ?_); rintro e w' ⟨rfl, ⟨nd, rfl⟩⟩; refine ⟨_, rfl, ?_⟩) | ((with_reducible refine gate_callee (f := 34) rfl ?_); refine goesL_ (some 34) rfl rfl Try.func34 (by kernel_rfl) rfl #[.int .i64 12] rfl (by (try simp only [List.map_toArray, List.map_cons, List.map_nil]); first | done | rfl | (simp only [List.length_drop, List.length_take]; rfl)) ?_; (with_reducible refine (ast_getIntForOp.calls 12 t112 _ A31.out).mono ?_); rintro e w' ⟨rfl, ⟨nd, rfl⟩⟩; refine ⟨_, rfl, ?_⟩) | ((with_reducible refine gate_callee (f := 34) rfl ?_); refine goesL_ (some 36) rfl rfl Try.func34 (by kernel_rfl) rfl #[.int .i64 15] rfl (by (try simp only [List.map_toArray, List.map_cons, List.map_nil]); first | done | rfl | (simp only [List.length_drop, List.length_take]; rfl)) ?_; (with_reducible refine (ast_getIntForOp.calls 15 t113 _ A33.out).mono ?_); rintro e w' ⟨rfl, ⟨nd, rfl⟩⟩; refine ⟨_, rfl, ?_⟩) | ((with_reducible refine gate_callee (f := 34) rfl ?_); refine goesL_ (some 38) rfl rfl Try.func34 (by kernel_rfl) rfl #[.int .i64 16] rfl (by (try simp only [List.map_toArray, List.map_cons, List.map_nil]); first | done | rfl | (simp only [List.length_drop, List.length_take]; rfl)) ?_; (with_reducible refine (ast_getIntForOp.calls 16 t114 _ A35.out).mono ?_); rintro e w' ⟨rfl, ⟨nd, rfl⟩⟩; refine ⟨_, rfl, ?_⟩) | ((with_reducible refine gate_callee (f := 34) rfl ?_); refine goesL_ (some 40) rfl rfl Try.func34 (by kernel_rfl) rfl #[.int .i64 17] rfl (by (try simp only [List.map_toArray, List.map_cons, List.map_nil]); first | done | rfl | (simp only [List.length_drop, List.length_take]; rfl)) ?_; (with_reducible refine (ast_getIntForOp.calls 17 t115 _ A37.out).mono ?_); rintro e w' ⟨rfl, ⟨nd, rfl⟩⟩; refine ⟨_, rfl, ?_⟩) | ((with_reducible refine gate_callee (f := 34) rfl ?_); refine goesL_ (some 42) rfl rfl Try.func34 (by kernel_rfl) rfl #[.int .i64 18] rfl (by (try simp only [List.map_toArray, List.map_cons, List.map_nil]); first | done | rfl | (simp only [List.length_drop, List.length_take]; rfl)) ?_; (with_reducible refine (ast_getIntForOp.calls 18 t116 _ A39.out).mono ?_); rintro e w' ⟨rfl, ⟨nd, rfl⟩⟩; refine ⟨_, rfl, ?_⟩))
                                            go_meet
                                            case rel => exact ⟨_, ((a0 == t116)), (by first | rfl | (simp; done) | (simp [*]; done)), H', ⟨by have := HJ1.out; have := HJ8.out; have := HJ15.out; first | omega | exact Nat.le_refl _⟩, by repeat (first | exact Drawn0.refl _ | apply Drawn0.step)⟩
                                          · rw [if_neg c40] at H
                                            have c40b0 : (a0 == t116) = false := beq_eq_false_iff_ne.mpr c40
                                            have c40b1 : (a0 != t116) = true := bne_iff_ne.mpr c40
                                            replace H := Option.bind_eq_some_iff.mp H
                                            obtain ⟨t117, A410, H⟩ := H
                                            replace H : (if a0 = t117 then (ast_opPrecedence.j3 kj15 a0 (a0 == t117)) else ((ast_getIntForOp.f 20).bind fun t118 => (ast_opPrecedence.j3 kj15 a0 (a0 == t118)))) = some r := H
                                            have A41 := Aside0.mk A410
                                            clear A410
                                            by_cases c42 : a0 = t117
                                            · rw [if_pos c42] at H
                                              have c42b0 : (a0 == t117) = true := beq_iff_eq.mpr c42
                                              have c42b1 : (a0 != t117) = false := bne_eq_false_iff_eq.mpr c42
                                              clear c42
                                              have H' := Aside0.mk H
                                              clear H
                                              go_wp2_with (first | ((with_reducible refine gate_callee (f := 34) rfl ?_); refine goesL_ (some 26) rfl rfl Try.func34 (by kernel_rfl) rfl #[.int .i64 8] rfl (by (try simp only [List.map_toArray, List.map_cons, List.map_nil]); first | done | rfl | (simp only [List.length_drop, List.length_take]; rfl)) ?_; (with_reducible refine (ast_getIntForOp.calls 8 t108 _ A23.out).mono ?_); rintro e w' ⟨rfl, ⟨nd, rfl⟩⟩; refine ⟨_, rfl, ?_⟩) | ((with_reducible refine gate_callee (f := 34) rfl ?_); refine goesL_ (some 28) rfl rfl Try.func34 (by kernel_rfl) rfl #[.int .i64 9] rfl (by (try simp only [List.map_toArray, List.map_cons, List.map_nil]); first | done | rfl | (simp only [List.length_drop, List.length_take]; rfl)) ?_; (with_reducible refine (ast_getIntForOp.calls 9 t109 _ A25.out).mono ?_); rintro e w' ⟨rfl, ⟨nd, rfl⟩⟩; refine ⟨_, rfl, ?_⟩) | ((with_reducible refine gate_callee (f := 34) rfl ?_); refine goesL_ (some 30) rfl rfl Try.func34 (by kernel_rfl) rfl #[.int .i64 10] rfl (by (try simp only [List.map_toArray, List.map_cons, List.map_nil]); first | done | rfl | (simp only [List.length_drop, List.length_take]; rfl)) ?_; (with_reducible refine (ast_getIntForOp.calls 10 t110 _ A27.out).mono ?_); rintro e w' ⟨rfl, ⟨nd, rfl⟩⟩; refine ⟨_, rfl, ?_⟩) | ((with_reducible refine gate_callee (f := 34) rfl ?_); refine goesL_ (some 32) rfl rfl Try.func34 (by kernel_rfl) rfl #[.int .i64 11] rfl (by (try simp only [List.map_toArray, List.map_cons, List.map_nil]); first | done | rfl | (simp only [List.length_drop, List.length_take]; rfl)) ?_; (with_reducible refine (ast_getIntForOp.calls 11 t111 _ A29.out).mono ?_); rintro e w' ⟨rfl, ⟨nd, rfl⟩⟩; refine ⟨_, rfl, ?_⟩) | ((with_reducible refine gate_callee (f := 34) rfl ?_); refine goesL_ (some 34) rfl rfl Try.func34 (by kernel_rfl) rfl #[.int .i64 12] rfl (by (try simp only [List.map_toArray, List.map_cons, List.map_nil]); first | done | rfl | (simp only [List.length_drop, List.length_take]; rfl)) ?_; (with_reducible refine (ast_getIntForOp.calls 12 t112 _ A31.out).mono ?_); rintro e w' ⟨rfl, ⟨nd, rfl⟩⟩; refine ⟨_, rfl, ?_⟩) | ((with_reducible refine gate_callee (f := 34) rfl ?_); refine goesL_ (some 36) rfl rfl Try.func34 (by kernel_rfl) rfl #[.int .i64 15] rfl (by (try simp only [List.map_toArray, List.map_cons, List.map_nil]); first | done | rfl | (simp only [List.length_drop, List.length_take]; rfl)) ?_; (with_reducible refine (ast_getIntForOp.calls 15 t113 _ A33.out).mono ?_); rintro e w' ⟨rfl, ⟨nd, rfl⟩⟩; refine ⟨_, rfl, ?_⟩) | ((with_reducible refine gate_callee (f := 34) rfl ?_); refine goesL_ (some 38) rfl rfl Try.func34 (by kernel_rfl) rfl #[.int .i64 16] rfl (by (try simp only [List.map_toArray, List.map_cons, List.map_nil]); first | done | rfl | (simp only [List.length_drop, List.length_take]; rfl)) ?_; (with_reducible refine (ast_getIntForOp.calls 16 t114 _ A35.out).mono ?_); rintro e w' ⟨rfl, ⟨nd, rfl⟩⟩; refine ⟨_, rfl, ?_⟩) | ((with_reducible refine gate_callee (f := 34) rfl ?_); refine goesL_ (some 40) rfl rfl Try.func34 (by kernel_rfl) rfl #[.int .i64 17] rfl (by (try simp only [List.map_toArray, List.map_cons, List.map_nil]); first | done | rfl | (simp only [List.length_drop, List.length_take]; rfl)) ?_; (with_reducible refine (ast_getIntForOp.calls 17 t115 _ A37.out).mono ?_); rintro e w' ⟨rfl, ⟨nd, rfl⟩⟩; refine ⟨_, rfl, ?_⟩) | ((with_reducible refine gate_callee (f := 34) rfl ?_); refine goesL_ (some 42) rfl rfl Try.func34 (by kernel_rfl) rfl #[.int .i64 18] rfl (by (try simp only [List.map_toArray, List.map_cons, List.map_nil]); first | done | rfl | (simp only [List.length_drop, List.length_take]; rfl)) ?_; (with_reducible refine (ast_getIntForOp.calls 18 t116 _ A39.out).mono ?_); rintro e w' ⟨rfl, ⟨nd, rfl⟩⟩; refine ⟨_, rfl, ?_⟩) | ((with_reducible refine gate_callee (f := 34) rfl ?_); refine goesL_ (some 44) rfl rfl Try.func34 (by kernel_rfl) rfl #[.int .i64 19] rfl (by (try simp only [List.map_toArray, List.map_cons, List.map_nil]); first | done | rfl | (simp only [List.length_drop, List.length_take]; rfl)) ?_; (with_reducible refine (ast_getIntForOp.calls 19 t117 _ A41.out).mono ?_); rintro e w' ⟨rfl, ⟨nd, rfl⟩⟩; refine ⟨_, rfl, ?_⟩))
                                              go_meet
                                              case rel => exact ⟨_, ((a0 == t117)), (by first | rfl | (simp; done) | (simp [*]; done)), H', ⟨by have := HJ1.out; have := HJ8.out; have := HJ15.out; first | omega | exact Nat.le_refl _⟩, by repeat (first | exact Drawn0.refl _ | apply Drawn0.step)⟩
                                            · rw [if_neg c42] at H
                                              have c42b0 : (a0 == t117) = false := beq_eq_false_iff_ne.mpr c42
                                              have c42b1 : (a0 != t117) = true := bne_iff_ne.mpr c42
                                              replace H := Option.bind_eq_some_iff.mp H
                                              obtain ⟨t118, A430, H⟩ := H
                                              replace H : (ast_opPrecedence.j3 kj15 a0 (a0 == t118)) = some r := H
                                              have A43 := Aside0.mk A430
                                              clear A430
                                              have H' := Aside0.mk H
                                              clear H
                                              go_wp2_with (first | ((with_reducible refine gate_callee (f := 34) rfl ?_); refine goesL_ (some 26) rfl rfl Try.func34 (by kernel_rfl) rfl #[.int .i64 8] rfl (by (try simp only [List.map_toArray, List.map_cons, List.map_nil]); first | done | rfl | (simp only [List.length_drop, List.length_take]; rfl)) ?_; (with_reducible refine (ast_getIntForOp.calls 8 t108 _ A23.out).mono ?_); rintro e w' ⟨rfl, ⟨nd, rfl⟩⟩; refine ⟨_, rfl, ?_⟩) | ((with_reducible refine gate_callee (f := 34) rfl ?_); refine goesL_ (some 28) rfl rfl Try.func34 (by kernel_rfl) rfl #[.int .i64 9] rfl (by (try simp only [List.map_toArray, List.map_cons, List.map_nil]); first | done | rfl | (simp only [List.length_drop, List.length_take]; rfl)) ?_; (with_reducible refine (ast_getIntForOp.calls 9 t109 _ A25.out).mono ?_); rintro e w' ⟨rfl, ⟨nd, rfl⟩⟩; refine ⟨_, rfl, ?_⟩) | ((with_reducible refine gate_callee (f := 34) rfl ?_); refine goesL_ (some 30) rfl rfl Try.func34 (by kernel_rfl) rfl #[.int .i64 10] rfl (by (try simp only [List.map_toArray, List.map_cons, List.map_nil]); first | done | rfl | (simp only [List.length_drop, List.length_take]; rfl)) ?_; (with_reducible refine (ast_getIntForOp.calls 10 t110 _ A27.out).mono ?_); rintro e w' ⟨rfl, ⟨nd, rfl⟩⟩; refine ⟨_, rfl, ?_⟩) | ((with_reducible refine gate_callee (f := 34) rfl ?_); refine goesL_ (some 32) rfl rfl Try.func34 (by kernel_rfl) rfl #[.int .i64 11] rfl (by (try simp only [List.map_toArray, List.map_cons, List.map_nil]); first | done | rfl | (simp only [List.length_drop, List.length_take]; rfl)) ?_; (with_reducible refine (ast_getIntForOp.calls 11 t111 _ A29.out).mono ?_); rintro e w' ⟨rfl, ⟨nd, rfl⟩⟩; refine ⟨_, rfl, ?_⟩) | ((with_reducible refine gate_callee (f := 34) rfl ?_); refine goesL_ (some 34) rfl rfl Try.func34 (by kernel_rfl) rfl #[.int .i64 12] rfl (by (try simp only [List.map_toArray, List.map_cons, List.map_nil]); first | done | rfl | (simp only [List.length_drop, List.length_take]; rfl)) ?_; (with_reducible refine (ast_getIntForOp.calls 12 t112 _ A31.out).mono ?_); rintro e w' ⟨rfl, ⟨nd, rfl⟩⟩; refine ⟨_, rfl, ?_⟩) | ((with_reducible refine gate_callee (f := 34) rfl ?_); refine goesL_ (some 36) rfl rfl Try.func34 (by kernel_rfl) rfl #[.int .i64 15] rfl (by (try simp only [List.map_toArray, List.map_cons, List.map_nil]); first | done | rfl | (simp only [List.length_drop, List.length_take]; rfl)) ?_; (with_reducible refine (ast_getIntForOp.calls 15 t113 _ A33.out).mono ?_); rintro e w' ⟨rfl, ⟨nd, rfl⟩⟩; refine ⟨_, rfl, ?_⟩) | ((with_reducible refine gate_callee (f := 34) rfl ?_); refine goesL_ (some 38) rfl rfl Try.func34 (by kernel_rfl) rfl #[.int .i64 16] rfl (by (try simp only [List.map_toArray, List.map_cons, List.map_nil]); first | done | rfl | (simp only [List.length_drop, List.length_take]; rfl)) ?_; (with_reducible refine (ast_getIntForOp.calls 16 t114 _ A35.out).mono ?_); rintro e w' ⟨rfl, ⟨nd, rfl⟩⟩; refine ⟨_, rfl, ?_⟩) | ((with_reducible refine gate_callee (f := 34) rfl ?_); refine goesL_ (some 40) rfl rfl Try.func34 (by kernel_rfl) rfl #[.int .i64 17] rfl (by (try simp only [List.map_toArray, List.map_cons, List.map_nil]); first | done | rfl | (simp only [List.length_drop, List.length_take]; rfl)) ?_; (with_reducible refine (ast_getIntForOp.calls 17 t115 _ A37.out).mono ?_); rintro e w' ⟨rfl, ⟨nd, rfl⟩⟩; refine ⟨_, rfl, ?_⟩) | ((with_reducible refine gate_callee (f := 34) rfl ?_); refine goesL_ (some 42) rfl rfl Try.func34 (by kernel_rfl) rfl #[.int .i64 18] rfl (by (try simp only [List.map_toArray, List.map_cons, List.map_nil]); first | done | rfl | (simp only [List.length_drop, List.length_take]; rfl)) ?_; (with_reducible refine (ast_getIntForOp.calls 18 t116 _ A39.out).mono ?_); rintro e w' ⟨rfl, ⟨nd, rfl⟩⟩; refine ⟨_, rfl, ?_⟩) | ((with_reducible refine gate_callee (f := 34) rfl ?_); refine goesL_ (some 44) rfl rfl Try.func34 (by kernel_rfl) rfl #[.int .i64 19] rfl (by (try simp only [List.map_toArray, List.map_cons, List.map_nil]); first | done | rfl | (simp only [List.length_drop, List.length_take]; rfl)) ?_; (with_reducible refine (ast_getIntForOp.calls 19 t117 _ A41.out).mono ?_); rintro e w' ⟨rfl, ⟨nd, rfl⟩⟩; refine ⟨_, rfl, ?_⟩) | ((with_reducible refine gate_callee (f := 34) rfl ?_); refine goesL_ (some 46) rfl rfl Try.func34 (by kernel_rfl) rfl #[.int .i64 20] rfl (by (try simp only [List.map_toArray, List.map_cons, List.map_nil]); first | done | rfl | (simp only [List.length_drop, List.length_take]; rfl)) ?_; (with_reducible refine (ast_getIntForOp.calls 20 t118 _ A43.out).mono ?_); rintro e w' ⟨rfl, ⟨nd, rfl⟩⟩; refine ⟨_, rfl, ?_⟩))
                                              go_meet
                                              case rel => exact ⟨_, ((a0 == t118)), (by first | rfl | (simp; done) | (simp [*]; done)), H', ⟨by have := HJ1.out; have := HJ8.out; have := HJ15.out; first | omega | exact Nat.le_refl _⟩, by repeat (first | exact Drawn0.refl _ | apply Drawn0.step)⟩
                      case rest =>
                        clear HC21
                        try clear c1
                        try clear c2
                        try clear p2
                        try clear c3
                        try clear c3b0
                        try clear c3b1
                        try clear c4
                        try clear c4b0
                        try clear c4b1
                        try clear c5
                        try clear c7
                        try clear c7b0
                        try clear c7b1
                        try clear c8
                        try clear c10
                        try clear c10b0
                        try clear c10b1
                        try clear c12
                        try clear c12b0
                        try clear c12b1
                        try clear c14
                        try clear c15
                        try clear c17
                        try clear c17b0
                        try clear c17b1
                        try clear c19
                        try clear c22
                        try clear c22b0
                        try clear c22b1
                        try clear c24
                        try clear c24b0
                        try clear c24b1
                        try clear c26
                        try clear c26b0
                        try clear c26b1
                        try clear c28
                        try clear c28b0
                        try clear c28b1
                        try clear c30
                        try clear c30b0
                        try clear c30b1
                        try clear c32
                        try clear c32b0
                        try clear c32b1
                        try clear c34
                        try clear c34b0
                        try clear c34b1
                        try clear c36
                        try clear c36b0
                        try clear c36b1
                        try clear c38
                        try clear c38b0
                        try clear c38b1
                        try clear c40
                        try clear c40b0
                        try clear c40b1
                        try clear c42
                        try clear c42b0
                        try clear c42b1
                        try clear p2
                        obtain ⟨kq, x23_20, rfl, HA, HJ20, ⟨mc20, rfl⟩⟩ := hcut
                        cases kq with
                        | zero => exact absurd HA.out (by simp [ast_opPrecedence.j3])
                        | succ kj20 =>
                          have H := HA.out
                          clear HA
                          simp only [ast_opPrecedence.j3] at H
                          by_cases c44 : x23_20 = true
                          · subst c44
                            have H1 : (some 5) = some r := by rw [if_pos rfl] at H; exact H
                            clear H
                            have H := H1
                            clear H1
                            obtain rfl := Option.some.inj H
                            go_wp2
                            go_ret
                            exact ⟨by first | rfl | (simp; done) | (simp [*]; done), by repeat (first | exact Drawn0.refl _ | apply Drawn0.step)⟩
                          · replace c44 := Bool.eq_false_iff.mpr c44
                            subst c44
                            have H1 : ((ast_getIntForOp.f 13).bind fun t119 => (if a0 = t119 then (ast_opPrecedence.j4 kj20 a0 (a0 == t119)) else ((ast_getIntForOp.f 14).bind fun t120 => (ast_opPrecedence.j4 kj20 a0 (a0 == t120))))) = some r := by rw [if_neg (show ¬ (false = true) by decide)] at H; exact H
                            clear H
                            have H := H1
                            clear H1
                            replace H := Option.bind_eq_some_iff.mp H
                            obtain ⟨t119, A450, H⟩ := H
                            replace H : (if a0 = t119 then (ast_opPrecedence.j4 kj20 a0 (a0 == t119)) else ((ast_getIntForOp.f 14).bind fun t120 => (ast_opPrecedence.j4 kj20 a0 (a0 == t120)))) = some r := H
                            have A45 := Aside0.mk A450
                            clear A450
                            have HC46 := Aside0.mk H
                            clear H
                            go_upto_if 48 with (first | ((with_reducible refine gate_callee (f := 34) rfl ?_); refine goesL_ (some 49) rfl rfl Try.func34 (by kernel_rfl) rfl #[.int .i64 13] rfl (by (try simp only [List.map_toArray, List.map_cons, List.map_nil]); first | done | rfl | (simp only [List.length_drop, List.length_take]; rfl)) ?_; (with_reducible refine (ast_getIntForOp.calls 13 t119 _ A45.out).mono ?_); rintro e w' ⟨rfl, ⟨nd, rfl⟩⟩; refine ⟨_, rfl, ?_⟩))
                            (try simp only [Act.put, List.setIfInBounds_toArray, List.set_cons_zero, List.set_cons_succ])
                            go_cut [48] (fun v48 wc => ∃ (kq : Nat) (x48_45 : Bool), v48 = .bool x48_45 ∧ Aside0 (ast_opPrecedence.j4 kq a0 x48_45 = some r) ∧ Aside0 (kq ≤ kj20) ∧ Drawn0 w wc)
                            case first =>
                              have H := HC46.out
                              clear HC46
                              by_cases c47 : a0 = t119
                              · rw [if_pos c47] at H
                                have c47b0 : (a0 == t119) = true := beq_iff_eq.mpr c47
                                have c47b1 : (a0 != t119) = false := bne_eq_false_iff_eq.mpr c47
                                clear c47
                                (first | rw [c47b0] | (simp only [i64_w, i32_w]; rw [c47b0]) | skip)
                                have H' := Aside0.mk H
                                clear H
                                go_wp2
                                go_meet
                                case rel => exact ⟨_, ((a0 == t119)), (by first | rfl | (simp; done) | (simp [*]; done)), H', ⟨by have := HJ1.out; have := HJ8.out; have := HJ15.out; have := HJ20.out; first | omega | exact Nat.le_refl _⟩, by repeat (first | exact Drawn0.refl _ | apply Drawn0.step)⟩
                              · rw [if_neg c47] at H
                                have c47b0 : (a0 == t119) = false := beq_eq_false_iff_ne.mpr c47
                                have c47b1 : (a0 != t119) = true := bne_iff_ne.mpr c47
                                (first | rw [c47b0] | (simp only [i64_w, i32_w]; rw [c47b0]) | skip)
                                replace H := Option.bind_eq_some_iff.mp H
                                obtain ⟨t120, A480, H⟩ := H
                                replace H : (ast_opPrecedence.j4 kj20 a0 (a0 == t120)) = some r := H
                                have A48 := Aside0.mk A480
                                clear A480
                                have H' := Aside0.mk H
                                clear H
                                go_wp2_with (first | ((with_reducible refine gate_callee (f := 34) rfl ?_); refine goesL_ (some 51) rfl rfl Try.func34 (by kernel_rfl) rfl #[.int .i64 14] rfl (by (try simp only [List.map_toArray, List.map_cons, List.map_nil]); first | done | rfl | (simp only [List.length_drop, List.length_take]; rfl)) ?_; (with_reducible refine (ast_getIntForOp.calls 14 t120 _ A48.out).mono ?_); rintro e w' ⟨rfl, ⟨nd, rfl⟩⟩; refine ⟨_, rfl, ?_⟩))
                                go_meet
                                case rel => exact ⟨_, ((a0 == t120)), (by first | rfl | (simp; done) | (simp [*]; done)), H', ⟨by have := HJ1.out; have := HJ8.out; have := HJ15.out; have := HJ20.out; first | omega | exact Nat.le_refl _⟩, by repeat (first | exact Drawn0.refl _ | apply Drawn0.step)⟩
                            case rest =>
                              clear HC46
                              try clear c1
                              try clear c2
                              try clear p2
                              try clear c3
                              try clear c3b0
                              try clear c3b1
                              try clear c4
                              try clear c4b0
                              try clear c4b1
                              try clear c5
                              try clear c7
                              try clear c7b0
                              try clear c7b1
                              try clear c8
                              try clear c10
                              try clear c10b0
                              try clear c10b1
                              try clear c12
                              try clear c12b0
                              try clear c12b1
                              try clear c14
                              try clear c15
                              try clear c17
                              try clear c17b0
                              try clear c17b1
                              try clear c19
                              try clear c20
                              try clear c22
                              try clear c22b0
                              try clear c22b1
                              try clear c24
                              try clear c24b0
                              try clear c24b1
                              try clear c26
                              try clear c26b0
                              try clear c26b1
                              try clear c28
                              try clear c28b0
                              try clear c28b1
                              try clear c30
                              try clear c30b0
                              try clear c30b1
                              try clear c32
                              try clear c32b0
                              try clear c32b1
                              try clear c34
                              try clear c34b0
                              try clear c34b1
                              try clear c36
                              try clear c36b0
                              try clear c36b1
                              try clear c38
                              try clear c38b0
                              try clear c38b1
                              try clear c40
                              try clear c40b0
                              try clear c40b1
                              try clear c42
                              try clear c42b0
                              try clear c42b1
                              try clear c44
                              try clear c47
                              try clear c47b0
                              try clear c47b1
                              try clear p2
                              obtain ⟨kq, x48_45, rfl, HA, HJ45, ⟨mc45, rfl⟩⟩ := hcut
                              cases kq with
                              | zero => exact absurd HA.out (by simp [ast_opPrecedence.j4])
                              | succ kj45 =>
                                have H := HA.out
                                clear HA
                                simp only [ast_opPrecedence.j4] at H
                                by_cases c49 : x48_45 = true
                                · subst c49
                                  have H1 : (some 6) = some r := by rw [if_pos rfl] at H; exact H
                                  clear H
                                  have H := H1
                                  clear H1
                                  obtain rfl := Option.some.inj H
                                  go_wp2
                                  go_ret
                                  exact ⟨by first | rfl | (simp; done) | (simp [*]; done), by repeat (first | exact Drawn0.refl _ | apply Drawn0.step)⟩
                                · replace c49 := Bool.eq_false_iff.mpr c49
                                  subst c49
                                  have H1 : ((ast_getIntForLOp.f 1).bind fun t121 => (if a0 = t121 then (some 7) else ((ast_getIntForLOp.f 2).bind fun t122 => (if a0 = t122 then (some 8) else (some 0))))) = some r := by rw [if_neg (show ¬ (false = true) by decide)] at H; exact H
                                  clear H
                                  have H := H1
                                  clear H1
                                  replace H := Option.bind_eq_some_iff.mp H
                                  obtain ⟨t121, A500, H⟩ := H
                                  replace H : (if a0 = t121 then (some 7) else ((ast_getIntForLOp.f 2).bind fun t122 => (if a0 = t122 then (some 8) else (some 0)))) = some r := H
                                  have A50 := Aside0.mk A500
                                  clear A500
                                  by_cases c51 : a0 = t121
                                  · rw [if_pos c51] at H
                                    have c51b0 : (a0 == t121) = true := beq_iff_eq.mpr c51
                                    have c51b1 : (a0 != t121) = false := bne_eq_false_iff_eq.mpr c51
                                    clear c51
                                    obtain rfl := Option.some.inj H
                                    go_wp2_with (first | ((with_reducible refine gate_callee (f := 37) rfl ?_); refine goesL_ (some 54) rfl rfl Try.func37 (by kernel_rfl) rfl #[.int .i64 1] rfl (by (try simp only [List.map_toArray, List.map_cons, List.map_nil]); first | done | rfl | (simp only [List.length_drop, List.length_take]; rfl)) ?_; (with_reducible refine (ast_getIntForLOp.calls 1 t121 _ A50.out).mono ?_); rintro e w' ⟨rfl, ⟨nd, rfl⟩⟩; refine ⟨_, rfl, ?_⟩))
                                    go_ret
                                    exact ⟨by first | rfl | (simp; done) | (simp [*]; done), by repeat (first | exact Drawn0.refl _ | apply Drawn0.step)⟩
                                  · rw [if_neg c51] at H
                                    have c51b0 : (a0 == t121) = false := beq_eq_false_iff_ne.mpr c51
                                    have c51b1 : (a0 != t121) = true := bne_iff_ne.mpr c51
                                    replace H := Option.bind_eq_some_iff.mp H
                                    obtain ⟨t122, A520, H⟩ := H
                                    replace H : (if a0 = t122 then (some 8) else (some 0)) = some r := H
                                    have A52 := Aside0.mk A520
                                    clear A520
                                    by_cases c53 : a0 = t122
                                    · rw [if_pos c53] at H
                                      have c53b0 : (a0 == t122) = true := beq_iff_eq.mpr c53
                                      have c53b1 : (a0 != t122) = false := bne_eq_false_iff_eq.mpr c53
                                      clear c53
                                      obtain rfl := Option.some.inj H
                                      go_wp2_with (first | ((with_reducible refine gate_callee (f := 37) rfl ?_); refine goesL_ (some 54) rfl rfl Try.func37 (by kernel_rfl) rfl #[.int .i64 1] rfl (by (try simp only [List.map_toArray, List.map_cons, List.map_nil]); first | done | rfl | (simp only [List.length_drop, List.length_take]; rfl)) ?_; (with_reducible refine (ast_getIntForLOp.calls 1 t121 _ A50.out).mono ?_); rintro e w' ⟨rfl, ⟨nd, rfl⟩⟩; refine ⟨_, rfl, ?_⟩) | ((with_reducible refine gate_callee (f := 37) rfl ?_); refine goesL_ (some 57) rfl rfl Try.func37 (by kernel_rfl) rfl #[.int .i64 2] rfl (by (try simp only [List.map_toArray, List.map_cons, List.map_nil]); first | done | rfl | (simp only [List.length_drop, List.length_take]; rfl)) ?_; (with_reducible refine (ast_getIntForLOp.calls 2 t122 _ A52.out).mono ?_); rintro e w' ⟨rfl, ⟨nd, rfl⟩⟩; refine ⟨_, rfl, ?_⟩))
                                      go_ret
                                      exact ⟨by first | rfl | (simp; done) | (simp [*]; done), by repeat (first | exact Drawn0.refl _ | apply Drawn0.step)⟩
                                    · rw [if_neg c53] at H
                                      have c53b0 : (a0 == t122) = false := beq_eq_false_iff_ne.mpr c53
                                      have c53b1 : (a0 != t122) = true := bne_iff_ne.mpr c53
                                      obtain rfl := Option.some.inj H
                                      go_wp2_with (first | ((with_reducible refine gate_callee (f := 37) rfl ?_); refine goesL_ (some 54) rfl rfl Try.func37 (by kernel_rfl) rfl #[.int .i64 1] rfl (by (try simp only [List.map_toArray, List.map_cons, List.map_nil]); first | done | rfl | (simp only [List.length_drop, List.length_take]; rfl)) ?_; (with_reducible refine (ast_getIntForLOp.calls 1 t121 _ A50.out).mono ?_); rintro e w' ⟨rfl, ⟨nd, rfl⟩⟩; refine ⟨_, rfl, ?_⟩) | ((with_reducible refine gate_callee (f := 37) rfl ?_); refine goesL_ (some 57) rfl rfl Try.func37 (by kernel_rfl) rfl #[.int .i64 2] rfl (by (try simp only [List.map_toArray, List.map_cons, List.map_nil]); first | done | rfl | (simp only [List.length_drop, List.length_take]; rfl)) ?_; (with_reducible refine (ast_getIntForLOp.calls 2 t122 _ A52.out).mono ?_); rintro e w' ⟨rfl, ⟨nd, rfl⟩⟩; refine ⟨_, rfl, ?_⟩))
                                      go_ret
                                      exact ⟨by first | rfl | (simp; done) | (simp [*]; done), by repeat (first | exact Drawn0.refl _ | apply Drawn0.step)⟩

end Go.Proofs.Ytlnimjpigghbmaa.PFnPrecedence
