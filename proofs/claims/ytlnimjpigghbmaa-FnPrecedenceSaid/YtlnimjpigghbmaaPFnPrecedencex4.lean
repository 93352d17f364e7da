-- PRINTED BY print.sh 35421559b90ae4d0a3588c463048766b98c2df88dd9212a6774a882060cdf62d: not written by this session
import Derived.Test.YtlnimjpigghbmaaPFnPrecedencex0
import Derived.Test.YtlnimjpigghbmaaPFnPrecedencex3
namespace Go.Proofs.Ytlnimjpigghbmaa.PFnPrecedence
open Go.RowKit Go.Proofs.YtlnimjpigghbmaaW.PrintWords Go.Proofs.YtlnimjpigghbmaaW.PrintLast Go.Proofs.YtlnimjpigghbmaaW.PrintMore
attribute [local go_sem] max2_int min2_int max_two min_two max_three min_three max_four min_four   -- for this text's walks alone
set_option linter.unusedVariables false
set_option linter.unusedSimpArgs false

/-! ### laws_FnPrecedence: function 6 -/
mutual
def laws_FnPrecedence.j0 : Nat → ByteArray → ByteArray → Bool → Option (Bool)
  | 0, _, _, _ => none
  | k + 1, x0, x1, x13 => if x13 = true then (some true) else ((impl_Precedence.f k (⟨#[42]⟩ : ByteArray)).bind fun t131 => ((impl_Precedence.f k (⟨#[43]⟩ : ByteArray)).bind fun t132 => ((laws_binds.f k x0).bind fun t133 => (if t133 = 0 then (laws_FnPrecedence.j1 k x0 x1 (decide (t131 < t132)) true) else ((laws_binds.f k x1).bind fun t134 => (laws_FnPrecedence.j1 k x0 x1 (decide (t131 < t132)) (t134 == 0)))))))
def laws_FnPrecedence.j1 : Nat → ByteArray → ByteArray → Bool → Bool → Option (Bool)
  | 0, _, _, _, _ => none
  | k + 1, x0, x1, x5, x24 => if x24 = true then (some x5) else ((impl_Precedence.f k x0).bind fun t135 => ((impl_Precedence.f k x1).bind fun t136 => ((laws_binds.f k x0).bind fun t137 => ((laws_binds.f k x1).bind fun t138 => (if ((decide (t135 < t136)) == (decide (t137 < t138))) = true then (some x5) else (some false))))))
end
def laws_FnPrecedence.f (k : Nat) (a0 : ByteArray) (a1 : ByteArray) : Option (Bool) := if (a0.size : Int) > 2147483647 then (laws_FnPrecedence.j0 k a0 a1 true) else (laws_FnPrecedence.j0 k a0 a1 (decide ((a1.size : Int) > 2147483647)))
theorem laws_FnPrecedence.mono_l : ∀ k, (∀ y0 y1 y2, LeO (laws_FnPrecedence.j0 k y0 y1 y2) (laws_FnPrecedence.j0 (k + 1) y0 y1 y2)) ∧ (∀ y0 y1 y2 y3, LeO (laws_FnPrecedence.j1 k y0 y1 y2 y3) (laws_FnPrecedence.j1 (k + 1) y0 y1 y2 y3))
  | 0 => ⟨fun _ _ _ r h => by simp [laws_FnPrecedence.j0] at h, fun _ _ _ _ r h => by simp [laws_FnPrecedence.j1] at h⟩
  | k + 1 => by
    obtain ⟨ih0, ih1⟩ := laws_FnPrecedence.mono_l k
    refine ⟨?_, ?_⟩
    · intro y0 y1 y2
      unfold laws_FnPrecedence.j0
      repeat' first
      | (with_reducible exact ih0 _ _ _)
      | (with_reducible exact ih1 _ _ _ _)
      | (with_reducible exact impl_Precedence.mono _ _)
      | (with_reducible exact laws_binds.mono _ _)
      | (with_reducible exact LeO.refl _)
      | (with_reducible exact LeO.none _)
      | (with_reducible refine LeO.ite ?_ ?_)
      | (with_reducible refine LeO.bind ?_ (fun _ => ?_))
      | exact ih0 _ _ _
      | exact ih1 _ _ _ _
      | exact impl_Precedence.mono _ _
      | exact laws_binds.mono _ _
      | exact LeO.none _
      | refine LeO.ite ?_ ?_
      | refine LeO.bind ?_ (fun _ => ?_)
    · intro y0 y1 y2 y3
      unfold laws_FnPrecedence.j1
      repeat' first
      | (with_reducible exact ih0 _ _ _)
      | (with_reducible exact ih1 _ _ _ _)
      | (with_reducible exact impl_Precedence.mono _ _)
      | (with_reducible exact laws_binds.mono _ _)
      | (with_reducible exact LeO.refl _)
      | (with_reducible exact LeO.none _)
      | (with_reducible refine LeO.ite ?_ ?_)
      | (with_reducible refine LeO.bind ?_ (fun _ => ?_))
      | exact ih0 _ _ _
      | exact ih1 _ _ _ _
      | exact impl_Precedence.mono _ _
      | exact laws_binds.mono _ _
      | exact LeO.none _
      | refine LeO.ite ?_ ?_
      | refine LeO.bind ?_ (fun _ => ?_)
theorem laws_FnPrecedence.mono : ∀ a0 a1 k, LeO (laws_FnPrecedence.f k a0 a1) (laws_FnPrecedence.f (k + 1) a0 a1) := by
  intro a0 a1 k
  obtain ⟨ih0, ih1⟩ := laws_FnPrecedence.mono_l k
  unfold laws_FnPrecedence.f
  repeat' first
      | (with_reducible exact ih0 _ _ _)
      | (with_reducible exact ih1 _ _ _ _)
      | (with_reducible exact impl_Precedence.mono _ _)
      | (with_reducible exact laws_binds.mono _ _)
      | (with_reducible exact LeO.refl _)
      | (with_reducible exact LeO.none _)
      | (with_reducible refine LeO.ite ?_ ?_)
      | (with_reducible refine LeO.bind ?_ (fun _ => ?_))
      | exact ih0 _ _ _
      | exact ih1 _ _ _ _
      | exact impl_Precedence.mono _ _
      | exact laws_binds.mono _ _
      | exact LeO.none _
      | refine LeO.ite ?_ ?_
      | refine LeO.bind ?_ (fun _ => ?_)
set_option maxHeartbeats 8000000 in
set_option maxRecDepth 100000 in
theorem laws_FnPrecedence.calls (k : Nat) (a0 : ByteArray) (a1 : ByteArray) (r : Bool) (w : World) (h : laws_FnPrecedence.f k a0 a1 = some r) :
    Calls Try.prog 6 #[.string a0, .string a1] w fun e w' => e = .returned (.bool r) ∧ Drawn0 w w' := by
  have H : (if (a0.size : Int) > 2147483647 then (laws_FnPrecedence.j0 k a0 a1 true) else (laws_FnPrecedence.j0 k a0 a1 (decide ((a1.size : Int) > 2147483647)))) = some r := h
  clear h
  have HC3 := Aside0.mk H
  clear H
  go_enter Try.func6, Try.ntmps6
  go_upto_region 1 with (fail)
  go_cut [13] (fun v13 wc => ∃ (kq : Nat) (x13_2 : Bool), v13 = .bool x13_2 ∧ Aside0 (laws_FnPrecedence.j0 kq a0 a1 x13_2 = some r) ∧ Aside0 (kq ≤ k) ∧ Drawn0 w wc)
  case first =>
    have H := HC3.out
    clear HC3
    by_cases c4 : (a0.size : Int) > 2147483647
    · rw [if_pos c4] at H
      have c4b0 : decide (2147483647 < (a0.size : Int)) = true := decide_eq_true c4
      have c4b1 : decide (2147483647 < a0.size) = true := decide_eq_true (by omega)
      clear c4
      (first | rw [c4b0] | (simp only [i64_w, i32_w]; rw [c4b0]) | skip)
      have H' := Aside0.mk H
      clear H
      go_wp2
      go_meet
      case rel => exact ⟨_, (true), (by first | rfl | (simp; done) | (simp [*]; done)), H', ⟨by first | omega | exact Nat.le_refl _⟩, by repeat (first | exact Drawn0.refl _ | apply Drawn0.step)⟩
    · rw [if_neg c4] at H
      have c4b0 : decide (2147483647 < (a0.size : Int)) = false := decide_eq_false c4
      have c4b1 : decide (2147483647 < a0.size) = false := decide_eq_false (by omega)
      clear c4
      (first | rw [c4b0] | (simp only [i64_w, i32_w]; rw [c4b0]) | skip)
      have H' := Aside0.mk H
      clear H
      go_wp2
      go_meet
      case rel => exact ⟨_, (decide ((a1.size : Int) > 2147483647)), (by first | rfl | (simp; done) | (simp [*]; done)), H', ⟨by first | omega | exact Nat.le_refl _⟩, by repeat (first | exact Drawn0.refl _ | apply Drawn0.step)⟩
  case rest =>
    clear HC3
    try clear p2
    try clear c4
    try clear c4b0
    try clear c4b1
    obtain ⟨kq, x13_2, rfl, HA, HJ2, ⟨mc2, rfl⟩⟩ := hcut
    cases kq with
    | zero => exact absurd HA.out (by simp [laws_FnPrecedence.j0])
    | succ kj2 =>
      have H := HA.out
      clear HA
      simp only [laws_FnPrecedence.j0] at H
      by_cases c5 : x13_2 = true
      · subst c5
        have H1 : (some true) = some r := by rw [if_pos rfl] at H; exact H
        clear H
        have H := H1
        clear H1
        obtain rfl := Option.some.inj H
        go_wp2
        go_ret
        exact ⟨by first | rfl | (simp; done) | (simp [*]; done), by repeat (first | exact Drawn0.refl _ | apply Drawn0.step)⟩
      · replace c5 := Bool.eq_false_iff.mpr c5
        subst c5
        have H1 : ((impl_Precedence.f kj2 (⟨#[42]⟩ : ByteArray)).bind fun t131 => ((impl_Precedence.f kj2 (⟨#[43]⟩ : ByteArray)).bind fun t132 => ((laws_binds.f kj2 a0).bind fun t133 => (if t133 = 0 then (laws_FnPrecedence.j1 kj2 a0 a1 (decide (t131 < t132)) true) else ((laws_binds.f kj2 a1).bind fun t134 => (laws_FnPrecedence.j1 kj2 a0 a1 (decide (t131 < t132)) (t134 == 0))))))) = some r := by rw [if_neg (show ¬ (false = true) by decide)] at H; exact H
        clear H
        have H := H1
        clear H1
        replace H := Option.bind_eq_some_iff.mp H
        obtain ⟨t131, A60, H⟩ := H
        replace H : ((impl_Precedence.f kj2 (⟨#[43]⟩ : ByteArray)).bind fun t132 => ((laws_binds.f kj2 a0).bind fun t133 => (if t133 = 0 then (laws_FnPrecedence.j1 kj2 a0 a1 (decide (t131 < t132)) true) else ((laws_binds.f kj2 a1).bind fun t134 => (laws_FnPrecedence.j1 kj2 a0 a1 (decide (t131 < t132)) (t134 == 0)))))) = some r := H
        have A6 := Aside0.mk A60
        clear A60
        replace H := Option.bind_eq_some_iff.mp H
        obtain ⟨t132, A70, H⟩ := H
        replace H : ((laws_binds.f kj2 a0).bind fun t133 => (if t133 = 0 then (laws_FnPrecedence.j1 kj2 a0 a1 (decide (t131 < t132)) true) else ((laws_binds.f kj2 a1).bind fun t134 => (laws_FnPrecedence.j1 kj2 a0 a1 (decide (t131 < t132)) (t134 == 0))))) = some r := H
        have A7 := Aside0.mk A70
        clear A70
        have HC8 := Aside0.mk H
        clear H
        go_upto_region 4 with (first | ((with_reducible refine gate_callee (f := 13) rfl ?_); refine goesL_ (some 14) rfl rfl Try.func13 (by kernel_rfl) rfl #[.string (⟨#[42]⟩ : ByteArray)] rfl (by (try simp only [List.map_toArray, List.map_cons, List.map_nil]); first | done | rfl | (simp only [List.length_drop, List.length_take]; rfl)) ?_; (with_reducible refine (impl_Precedence.calls kj2 (⟨#[42]⟩ : ByteArray) t131 _ A6.out).mono ?_); rintro e w' ⟨rfl, ⟨nd, rfl⟩⟩; refine ⟨_, rfl, ?_⟩) | ((with_reducible refine gate_callee (f := 13) rfl ?_); refine goesL_ (some 15) rfl rfl Try.func13 (by kernel_rfl) rfl #[.string (⟨#[43]⟩ : ByteArray)] rfl (by (try simp only [List.map_toArray, List.map_cons, List.map_nil]); first | done | rfl | (simp only [List.length_drop, List.length_take]; rfl)) ?_; (with_reducible refine (impl_Precedence.calls kj2 (⟨#[43]⟩ : ByteArray) t132 _ A7.out).mono ?_); rintro e w' ⟨rfl, ⟨nd, rfl⟩⟩; refine ⟨_, rfl, ?_⟩))
        (try simp only [Act.put, List.setIfInBounds_toArray, List.set_cons_zero, List.set_cons_succ])
        go_cut [24] (fun v24 wc => ∃ (kq : Nat) (x24_7 : Bool), v24 = .bool x24_7 ∧ Aside0 (laws_FnPrecedence.j1 kq a0 a1 (decide (t131 < t132)) x24_7 = some r) ∧ Aside0 (kq ≤ kj2) ∧ Drawn0 w wc)
        case first =>
          have H := HC8.out
          clear HC8
          replace H := Option.bind_eq_some_iff.mp H
          obtain ⟨t133, A90, H⟩ := H
          replace H : (if t133 = 0 then (laws_FnPrecedence.j1 kj2 a0 a1 (decide (t131 < t132)) true) else ((laws_binds.f kj2 a1).bind fun t134 => (laws_FnPrecedence.j1 kj2 a0 a1 (decide (t131 < t132)) (t134 == 0)))) = some r := H
          have A9 := Aside0.mk A90
          clear A90
          by_cases c10 : t133 = 0
          · rw [if_pos c10] at H
            have c10b0 : (t133 == 0) = true := beq_iff_eq.mpr c10
            have c10b1 : (t133 != 0) = false := bne_eq_false_iff_eq.mpr c10
            clear c10
            (first | rw [c10b0] | (simp only [i64_w, i32_w]; rw [c10b0]) | skip)
            have H' := Aside0.mk H
            clear H
            go_wp2_with (first | ((with_reducible refine gate_callee (f := 14) rfl ?_); refine goesL_ (some 18) rfl rfl Try.func14 (by kernel_rfl) rfl #[.string a0] rfl (by (try simp only [List.map_toArray, List.map_cons, List.map_nil]); first | done | rfl | (simp only [List.length_drop, List.length_take]; rfl)) ?_; (with_reducible refine (laws_binds.calls kj2 a0 t133 _ A9.out).mono ?_); rintro e w' ⟨rfl, ⟨nd, rfl⟩⟩; refine ⟨_, rfl, ?_⟩))
            go_meet
            case rel => exact ⟨_, (true), (by first | rfl | (simp; done) | (simp [*]; done)), H', ⟨by have := HJ2.out; first | omega | exact Nat.le_refl _⟩, by repeat (first | exact Drawn0.refl _ | apply Drawn0.step)⟩
          · rw [if_neg c10] at H
            have c10b0 : (t133 == 0) = false := beq_eq_false_iff_ne.mpr c10
            have c10b1 : (t133 != 0) = true := bne_iff_ne.mpr c10
            (first | rw [c10b0] | (simp only [i64_w, i32_w]; rw [c10b0]) | skip)
            replace H := Option.bind_eq_some_iff.mp H
            obtain ⟨t134, A110, H⟩ := H
            replace H : (laws_FnPrecedence.j1 kj2 a0 a1 (decide (t131 < t132)) (t134 == 0)) = some r := H
            have A11 := Aside0.mk A110
            clear A110
            have H' := Aside0.mk H
            clear H
            go_wp2_with (first | ((with_reducible refine gate_callee (f := 14) rfl ?_); refine goesL_ (some 18) rfl rfl Try.func14 (by kernel_rfl) rfl #[.string a0] rfl (by (try simp only [List.map_toArray, List.map_cons, List.map_nil]); first | done | rfl | (simp only [List.length_drop, List.length_take]; rfl)) ?_; (with_reducible refine (laws_binds.calls kj2 a0 t133 _ A9.out).mono ?_); rintro e w' ⟨rfl, ⟨nd, rfl⟩⟩; refine ⟨_, rfl, ?_⟩) | (go_at_call 14; (with_reducible refine (laws_binds.calls kj2 a1 t134 _ A11.out).mono ?_); rintro e w' ⟨rfl, ⟨nd, rfl⟩⟩))
            go_meet
            case rel => exact ⟨_, ((t134 == 0)), (by first | rfl | (simp; done) | (simp [*]; done)), H', ⟨by have := HJ2.out; first | omega | exact Nat.le_refl _⟩, by repeat (first | exact Drawn0.refl _ | apply Drawn0.step)⟩
        case rest =>
          clear HC8
          try clear c1
          try clear c2
          try clear p2
          try clear c4
          try clear c4b0
          try clear c4b1
          try clear c5
          try clear c6
          try clear c10
          try clear c10b0
          try clear c10b1
          try clear p2
          obtain ⟨kq, x24_7, rfl, HA, HJ7, ⟨mc7, rfl⟩⟩ := hcut
          cases kq with
          | zero => exact absurd HA.out (by simp [laws_FnPrecedence.j1])
          | succ kj7 =>
            have H := HA.out
            clear HA
            simp only [laws_FnPrecedence.j1] at H
            by_cases c12 : x24_7 = true
            · subst c12
              have H1 : (some (decide (t131 < t132))) = some r := by rw [if_pos rfl] at H; exact H
              clear H
              have H := H1
              clear H1
              obtain rfl := Option.some.inj H
              go_wp2
              go_ret
              exact ⟨by first | rfl | (simp; done) | (simp [*]; done), by repeat (first | exact Drawn0.refl _ | apply Drawn0.step)⟩
            · replace c12 := Bool.eq_false_iff.mpr c12
              subst c12
              have H1 : ((impl_Precedence.f kj7 a0).bind fun t135 => ((impl_Precedence.f kj7 a1).bind fun t136 => ((laws_binds.f kj7 a0).bind fun t137 => ((laws_binds.f kj7 a1).bind fun t138 => (if ((decide (t135 < t136)) == (decide (t137 < t138))) = true then (some (decide (t131 < t132))) else (some false)))))) = some r := by rw [if_neg (show ¬ (false = true) by decide)] at H; exact H
              clear H
              have H := H1
              clear H1
              replace H := Option.bind_eq_some_iff.mp H
              obtain ⟨t135, A130, H⟩ := H
              replace H : ((impl_Precedence.f kj7 a1).bind fun t136 => ((laws_binds.f kj7 a0).bind fun t137 => ((laws_binds.f kj7 a1).bind fun t138 => (if ((decide (t135 < t136)) == (decide (t137 < t138))) = true then (some (decide (t131 < t132))) else (some false))))) = some r := H
              have A13 := Aside0.mk A130
              clear A130
              replace H := Option.bind_eq_some_iff.mp H
              obtain ⟨t136, A140, H⟩ := H
              replace H : ((laws_binds.f kj7 a0).bind fun t137 => ((laws_binds.f kj7 a1).bind fun t138 => (if ((decide (t135 < t136)) == (decide (t137 < t138))) = true then (some (decide (t131 < t132))) else (some false)))) = some r := H
              have A14 := Aside0.mk A140
              clear A140
              replace H := Option.bind_eq_some_iff.mp H
              obtain ⟨t137, A150, H⟩ := H
              replace H : ((laws_binds.f kj7 a1).bind fun t138 => (if ((decide (t135 < t136)) == (decide (t137 < t138))) = true then (some (decide (t131 < t132))) else (some false))) = some r := H
              have A15 := Aside0.mk A150
              clear A150
              replace H := Option.bind_eq_some_iff.mp H
              obtain ⟨t138, A160, H⟩ := H
              replace H : (if ((decide (t135 < t136)) == (decide (t137 < t138))) = true then (some (decide (t131 < t132))) else (some false)) = some r := H
              have A16 := Aside0.mk A160
              clear A160
              by_cases c17 : ((decide (t135 < t136)) == (decide (t137 < t138))) = true
              · rw [if_pos c17] at H
                have c17b0 : ((decide (t135 < t136)) == (decide (t137 < t138))) = true := c17
                (try (have c17b1 : decide ((decide (t135 < t136)) = (decide (t137 < t138))) = true := by simpa using c17))
                (try (have c17b2 : ((decide (t135 < t136)) == (decide (t137 < t138))) = true := by simpa using c17))
                clear c17
                obtain rfl := Option.some.inj H
                go_wp2_with (first | ((with_reducible refine gate_callee (f := 13) rfl ?_); refine goesL_ (some 27) rfl rfl Try.func13 (by kernel_rfl) rfl #[.string a0] rfl (by (try simp only [List.map_toArray, List.map_cons, List.map_nil]); first | done | rfl | (simp only [List.length_drop, List.length_take]; rfl)) ?_; (with_reducible refine (impl_Precedence.calls kj7 a0 t135 _ A13.out).mono ?_); rintro e w' ⟨rfl, ⟨nd, rfl⟩⟩; refine ⟨_, rfl, ?_⟩) | ((with_reducible refine gate_callee (f := 13) rfl ?_); refine goesL_ (some 29) rfl rfl Try.func13 (by kernel_rfl) rfl #[.string a1] rfl (by (try simp only [List.map_toArray, List.map_cons, List.map_nil]); first | done | rfl | (simp only [List.length_drop, List.length_take]; rfl)) ?_; (with_reducible refine (impl_Precedence.calls kj7 a1 t136 _ A14.out).mono ?_); rintro e w' ⟨rfl, ⟨nd, rfl⟩⟩; refine ⟨_, rfl, ?_⟩) | ((with_reducible refine gate_callee (f := 14) rfl ?_); refine goesL_ (some 32) rfl rfl Try.func14 (by kernel_rfl) rfl #[.string a0] rfl (by (try simp only [List.map_toArray, List.map_cons, List.map_nil]); first | done | rfl | (simp only [List.length_drop, List.length_take]; rfl)) ?_; (with_reducible refine (laws_binds.calls kj7 a0 t137 _ A15.out).mono ?_); rintro e w' ⟨rfl, ⟨nd, rfl⟩⟩; refine ⟨_, rfl, ?_⟩) | ((with_reducible refine gate_callee (f := 14) rfl ?_); refine goesL_ (some 34) rfl rfl Try.func14 (by kernel_rfl) rfl #[.string a1] rfl (by (try simp only [List.map_toArray, List.map_cons, List.map_nil]); first | done | rfl | (simp only [List.length_drop, List.length_take]; rfl)) ?_; (with_reducible refine (laws_binds.calls kj7 a1 t138 _ A16.out).mono ?_); rintro e w' ⟨rfl, ⟨nd, rfl⟩⟩; refine ⟨_, rfl, ?_⟩))
                go_ret
                exact ⟨by first | rfl | (simp; done) | (simp [*]; done), by repeat (first | exact Drawn0.refl _ | apply Drawn0.step)⟩
              · rw [if_neg c17] at H
                have c17b0 : ((decide (t135 < t136)) == (decide (t137 < t138))) = false := by simpa using c17
                (try (have c17b1 : decide ((decide (t135 < t136)) = (decide (t137 < t138))) = false := by simpa using c17))
                (try (have c17b2 : ((decide (t135 < t136)) == (decide (t137 < t138))) = false := by simpa using c17))
                (try (have c17b3 : ¬ ((decide (t135 < t136)) = (decide (t137 < t138))) := by simpa using c17))
                clear c17
                obtain rfl := Option.some.inj H
                go_wp2_with (first | ((with_reducible refine gate_callee (f := 13) rfl ?_); refine goesL_ (some 27) rfl rfl Try.func13 (by kernel_rfl) rfl #[.string a0] rfl (by (try simp only [List.map_toArray, List.map_cons, List.map_nil]); first | done | rfl | (simp only [List.length_drop, List.length_take]; rfl)) ?_; (with_reducible refine (impl_Precedence.calls kj7 a0 t135 _ A13.out).mono ?_); rintro e w' ⟨rfl, ⟨nd, rfl⟩⟩; refine ⟨_, rfl, ?_⟩) | ((with_reducible refine gate_callee (f := 13) rfl ?_); refine goesL_ (some 29) rfl rfl Try.func13 (by kernel_rfl) rfl #[.string a1] rfl (by (try simp only [List.map_toArray, List.map_cons, List.map_nil]); first | done | rfl | (simp only [List.length_drop, List.length_take]; rfl)) ?_; (with_reducible refine (impl_Precedence.calls kj7 a1 t136 _ A14.out).mono ?_); rintro e w' ⟨rfl, ⟨nd, rfl⟩⟩; refine ⟨_, rfl, ?_⟩) | ((with_reducible refine gate_callee (f := 14) rfl ?_); refine goesL_ (some 32) rfl rfl Try.func14 (by kernel_rfl) rfl #[.string a0] rfl (by (try simp only [List.map_toArray, List.map_cons, List.map_nil]); first | done | rfl | (simp only [List.length_drop, List.length_take]; rfl)) ?_; (with_reducible refine (laws_binds.calls kj7 a0 t137 _ A15.out).mono ?_); rintro e w' ⟨rfl, ⟨nd, rfl⟩⟩; refine ⟨_, rfl, ?_⟩) | ((with_reducible refine gate_callee (f := 14) rfl ?_); refine goesL_ (some 34) rfl rfl Try.func14 (by kernel_rfl) rfl #[.string a1] rfl (by (try simp only [List.map_toArray, List.map_cons, List.map_nil]); first | done | rfl | (simp only [List.length_drop, List.length_take]; rfl)) ?_; (with_reducible refine (laws_binds.calls kj7 a1 t138 _ A16.out).mono ?_); rintro e w' ⟨rfl, ⟨nd, rfl⟩⟩; refine ⟨_, rfl, ?_⟩))
                go_ret
                exact ⟨by first | rfl | (simp; done) | (simp [*]; done), by repeat (first | exact Drawn0.refl _ | apply Drawn0.step)⟩

/-- THE ONE PURE STATEMENT of laws_FnPrecedence: yours. -/
def laws_FnPrecedence.Pure : Prop := ∀ (a0 : ByteArray) (a1 : ByteArray), a0.size ≤ 140737488351232 → a1.size ≤ 140737488351232 → ∃ k, laws_FnPrecedence.f k a0 a1 = some true
theorem laws_FnPrecedence.walk (P : laws_FnPrecedence.Pure) (a0 : ByteArray) (a1 : ByteArray) (w : World) (w0 : a0.size ≤ 140737488351232) (w1 : a1.size ≤ 140737488351232) :
    Calls Try.prog 6 #[.string a0, .string a1] w fun e w' => e = .returned (.bool true) ∧ Below w.heap.size w w' := by
  obtain ⟨k, h⟩ := P a0 a1 w0 w1
  refine (laws_FnPrecedence.calls k a0 a1 true w h).mono ?_
  rintro e w' ⟨rfl, hd⟩
  exact ⟨rfl, hd.below⟩

end Go.Proofs.Ytlnimjpigghbmaa.PFnPrecedence
