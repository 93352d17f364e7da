-- PRINTED BY print.sh 35421559b90ae4d0a3588c463048766b98c2df88dd9212a6774a882060cdf62d: not written by this session
import Derived.Test.YtlnimjpigghbmaaPFnPlacesOfx0
namespace Go.Proofs.Ytlnimjpigghbmaa.PFnPlacesOf
open Go.RowKit Go.Proofs.YtlnimjpigghbmaaW.PrintWords Go.Proofs.YtlnimjpigghbmaaW.PrintLast Go.Proofs.YtlnimjpigghbmaaW.PrintMore
attribute [local go_sem] max2_int min2_int max_two min_two max_three min_three max_four min_four   -- for this text's walks alone
set_option linter.unusedVariables false
set_option linter.unusedSimpArgs false

-- NOT PRINTED: function 20 (impl_Place)

-- NOT PRINTED: function 28 (token_NewFile)

-- NOT PRINTED: function 29 (token_File_AddLine)

-- NOT PRINTED: function 21 (impl_fileOf)

/-! ### token_searchInts: function 30 -/
def token_searchInts.l0 : Nat → List Int → Int → Int → Int → Option (Int)
  | 0, _, _, _, _ => none
  | k + 1, x0, x1, x5, x6 => if x5 < x6 then (if 0 ≤ (wrap64 (x5 + (wrap64 (Int.tdiv (wrap64 (x6 - x5)) 2)))) then (if (wrap64 (x5 + (wrap64 (Int.tdiv (wrap64 (x6 - x5)) 2)))) < (x0.length : Int) then (if (rd x0 (wrap64 (x5 + (wrap64 (Int.tdiv (wrap64 (x6 - x5)) 2))))) ≤ x1 then (token_searchInts.l0 k x0 x1 (wrap64 ((wrap64 (x5 + (wrap64 (Int.tdiv (wrap64 (x6 - x5)) 2)))) + 1)) x6) else (token_searchInts.l0 k x0 x1 x5 (wrap64 (x5 + (wrap64 (Int.tdiv (wrap64 (x6 - x5)) 2)))))) else (none)) else (none)) else (some (wrap64 (x5 - 1)))
def token_searchInts.f (k : Nat) (l0 : List Int) (a1 : Int) : Option (Int) := token_searchInts.l0 k l0 a1 0 (l0.length : Int)
theorem token_searchInts.mono_l : ∀ k, (∀ y0 y1 y2 y3, LeO (token_searchInts.l0 k y0 y1 y2 y3) (token_searchInts.l0 (k + 1) y0 y1 y2 y3))
  | 0 => fun _ _ _ _ r h => by simp [token_searchInts.l0] at h
  | k + 1 => by
    have ih0 := token_searchInts.mono_l k
    · intro y0 y1 y2 y3
      unfold token_searchInts.l0
      repeat' first
      | (with_reducible exact ih0 _ _ _ _)
      | (with_reducible exact LeO.refl _)
      | (with_reducible exact LeO.none _)
      | (with_reducible refine LeO.ite ?_ ?_)
      | (with_reducible refine LeO.bind ?_ (fun _ => ?_))
      | exact ih0 _ _ _ _
      | exact LeO.none _
      | refine LeO.ite ?_ ?_
      | refine LeO.bind ?_ (fun _ => ?_)
theorem token_searchInts.mono : ∀ a0 a1 k, LeO (token_searchInts.f k a0 a1) (token_searchInts.f (k + 1) a0 a1) := by
  intro a0 a1 k
  have ih0 := token_searchInts.mono_l k
  unfold token_searchInts.f
  repeat' first
      | (with_reducible exact ih0 _ _ _ _)
      | (with_reducible exact LeO.refl _)
      | (with_reducible exact LeO.none _)
      | (with_reducible refine LeO.ite ?_ ?_)
      | (with_reducible refine LeO.bind ?_ (fun _ => ?_))
      | exact ih0 _ _ _ _
      | exact LeO.none _
      | refine LeO.ite ?_ ?_
      | refine LeO.bind ?_ (fun _ => ?_)
set_option maxHeartbeats 8000000 in
set_option maxRecDepth 100000 in
theorem token_searchInts.calls (k : Nat) (A0 : Option Addr) (c0 : Nat) (l0 : List Int) (a1 : Int) (r : Int) (w : World) (hr0 : Kd.C (Kd.int .i64) w A0 l0.length l0) (hc0 : l0.length ≤ c0) (h : token_searchInts.f k l0 a1 = some r) :
    Calls Try.prog 30 #[.slice A0 l0.length c0, .int .i64 a1] w fun e w' => e = .returned (.int .i64 r) ∧ Drawn0 w w' := by
  have HR0 := Aside0.mk hr0
  have HC0 := Aside0.mk hc0
  clear hr0 hc0
  have H : (token_searchInts.l0 k l0 a1 0 (l0.length : Int)) = some r := h
  clear h
  have H' := Aside0.mk H
  clear H
  go_enter Try.func30, Try.ntmps30
  go_wp2
  go_loopg [5, 6] k (fun kq v5 v6 w' => ∃ (x5_1 : Int) (x6_1 : Int), v5 = .int .i64 x5_1 ∧ v6 = .int .i64 x6_1 ∧ Aside0 (token_searchInts.l0 kq l0 a1 x5_1 x6_1 = some r) ∧ Aside0 (kq ≤ k) ∧ Drawn0 w w')
  case atStart => exact ⟨(0), ((l0.length : Int)), (by first | rfl | (simp; done) | (simp [*]; done)), (by first | rfl | (simp; done) | (simp [*]; done)), H', ⟨Nat.le_refl _⟩, by repeat (first | exact Drawn0.refl _ | apply Drawn0.step)⟩
  case round =>
    clear H'
    try clear p2
    obtain ⟨x5_1, x6_1, rfl, rfl, HA, HK1, ⟨m1, rfl⟩⟩ := hrel
    cases gk with
    | zero => exact absurd HA.out (by simp [token_searchInts.l0])
    | succ k1 =>
      have H := HA.out
      clear HA
      simp only [token_searchInts.l0] at H
      by_cases c3 : x5_1 < x6_1
      · rw [if_pos c3] at H
        have c3b0 : decide (x5_1 < x6_1) = true := decide_eq_true c3
        clear c3
        obtain ⟨ji4, hji4⟩ : ∃ j_ : Int, (wrap64 (x5_1 + (wrap64 (Int.tdiv (wrap64 (x6_1 - x5_1)) 2)))) = j_ := ⟨_, rfl⟩
        replace H : (if 0 ≤ (ji4) then (if (ji4) < (l0.length : Int) then (if (rd l0 (ji4)) ≤ a1 then (token_searchInts.l0 k1 l0 a1 (wrap64 ((ji4) + 1)) x6_1) else (token_searchInts.l0 k1 l0 a1 x5_1 ji4)) else (none)) else (none)) = some r := by first | (rw [hji4] at H; exact H) | (simp only [hji4] at H ⊢; exact H)
        have hji4w : (IntKind.i64.wrap (x5_1 + (wrap64 (Int.tdiv (wrap64 (x6_1 - x5_1)) 2)))) = ji4 := (i64_w _).trans hji4
        by_cases c5 : 0 ≤ (ji4)
        · rw [if_pos c5] at H
          have c5b0 : decide (0 ≤ (ji4)) = true := decide_eq_true c5
          clear c5
          by_cases c6 : (ji4) < (l0.length : Int)
          · rw [if_pos c6] at H
            have c6b0 : decide ((ji4) < (l0.length : Int)) = true := decide_eq_true c6
            clear c6
            by_cases c7 : (rd l0 (ji4)) ≤ a1
            · rw [if_pos c7] at H
              have c7b0 : decide ((rd l0 (ji4)) ≤ a1) = true := decide_eq_true c7
              clear c7
              have H' := Aside0.mk H
              clear H
              have p106 : 0 ≤ ((ji4) : Int) := of_decide_eq_true (by first | (with_reducible assumption) | assumption)
              have q106 : (ji4) < (l0.length : Int) := of_decide_eq_true (by first | (with_reducible assumption) | assumption)
              obtain ⟨ad106, e106, hx106_0⟩ := Kd.at_int HR0.out (ji4) p106 q106
              cases e106
              replace p106 := eq_true p106
              replace q106 := eq_true q106
              go_wp2
              go_roundg k1
              case measure => have := HK1.out; omega
              case rel => exact ⟨(wrap64 ((ji4) + 1)), (x6_1), (by first | rfl | (simp; done) | (simp only [← hji4] <;> (first | rfl | simp)) | (simp [*]; done)), (by first | rfl | (simp; done) | (simp [*]; done)), H', ⟨by have := HK1.out; omega⟩, by repeat (first | exact Drawn0.refl _ | apply Drawn0.step)⟩
            · rw [if_neg c7] at H
              have c7b0 : decide ((rd l0 (ji4)) ≤ a1) = false := decide_eq_false c7
              clear c7
              have H' := Aside0.mk H
              clear H
              have p106 : 0 ≤ ((ji4) : Int) := of_decide_eq_true (by first | (with_reducible assumption) | assumption)
              have q106 : (ji4) < (l0.length : Int) := of_decide_eq_true (by first | (with_reducible assumption) | assumption)
              obtain ⟨ad106, e106, hx106_0⟩ := Kd.at_int HR0.out (ji4) p106 q106
              cases e106
              replace p106 := eq_true p106
              replace q106 := eq_true q106
              go_wp2
              go_roundg k1
              case measure => have := HK1.out; omega
              case rel => exact ⟨(x5_1), (ji4), (by first | rfl | (simp; done) | (simp [*]; done)), (by first | rfl | (simp; done) | (simp only [← hji4] <;> (first | rfl | simp)) | (simp [*]; done)), H', ⟨by have := HK1.out; omega⟩, by repeat (first | exact Drawn0.refl _ | apply Drawn0.step)⟩
          · rw [if_neg c6] at H
            exact absurd H (by simp)
        · rw [if_neg c5] at H
          exact absurd H (by simp)
      · rw [if_neg c3] at H
        have c3b0 : decide (x5_1 < x6_1) = false := decide_eq_false c3
        clear c3
        obtain rfl := Option.some.inj H
        go_wp2
        go_ret
        exact ⟨by first | rfl | (simp; done) | (simp [*]; done), by repeat (first | exact Drawn0.refl _ | apply Drawn0.step)⟩

-- NOT PRINTED: function 22 (token_File_Position)

-- NOT PRINTED: function 10 (impl_PlacesOf)

/-! ### laws_rising: function 11 -/
def laws_rising.l0 : Nat → List Int → Int → List Int → Int → Int → Option (Bool)
  | 0, _, _, _, _, _ => none
  | k + 1, x0, x3, x6, x7, x8 => if x8 < x7 then (if 0 ≤ x8 then (if x8 < (x6.length : Int) then (if (rd x6 x8) ≤ x3 then (some false) else (if (rd x6 x8) > 2000 then (some false) else (laws_rising.l0 k x0 (rd x6 x8) x6 x7 (wrap64 (x8 + 1))))) else (none)) else (none)) else (some (decide ((x0.length : Int) ≤ 50)))
def laws_rising.f (k : Nat) (l0 : List Int) : Option (Bool) := laws_rising.l0 k l0 0 l0 (l0.length : Int) 0
theorem laws_rising.mono_l : ∀ k, (∀ y0 y1 y2 y3 y4, LeO (laws_rising.l0 k y0 y1 y2 y3 y4) (laws_rising.l0 (k + 1) y0 y1 y2 y3 y4))
  | 0 => fun _ _ _ _ _ r h => by simp [laws_rising.l0] at h
  | k + 1 => by
    have ih0 := laws_rising.mono_l k
    · intro y0 y1 y2 y3 y4
      unfold laws_rising.l0
      repeat' first
      | (with_reducible exact ih0 _ _ _ _ _)
      | (with_reducible exact LeO.refl _)
      | (with_reducible exact LeO.none _)
      | (with_reducible refine LeO.ite ?_ ?_)
      | (with_reducible refine LeO.bind ?_ (fun _ => ?_))
      | exact ih0 _ _ _ _ _
      | exact LeO.none _
      | refine LeO.ite ?_ ?_
      | refine LeO.bind ?_ (fun _ => ?_)
theorem laws_rising.mono : ∀ a0 k, LeO (laws_rising.f k a0) (laws_rising.f (k + 1) a0) := by
  intro a0 k
  have ih0 := laws_rising.mono_l k
  unfold laws_rising.f
  repeat' first
      | (with_reducible exact ih0 _ _ _ _ _)
      | (with_reducible exact LeO.refl _)
      | (with_reducible exact LeO.none _)
      | (with_reducible refine LeO.ite ?_ ?_)
      | (with_reducible refine LeO.bind ?_ (fun _ => ?_))
      | exact ih0 _ _ _ _ _
      | exact LeO.none _
      | refine LeO.ite ?_ ?_
      | refine LeO.bind ?_ (fun _ => ?_)
set_option maxHeartbeats 8000000 in
set_option maxRecDepth 100000 in
theorem laws_rising.calls (k : Nat) (A0 : Option Addr) (c0 : Nat) (l0 : List Int) (r : Bool) (w : World) (hr0 : Kd.C (Kd.int .i64) w A0 l0.length l0) (hc0 : l0.length ≤ c0) (h : laws_rising.f k l0 = some r) :
    Calls Try.prog 11 #[.slice A0 l0.length c0] w fun e w' => e = .returned (.bool r) ∧ Drawn0 w w' := by
  have HR0 := Aside0.mk hr0
  have HC0 := Aside0.mk hc0
  clear hr0 hc0
  have H : (laws_rising.l0 k l0 0 l0 (l0.length : Int) 0) = some r := h
  clear h
  have H' := Aside0.mk H
  clear H
  go_enter Try.func11, Try.ntmps11
  go_wp2
  go_loopg [3, 8] k (fun kq v3 v8 w' => ∃ (x3_1 : Int) (x8_1 : Int), v3 = .int .i64 x3_1 ∧ v8 = .int .i64 x8_1 ∧ Aside0 (laws_rising.l0 kq l0 x3_1 l0 (l0.length : Int) x8_1 = some r) ∧ Aside0 (kq ≤ k) ∧ Drawn0 w w')
  case atStart => exact ⟨(0), (0), (by first | rfl | (simp; done) | (simp [*]; done)), (by first | rfl | (simp; done) | (simp [*]; done)), H', ⟨Nat.le_refl _⟩, by repeat (first | exact Drawn0.refl _ | apply Drawn0.step)⟩
  case round =>
    clear H'
    try clear c1
    obtain ⟨x3_1, x8_1, rfl, rfl, HA, HK1, ⟨m1, rfl⟩⟩ := hrel
    cases gk with
    | zero => exact absurd HA.out (by simp [laws_rising.l0])
    | succ k1 =>
      have H := HA.out
      clear HA
      simp only [laws_rising.l0] at H
      by_cases c2 : x8_1 < (l0.length : Int)
      · rw [if_pos c2] at H
        have c2b0 : decide (x8_1 < (l0.length : Int)) = true := decide_eq_true c2
        clear c2
        by_cases c3 : 0 ≤ x8_1
        · rw [if_pos c3] at H
          have c3b0 : decide (0 ≤ x8_1) = true := decide_eq_true c3
          clear c3
          by_cases c4 : x8_1 < (l0.length : Int)
          · rw [if_pos c4] at H
            have c4b0 : decide (x8_1 < (l0.length : Int)) = true := decide_eq_true c4
            clear c4
            by_cases c5 : (rd l0 x8_1) ≤ x3_1
            · rw [if_pos c5] at H
              have c5b0 : decide ((rd l0 x8_1) ≤ x3_1) = true := decide_eq_true c5
              clear c5
              obtain rfl := Option.some.inj H
              have p110 : 0 ≤ (x8_1 : Int) := of_decide_eq_true (by first | (with_reducible assumption) | assumption)
              have q110 : x8_1 < (l0.length : Int) := of_decide_eq_true (by first | (with_reducible assumption) | assumption)
              obtain ⟨ad110, e110, hx110_0⟩ := Kd.at_int HR0.out x8_1 p110 q110
              cases e110
              replace p110 := eq_true p110
              replace q110 := eq_true q110
              go_wp2
              go_ret
              exact ⟨by first | rfl | (simp; done) | (simp [*]; done), by repeat (first | exact Drawn0.refl _ | apply Drawn0.step)⟩
            · rw [if_neg c5] at H
              have c5b0 : decide ((rd l0 x8_1) ≤ x3_1) = false := decide_eq_false c5
              clear c5
              by_cases c6 : (rd l0 x8_1) > 2000
              · rw [if_pos c6] at H
                have c6b0 : decide (2000 < (rd l0 x8_1)) = true := decide_eq_true c6
                clear c6
                obtain rfl := Option.some.inj H
                have p110 : 0 ≤ (x8_1 : Int) := of_decide_eq_true (by first | (with_reducible assumption) | assumption)
                have q110 : x8_1 < (l0.length : Int) := of_decide_eq_true (by first | (with_reducible assumption) | assumption)
                obtain ⟨ad110, e110, hx110_0⟩ := Kd.at_int HR0.out x8_1 p110 q110
                cases e110
                replace p110 := eq_true p110
                replace q110 := eq_true q110
                go_wp2
                go_ret
                exact ⟨by first | rfl | (simp; done) | (simp [*]; done), by repeat (first | exact Drawn0.refl _ | apply Drawn0.step)⟩
              · rw [if_neg c6] at H
                have c6b0 : decide (2000 < (rd l0 x8_1)) = false := decide_eq_false c6
                clear c6
                have H' := Aside0.mk H
                clear H
                have p110 : 0 ≤ (x8_1 : Int) := of_decide_eq_true (by first | (with_reducible assumption) | assumption)
                have q110 : x8_1 < (l0.length : Int) := of_decide_eq_true (by first | (with_reducible assumption) | assumption)
                obtain ⟨ad110, e110, hx110_0⟩ := Kd.at_int HR0.out x8_1 p110 q110
                cases e110
                replace p110 := eq_true p110
                replace q110 := eq_true q110
                go_wp2
                go_roundg k1
                case measure => have := HK1.out; omega
                case rel => exact ⟨(rd l0 x8_1), (wrap64 (x8_1 + 1)), (by first | rfl | (simp; done) | (simp [*]; done)), (by first | rfl | (simp; done) | (simp [*]; done)), H', ⟨by have := HK1.out; omega⟩, by repeat (first | exact Drawn0.refl _ | apply Drawn0.step)⟩
          · rw [if_neg c4] at H
            exact absurd H (by simp)
        · rw [if_neg c3] at H
          exact absurd H (by simp)
      · rw [if_neg c2] at H
        have c2b0 : decide (x8_1 < (l0.length : Int)) = false := decide_eq_false c2
        clear c2
        obtain rfl := Option.some.inj H
        go_wp2
        go_ret
        exact ⟨by first | rfl | (simp; done) | (simp [*]; done), by repeat (first | exact Drawn0.refl _ | apply Drawn0.step)⟩

/-! ### laws_placeOf: function 12 -/
def laws_placeOf.l0 : Nat → Int → Int → Int → List Int → Int → Int → Option (Int × Int)
  | 0, _, _, _, _, _, _ => none
  | k + 1, x1, x5, x6, x9, x10, x11 => if x11 < x10 then (if 0 ≤ x11 then (if x11 < (x9.length : Int) then (if (rd x9 x11) ≤ x1 then (laws_placeOf.l0 k x1 (wrap64 (x5 + 1)) (rd x9 x11) x9 x10 (wrap64 (x11 + 1))) else (laws_placeOf.l0 k x1 x5 x6 x9 x10 (wrap64 (x11 + 1)))) else (none)) else (none)) else (some (x5, wrap64 ((wrap64 (x1 - x6)) + 1)))
def laws_placeOf.f (k : Nat) (l0 : List Int) (a1 : Int) : Option (Int × Int) := laws_placeOf.l0 k a1 1 0 l0 (l0.length : Int) 0
theorem laws_placeOf.mono_l : ∀ k, (∀ y0 y1 y2 y3 y4 y5, LeO (laws_placeOf.l0 k y0 y1 y2 y3 y4 y5) (laws_placeOf.l0 (k + 1) y0 y1 y2 y3 y4 y5))
  | 0 => fun _ _ _ _ _ _ r h => by simp [laws_placeOf.l0] at h
  | k + 1 => by
    have ih0 := laws_placeOf.mono_l k
    · intro y0 y1 y2 y3 y4 y5
      unfold laws_placeOf.l0
      repeat' first
      | (with_reducible exact ih0 _ _ _ _ _ _)
      | (with_reducible exact LeO.refl _)
      | (with_reducible exact LeO.none _)
      | (with_reducible refine LeO.ite ?_ ?_)
      | (with_reducible refine LeO.bind ?_ (fun _ => ?_))
      | exact ih0 _ _ _ _ _ _
      | exact LeO.none _
      | refine LeO.ite ?_ ?_
      | refine LeO.bind ?_ (fun _ => ?_)
theorem laws_placeOf.mono : ∀ a0 a1 k, LeO (laws_placeOf.f k a0 a1) (laws_placeOf.f (k + 1) a0 a1) := by
  intro a0 a1 k
  have ih0 := laws_placeOf.mono_l k
  unfold laws_placeOf.f
  repeat' first
      | (with_reducible exact ih0 _ _ _ _ _ _)
      | (with_reducible exact LeO.refl _)
      | (with_reducible exact LeO.none _)
      | (with_reducible refine LeO.ite ?_ ?_)
      | (with_reducible refine LeO.bind ?_ (fun _ => ?_))
      | exact ih0 _ _ _ _ _ _
      | exact LeO.none _
      | refine LeO.ite ?_ ?_
      | refine LeO.bind ?_ (fun _ => ?_)
set_option maxHeartbeats 8000000 in
set_option maxRecDepth 100000 in
theorem laws_placeOf.calls (k : Nat) (A0 : Option Addr) (c0 : Nat) (l0 : List Int) (a1 : Int) (r1 : Int) (r2 : Int) (w : World) (hr0 : Kd.C (Kd.int .i64) w A0 l0.length l0) (hc0 : l0.length ≤ c0) (h : laws_placeOf.f k l0 a1 = some (r1, r2)) :
    Calls Try.prog 12 #[.slice A0 l0.length c0, .int .i64 a1] w fun e w' => e = .returned (.agg #[.int .i64 r1, .int .i64 r2]) ∧ Below w.heap.size w w' := by
  have hu23 := Try.underlying23
  have HR0 := Aside0.mk hr0
  have HC0 := Aside0.mk hc0
  clear hr0 hc0
  have HB := Aside0.mk (Below.refl w.heap.size w)
  have H : (laws_placeOf.l0 k a1 1 0 l0 (l0.length : Int) 0) = some (r1, r2) := h
  clear h
  have H' := Aside0.mk H
  clear H
  go_enter Try.func12, Try.ntmps12
  go_wp2_with (first | ((with_reducible refine gate_dst (N := 4) rfl ?_); refine box_event ?hg (N := 4) ?hd (cs := #[.int .i64 0, .int .i64 0]) (t := 23) ?hr ?_; (case hd => rfl); (case hg => rfl); (case hr => first | (go_simp; done) | (go_simp; rfl)); intro gb111 hg w3 hbox hb; have n0_ := Aside0.mk (below_step (by repeat (first | (with_reducible first | exact HB.out | apply below_alloc | apply pw_below_drewN | apply below_drew1) | exact HB.out)) hb); have n1_ := Aside0.mk (hbox); have n2_ := Aside0.mk ((by rw [hg]; exact (below_size (by repeat (first | (with_reducible first | exact HB.out | apply below_alloc | apply pw_below_drewN | apply below_drew1) | exact HB.out))) : w.heap.size ≤ gb111)); have n3_ := Aside0.mk ((by rw [hg]; exact (below_size (by repeat (first | (with_reducible first | exact HB.out | apply below_alloc | apply pw_below_drewN | apply below_drew1) | exact HB.out))) : w.heap.size ≤ gb111)); clear HB; have HB := n0_; have BK111 := n1_; have GW111 := n2_; have GE111 := n3_; clear n0_ n1_ n2_ n3_; clear hb hbox hg))
  go_loopg [5, 6, 11] k (fun kq v5 v6 v11 w' => ∃ (x5_1 : Int) (x6_1 : Int) (x11_1 : Int), v5 = .int .i64 x5_1 ∧ v6 = .int .i64 x6_1 ∧ v11 = .int .i64 x11_1 ∧ Aside0 (laws_placeOf.l0 kq a1 x5_1 x6_1 l0 (l0.length : Int) x11_1 = some (r1, r2)) ∧ Aside0 (kq ≤ k) ∧ Aside0 (w'.heap[gb111]? = some (.cells #[.int .i64 0, .int .i64 0] 23 (0, 0))) ∧ Aside0 (Below w.heap.size w w'))
  case atStart => exact ⟨(1), (0), (0), (by first | rfl | (simp; done) | (simp [*]; done)), (by first | rfl | (simp; done) | (simp [*]; done)), (by first | rfl | (simp; done) | (simp [*]; done)), H', ⟨Nat.le_refl _⟩, ⟨by (with_reducible repeat (first | refine blk_drewN ?_ _ | refine blk_drew ?_ | refine blk_alloc ?_ _)); exact BK111.out⟩, ⟨by repeat (first | (with_reducible first | exact HB.out | apply below_alloc | apply pw_below_drewN | apply below_drew1 | refine below_set ?_ GE111.out) | exact HB.out)⟩⟩
  case round =>
    clear H'
    try clear c1
    try clear p2
    obtain ⟨x5_1, x6_1, x11_1, rfl, rfl, rfl, HA, HK1, BK111, HB⟩ := hrel
    cases gk with
    | zero => exact absurd HA.out (by simp [laws_placeOf.l0])
    | succ k1 =>
      have H := HA.out
      clear HA
      simp only [laws_placeOf.l0] at H
      by_cases c4 : x11_1 < (l0.length : Int)
      · rw [if_pos c4] at H
        have c4b0 : decide (x11_1 < (l0.length : Int)) = true := decide_eq_true c4
        clear c4
        by_cases c5 : 0 ≤ x11_1
        · rw [if_pos c5] at H
          have c5b0 : decide (0 ≤ x11_1) = true := decide_eq_true c5
          clear c5
          by_cases c6 : x11_1 < (l0.length : Int)
          · rw [if_pos c6] at H
            have c6b0 : decide (x11_1 < (l0.length : Int)) = true := decide_eq_true c6
            clear c6
            by_cases c7 : (rd l0 x11_1) ≤ a1
            · rw [if_pos c7] at H
              have c7b0 : decide ((rd l0 x11_1) ≤ a1) = true := decide_eq_true c7
              clear c7
              have H' := Aside0.mk H
              clear H
              have p112 : 0 ≤ (x11_1 : Int) := of_decide_eq_true (by first | (with_reducible assumption) | assumption)
              have q112 : x11_1 < (l0.length : Int) := of_decide_eq_true (by first | (with_reducible assumption) | assumption)
              obtain ⟨ad112, e112, hx112_0⟩ := Kd.at_int HR0.out x11_1 p112 q112
              cases e112
              replace hx112_0 := (HB.out.cell (World.block_lt_of_cell? w _ hx112_0)).trans hx112_0
              replace p112 := eq_true p112
              replace q112 := eq_true q112
              go_wp2
              go_roundg k1
              case measure => have := HK1.out; omega
              case rel => exact ⟨(wrap64 (x5_1 + 1)), (rd l0 x11_1), (wrap64 (x11_1 + 1)), (by first | rfl | (simp; done) | (simp [*]; done)), (by first | rfl | (simp; done) | (simp [*]; done)), (by first | rfl | (simp; done) | (simp [*]; done)), H', ⟨by have := HK1.out; omega⟩, ⟨by (with_reducible repeat (first | refine blk_drewN ?_ _ | refine blk_drew ?_ | refine blk_alloc ?_ _)); exact BK111.out⟩, ⟨by repeat (first | (with_reducible first | exact HB.out | apply below_alloc | apply pw_below_drewN | apply below_drew1 | refine below_set ?_ GE111.out) | exact HB.out)⟩⟩
            · rw [if_neg c7] at H
              have c7b0 : decide ((rd l0 x11_1) ≤ a1) = false := decide_eq_false c7
              clear c7
              have H' := Aside0.mk H
              clear H
              have p112 : 0 ≤ (x11_1 : Int) := of_decide_eq_true (by first | (with_reducible assumption) | assumption)
              have q112 : x11_1 < (l0.length : Int) := of_decide_eq_true (by first | (with_reducible assumption) | assumption)
              obtain ⟨ad112, e112, hx112_0⟩ := Kd.at_int HR0.out x11_1 p112 q112
              cases e112
              replace hx112_0 := (HB.out.cell (World.block_lt_of_cell? w _ hx112_0)).trans hx112_0
              replace p112 := eq_true p112
              replace q112 := eq_true q112
              go_wp2
              go_roundg k1
              case measure => have := HK1.out; omega
              case rel => exact ⟨(x5_1), (x6_1), (wrap64 (x11_1 + 1)), (by first | rfl | (simp; done) | (simp [*]; done)), (by first | rfl | (simp; done) | (simp [*]; done)), (by first | rfl | (simp; done) | (simp [*]; done)), H', ⟨by have := HK1.out; omega⟩, ⟨by (with_reducible repeat (first | refine blk_drewN ?_ _ | refine blk_drew ?_ | refine blk_alloc ?_ _)); exact BK111.out⟩, ⟨by repeat (first | (with_reducible first | exact HB.out | apply below_alloc | apply pw_below_drewN | apply below_drew1 | refine below_set ?_ GE111.out) | exact HB.out)⟩⟩
          · rw [if_neg c6] at H
            exact absurd H (by simp)
        · rw [if_neg c5] at H
          exact absurd H (by simp)
      · rw [if_neg c4] at H
        have c4b0 : decide (x11_1 < (l0.length : Int)) = false := decide_eq_false c4
        clear c4
        simp only [Option.some.injEq, Prod.mk.injEq] at H
        obtain ⟨rfl, rfl⟩ := H
        have hcz8_0 : wr.cell? ⟨gb111, 0, none⟩ = some (.int .i64 0) := (blk_cell BK111.out 0).trans rfl
        have hcz8_1 : wr.cell? ⟨gb111, 1, none⟩ = some (.int .i64 0) := (blk_cell BK111.out 1).trans rfl
        have hfz8_0 := blk_frozen BK111.out 0
        have hfz8_1 := blk_frozen BK111.out 1
        go_wp2
        refine bodyPost_ret (results_cell_row rfl _ _ gb111 23 #[.int .i64 x5_1, .int .i64 (wrap64 ((wrap64 (a1 - x6_1)) + 1))] (0, 0) _ rfl (by (with_reducible repeat (first | refine blk_drewN ?_ _ | refine blk_drew ?_ | refine blk_alloc ?_ _)); refine blk_put (cs := #[.int .i64 x5_1, .int .i64 0]) ?_ 1 _ rfl; (with_reducible repeat (first | refine blk_drewN ?_ _ | refine blk_drew ?_ | refine blk_alloc ?_ _)); refine blk_put (cs := #[.int .i64 0, .int .i64 0]) ?_ 0 _ rfl; (with_reducible repeat (first | refine blk_drewN ?_ _ | refine blk_drew ?_ | refine blk_alloc ?_ _)); exact BK111.out) Try.underlying23 rfl (by kernel_rfl)) rfl ?_
        exact ⟨by first | rfl | (simp [errW_none, errW_some] <;> rfl) | (simp [*, errW_none, errW_some] <;> rfl), by repeat (first | (with_reducible first | exact HB.out | apply below_alloc | apply pw_below_drewN | apply below_drew1 | refine below_set ?_ GE111.out) | exact HB.out)⟩

-- NOT PRINTED: function 5 (laws_FnPlacesOf)

end Go.Proofs.Ytlnimjpigghbmaa.PFnPlacesOf
