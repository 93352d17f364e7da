/- Operators by their texts. -/
import Derived.Test.YtkohgndmhgcgeaaGreatDoorUn0
namespace Go.Proofs.YtkohgndmhgcgeaaGreatDoor
open Go Go.RowKit
set_option linter.unusedVariables false
set_option linter.unusedSimpArgs false

theorem idxIn_at {t : ByteArray} : ∀ (l : List ByteArray) (j : Nat) (h : j < l.length), l[j] = t → (∀ i (h : i < l.length), i < j → l[i] ≠ t) → idxIn t l = j
  | [], j, h, _, _ => absurd h (Nat.not_lt_zero _)
  | x :: l, 0, _, e, _ => if_pos e
  | x :: l, j + 1, h, e, hn => by
    have hx : x ≠ t := hn 0 (by simp) (by omega)
    have := idxIn_at l j (by simpa using h) (by simpa using e) fun i hi hij => hn (i + 1) (by simpa using hi) (by omega)
    rw [idxIn, if_neg hx, this]

theorem idxIn_lt {t : ByteArray} : ∀ (l : List ByteArray), t ∈ l → idxIn t l < l.length
  | x :: l, h => by
    rw [idxIn]
    split
    · simp
    · rename_i hx
      have := idxIn_lt l ((List.mem_cons.1 h).resolve_left fun e => hx e.symm)
      simp
      exact this


set_option maxHeartbeats 2000000 in
theorem token_1 (w : World) : Calls Tryz.prog 99 #[.int .i64 1] w fun e w' => e = .returned (.string ⟨#[42]⟩) ∧ w' = w := by
  go_enter Tryz.func99, Tryz.ntmps99
  go_wp2
  go_ret
  exact ⟨rfl, rfl⟩


set_option maxHeartbeats 2000000 in
theorem token_2 (w : World) : Calls Tryz.prog 99 #[.int .i64 2] w fun e w' => e = .returned (.string ⟨#[47]⟩) ∧ w' = w := by
  go_enter Tryz.func99, Tryz.ntmps99
  go_wp2
  go_ret
  exact ⟨rfl, rfl⟩


set_option maxHeartbeats 2000000 in
theorem token_3 (w : World) : Calls Tryz.prog 99 #[.int .i64 3] w fun e w' => e = .returned (.string ⟨#[37]⟩) ∧ w' = w := by
  go_enter Tryz.func99, Tryz.ntmps99
  go_wp2
  go_ret
  exact ⟨rfl, rfl⟩


set_option maxHeartbeats 2000000 in
theorem token_4 (w : World) : Calls Tryz.prog 99 #[.int .i64 4] w fun e w' => e = .returned (.string ⟨#[94]⟩) ∧ w' = w := by
  go_enter Tryz.func99, Tryz.ntmps99
  go_wp2
  go_ret
  exact ⟨rfl, rfl⟩


set_option maxHeartbeats 2000000 in
theorem token_5 (w : World) : Calls Tryz.prog 99 #[.int .i64 5] w fun e w' => e = .returned (.string ⟨#[43]⟩) ∧ w' = w := by
  go_enter Tryz.func99, Tryz.ntmps99
  go_wp2
  go_ret
  exact ⟨rfl, rfl⟩


set_option maxHeartbeats 2000000 in
theorem token_6 (w : World) : Calls Tryz.prog 99 #[.int .i64 6] w fun e w' => e = .returned (.string ⟨#[45]⟩) ∧ w' = w := by
  go_enter Tryz.func99, Tryz.ntmps99
  go_wp2
  go_ret
  exact ⟨rfl, rfl⟩


set_option maxHeartbeats 2000000 in
theorem token_7 (w : World) : Calls Tryz.prog 99 #[.int .i64 7] w fun e w' => e = .returned (.string ⟨#[60, 61]⟩) ∧ w' = w := by
  go_enter Tryz.func99, Tryz.ntmps99
  go_wp2
  go_ret
  exact ⟨rfl, rfl⟩


set_option maxHeartbeats 2000000 in
theorem token_8 (w : World) : Calls Tryz.prog 99 #[.int .i64 8] w fun e w' => e = .returned (.string ⟨#[60]⟩) ∧ w' = w := by
  go_enter Tryz.func99, Tryz.ntmps99
  go_wp2
  go_ret
  exact ⟨rfl, rfl⟩


set_option maxHeartbeats 2000000 in
theorem token_9 (w : World) : Calls Tryz.prog 99 #[.int .i64 9] w fun e w' => e = .returned (.string ⟨#[62, 61]⟩) ∧ w' = w := by
  go_enter Tryz.func99, Tryz.ntmps99
  go_wp2
  go_ret
  exact ⟨rfl, rfl⟩


set_option maxHeartbeats 2000000 in
theorem token_10 (w : World) : Calls Tryz.prog 99 #[.int .i64 10] w fun e w' => e = .returned (.string ⟨#[62]⟩) ∧ w' = w := by
  go_enter Tryz.func99, Tryz.ntmps99
  go_wp2
  go_ret
  exact ⟨rfl, rfl⟩


set_option maxHeartbeats 2000000 in
theorem token_11 (w : World) : Calls Tryz.prog 99 #[.int .i64 11] w fun e w' => e = .returned (.string ⟨#[115, 116, 97, 114, 116, 115, 119, 105, 116, 104]⟩) ∧ w' = w := by
  go_enter Tryz.func99, Tryz.ntmps99
  go_wp2
  go_ret
  exact ⟨rfl, rfl⟩


set_option maxHeartbeats 2000000 in
theorem token_12 (w : World) : Calls Tryz.prog 99 #[.int .i64 12] w fun e w' => e = .returned (.string ⟨#[105, 110]⟩) ∧ w' = w := by
  go_enter Tryz.func99, Tryz.ntmps99
  go_wp2
  go_ret
  exact ⟨rfl, rfl⟩


set_option maxHeartbeats 2000000 in
theorem token_13 (w : World) : Calls Tryz.prog 99 #[.int .i64 13] w fun e w' => e = .returned (.string ⟨#[110, 111, 116]⟩) ∧ w' = w := by
  go_enter Tryz.func99, Tryz.ntmps99
  go_wp2
  go_ret
  exact ⟨rfl, rfl⟩


set_option maxHeartbeats 2000000 in
theorem token_14 (w : World) : Calls Tryz.prog 99 #[.int .i64 14] w fun e w' => e = .returned (.string ⟨#[101, 120, 105, 115, 116, 115]⟩) ∧ w' = w := by
  go_enter Tryz.func99, Tryz.ntmps99
  go_wp2
  go_ret
  exact ⟨rfl, rfl⟩


set_option maxHeartbeats 2000000 in
theorem token_15 (w : World) : Calls Tryz.prog 99 #[.int .i64 15] w fun e w' => e = .returned (.string ⟨#[110, 111, 116, 32, 101, 109, 112, 116, 121]⟩) ∧ w' = w := by
  go_enter Tryz.func99, Tryz.ntmps99
  go_wp2
  go_ret
  exact ⟨rfl, rfl⟩


set_option maxHeartbeats 2000000 in
theorem token_16 (w : World) : Calls Tryz.prog 99 #[.int .i64 16] w fun e w' => e = .returned (.string ⟨#[101, 109, 112, 116, 121]⟩) ∧ w' = w := by
  go_enter Tryz.func99, Tryz.ntmps99
  go_wp2
  go_ret
  exact ⟨rfl, rfl⟩


set_option maxHeartbeats 2000000 in
theorem token_17 (w : World) : Calls Tryz.prog 99 #[.int .i64 17] w fun e w' => e = .returned (.string ⟨#[61, 61]⟩) ∧ w' = w := by
  go_enter Tryz.func99, Tryz.ntmps99
  go_wp2
  go_ret
  exact ⟨rfl, rfl⟩


set_option maxHeartbeats 2000000 in
theorem token_18 (w : World) : Calls Tryz.prog 99 #[.int .i64 18] w fun e w' => e = .returned (.string ⟨#[33, 61]⟩) ∧ w' = w := by
  go_enter Tryz.func99, Tryz.ntmps99
  go_wp2
  go_ret
  exact ⟨rfl, rfl⟩


set_option maxHeartbeats 2000000 in
theorem token_19 (w : World) : Calls Tryz.prog 99 #[.int .i64 19] w fun e w' => e = .returned (.string ⟨#[61, 126]⟩) ∧ w' = w := by
  go_enter Tryz.func99, Tryz.ntmps99
  go_wp2
  go_ret
  exact ⟨rfl, rfl⟩


set_option maxHeartbeats 2000000 in
theorem token_20 (w : World) : Calls Tryz.prog 99 #[.int .i64 20] w fun e w' => e = .returned (.string ⟨#[33, 126]⟩) ∧ w' = w := by
  go_enter Tryz.func99, Tryz.ntmps99
  go_wp2
  go_ret
  exact ⟨rfl, rfl⟩


theorem token_any (j : Nat) (h : j < operatorTexts.length) (w : World) : Calls Tryz.prog 99 #[.int .i64 (((j + 1 : Nat)) : Int)] w fun e w' => e = .returned (.string operatorTexts[j]) ∧ w' = w := by
  have h20 : j < 20 := h
  have hc : j = 0 ∨ j = 1 ∨ j = 2 ∨ j = 3 ∨ j = 4 ∨ j = 5 ∨ j = 6 ∨ j = 7 ∨ j = 8 ∨ j = 9 ∨ j = 10 ∨ j = 11 ∨ j = 12 ∨ j = 13 ∨ j = 14 ∨ j = 15 ∨ j = 16 ∨ j = 17 ∨ j = 18 ∨ j = 19 := by omega
  rcases hc with rfl | rfl | rfl | rfl | rfl | rfl | rfl | rfl | rfl | rfl | rfl | rfl | rfl | rfl | rfl | rfl | rfl | rfl | rfl | rfl
  · exact token_1 w
  · exact token_2 w
  · exact token_3 w
  · exact token_4 w
  · exact token_5 w
  · exact token_6 w
  · exact token_7 w
  · exact token_8 w
  · exact token_9 w
  · exact token_10 w
  · exact token_11 w
  · exact token_12 w
  · exact token_13 w
  · exact token_14 w
  · exact token_15 w
  · exact token_16 w
  · exact token_17 w
  · exact token_18 w
  · exact token_19 w
  · exact token_20 w

set_option maxHeartbeats 2000000 in
theorem operatorOf_any (t : ByteArray) (ht : t ∈ operatorTexts) (w : World) : Calls Tryz.prog 89 #[.string t] w fun e w' => e = .returned (.int .i64 (opOf t)) ∧ w' = w := by
  have HT : Hid (∀ (j : Nat) (h : j < operatorTexts.length) W, Calls Tryz.prog 99 #[.int .i64 (((j + 1 : Nat)) : Int)] W fun e w' => e = .returned (.string operatorTexts[j]) ∧ w' = W) := Lib.hid token_any
  have H20 : Hid (operatorTexts.length = 20) := Lib.hid rfl
  have HI : Hid (∀ j (h : j < operatorTexts.length), operatorTexts[j] = t → (∀ i (h : i < operatorTexts.length), i < j → operatorTexts[i] ≠ t) → opOf t = ((j + 1 : Nat) : Int)) := Lib.hid fun j h h1 h2 => by
    unfold opOf
    rw [idxIn_at _ j h h1 h2]
    rfl
  have HM : Hid (∃ i, ∃ h : i < operatorTexts.length, operatorTexts[i] = t) := Lib.hid (List.mem_iff_getElem.1 ht)
  clear ht
  go_enter Tryz.func89, Tryz.ntmps89
  go_wp2
  go_loopw [3] (fun op wr => ∃ j : Nat, j ≤ 20 ∧ op = .int .i64 ((j + 1 : Nat) : Int) ∧ Hid (∀ i (h : i < operatorTexts.length), i < j → operatorTexts[i] ≠ t) ∧ wr = w) (fun op _ => 21 - (intOf op).toNat)
  case atStart => exact ⟨0, Nat.zero_le _, rfl, Lib.hid (fun i _ h => absurd h (Nat.not_lt_zero _)), rfl⟩
  case round =>
    obtain ⟨j, hj, rfl, HN, rfl⟩ := hrel
    have hlt : j < 20 := by
      obtain ⟨i, hi, e⟩ := HM.out
      have := H20.out
      rcases Nat.lt_or_ge j 20 with h | h
      · exact h
      · exact absurd e (HN.out i hi (by omega))
    have HTJ := Lib.hid (show Calls Tryz.prog 99 #[.int .i64 ((j : Int) + 1)] wr fun e w' => e = .returned (.string (operatorTexts[j]'(by rw [H20.out]; exact hlt))) ∧ w' = wr from HT.out j (by rw [H20.out]; exact hlt) wr)
    have HIJ := Lib.hid (HI.out j (by rw [H20.out]; exact hlt))
    have HNX : Hid (operatorTexts[j]'(by rw [H20.out]; exact hlt) ≠ t → ∀ i (h : i < operatorTexts.length), i < j + 1 → operatorTexts[i] ≠ t) := Lib.hid fun hne i hi hij => by
      by_cases e : i = j
      · subst e; exact hne
      · exact HN.out i hi (by omega)
    generalize operatorTexts[j]'(by rw [H20.out]; exact hlt) = x at *
    have hc : (j : Int) + 1 < 21 := by omega
    by_cases hx : x = t
    · subst hx
      have HE := Lib.hid (HIJ.out rfl HN.out)
      go_wp2_with fail
      ((with_reducible refine HTJ.out.mono ?_))
      rintro e w1 ⟨rfl, rfl⟩
      go_wp2
      go_ret
      exact ⟨by rw [HE.out]; rfl, rfl⟩
    · have hxb := text_ne hx
      go_wp2_with fail
      ((with_reducible refine HTJ.out.mono ?_))
      rintro e w1 ⟨rfl, rfl⟩
      go_wp2
      go_roundw
      case rel => exact ⟨j + 1, by omega, by go_num, Lib.hid (HNX.out hx), trivial⟩
      case measure => simp [intOf]; omega

theorem opOf_pos {t : ByteArray} (ht : t ∈ operatorTexts) : 1 ≤ opOf t ∧ opOf t ≤ 20 := by
  have h := idxIn_lt operatorTexts ht
  have h2 : operatorTexts.length = 20 := rfl
  unfold opOf
  omega

set_option maxHeartbeats 2000000 in
theorem lookup_any (t : ByteArray) (ht : t ∈ operatorTexts) (w : World) : Calls Tryz.prog 68 #[.string t] w fun e w' => e = .returned (.int .i64 (opOf t)) ∧ w' = w := by
  have HT := Lib.hid (operatorOf_any t ht w)
  clear ht
  go_enter Tryz.func68, Tryz.ntmps68
  go_wp2_with fail
  ((with_reducible refine HT.out.mono ?_))
  rintro e w1 ⟨rfl, rfl⟩
  go_wp2
  go_ret
  exact ⟨rfl, rfl⟩

set_option maxHeartbeats 2000000 in
theorem operator_any (t : ByteArray) (ht : t ∈ operatorTexts) (w : World) : Calls Tryz.prog 50 #[.string t] w fun e w' => e = .returned (.int .i64 (opOf t)) ∧ Below w.heap.size w w' := by
  have HT := Lib.hid (lookup_any t ht w)
  have h1 := opOf_pos ht
  have hne : (opOf t == 0) = false := beq_eq_false_iff_ne.2 (by omega)
  generalize opOf t = o at *
  clear ht
  go_enter Tryz.func50, Tryz.ntmps50
  go_wp2_with fail
  ((with_reducible refine HT.out.mono ?_))
  rintro e w1 ⟨rfl, rfl⟩
  go_wp2
  go_ret
  exact ⟨rfl, Below.refl _ _⟩

theorem unary_op {t : ByteArray} (h : t ∈ unaryTexts) : t ∈ operatorTexts := by
  simp only [unaryTexts, List.mem_cons, List.mem_nil_iff, or_false] at h
  rcases h with rfl | rfl | rfl | rfl <;> simp [operatorTexts]


set_option maxHeartbeats 2000000 in
theorem ltoken_1 (w : World) : Calls Tryz.prog 100 #[.int .i64 1] w fun e w' => e = .returned (.string ⟨#[97, 110, 100]⟩) ∧ w' = w := by
  go_enter Tryz.func100, Tryz.ntmps100
  go_wp2
  go_ret
  exact ⟨rfl, rfl⟩


set_option maxHeartbeats 2000000 in
theorem ltoken_2 (w : World) : Calls Tryz.prog 100 #[.int .i64 2] w fun e w' => e = .returned (.string ⟨#[111, 114]⟩) ∧ w' = w := by
  go_enter Tryz.func100, Tryz.ntmps100
  go_wp2
  go_ret
  exact ⟨rfl, rfl⟩


set_option maxHeartbeats 2000000 in
theorem logicalOf_1 (w : World) : Calls Tryz.prog 90 #[.string ⟨#[97, 110, 100]⟩] w fun e w' => e = .returned (.int .i64 1) ∧ w' = w := by
  go_enter Tryz.func90, Tryz.ntmps90
  go_wp2
  go_loopw [3] (fun op wr => (op = .int .i64 1) ∧ wr = w) (fun op _ => 3 - (intOf op).toNat)
  case atStart => exact ⟨rfl, rfl⟩
  case round =>
    obtain ⟨rfl, rfl⟩ := hrel
    · go_wp2_with fail
      ((with_reducible refine (ltoken_1 _).mono ?_))
      rintro e w1 ⟨rfl, rfl⟩
      go_wp2
      go_ret
      exact ⟨rfl, rfl⟩

set_option maxHeartbeats 2000000 in
theorem llookup_1 (w : World) : Calls Tryz.prog 69 #[.string ⟨#[97, 110, 100]⟩] w fun e w' => e = .returned (.int .i64 1) ∧ w' = w := by
  go_enter Tryz.func69, Tryz.ntmps69
  go_wp2_with fail
  ((with_reducible refine (logicalOf_1 _).mono ?_))
  rintro e w1 ⟨rfl, rfl⟩
  go_wp2
  go_ret
  exact ⟨rfl, rfl⟩

set_option maxHeartbeats 2000000 in
theorem logical_1 (w : World) : Calls Tryz.prog 51 #[.string ⟨#[97, 110, 100]⟩] w fun e w' => e = .returned (.int .i64 1) ∧ Below w.heap.size w w' := by
  go_enter Tryz.func51, Tryz.ntmps51
  go_wp2_with fail
  ((with_reducible refine (llookup_1 _).mono ?_))
  rintro e w1 ⟨rfl, rfl⟩
  go_wp2
  go_ret
  exact ⟨rfl, Below.refl _ _⟩


set_option maxHeartbeats 2000000 in
theorem logicalOf_2 (w : World) : Calls Tryz.prog 90 #[.string ⟨#[111, 114]⟩] w fun e w' => e = .returned (.int .i64 2) ∧ w' = w := by
  go_enter Tryz.func90, Tryz.ntmps90
  go_wp2
  go_loopw [3] (fun op wr => (op = .int .i64 1 ∨ op = .int .i64 2) ∧ wr = w) (fun op _ => 3 - (intOf op).toNat)
  case atStart => exact ⟨.inl rfl, rfl⟩
  case round =>
    obtain ⟨hop, rfl⟩ := hrel
    rcases hop with rfl | rfl
    · go_wp2_with fail
      ((with_reducible refine (ltoken_1 _).mono ?_))
      rintro e w1 ⟨rfl, rfl⟩
      go_wp2
      go_roundw
      case rel => exact ⟨.inr rfl, trivial⟩
      case measure => simp [intOf]
    · go_wp2_with fail
      ((with_reducible refine (ltoken_2 _).mono ?_))
      rintro e w1 ⟨rfl, rfl⟩
      go_wp2
      go_ret
      exact ⟨rfl, rfl⟩

set_option maxHeartbeats 2000000 in
theorem llookup_2 (w : World) : Calls Tryz.prog 69 #[.string ⟨#[111, 114]⟩] w fun e w' => e = .returned (.int .i64 2) ∧ w' = w := by
  go_enter Tryz.func69, Tryz.ntmps69
  go_wp2_with fail
  ((with_reducible refine (logicalOf_2 _).mono ?_))
  rintro e w1 ⟨rfl, rfl⟩
  go_wp2
  go_ret
  exact ⟨rfl, rfl⟩

set_option maxHeartbeats 2000000 in
theorem logical_2 (w : World) : Calls Tryz.prog 51 #[.string ⟨#[111, 114]⟩] w fun e w' => e = .returned (.int .i64 2) ∧ Below w.heap.size w w' := by
  go_enter Tryz.func51, Tryz.ntmps51
  go_wp2_with fail
  ((with_reducible refine (llookup_2 _).mono ?_))
  rintro e w1 ⟨rfl, rfl⟩
  go_wp2
  go_ret
  exact ⟨rfl, Below.refl _ _⟩


theorem logical_any (t : ByteArray) (ht : t = ⟨#[97, 110, 100]⟩ ∨ t = ⟨#[111, 114]⟩) (w : World) : Calls Tryz.prog 51 #[.string t] w fun e w' => e = .returned (.int .i64 (logOf t)) ∧ Below w.heap.size w w' := by
  rcases ht with rfl | rfl
  · exact logical_1 w
  · exact logical_2 w

end Go.Proofs.YtkohgndmhgcgeaaGreatDoor
