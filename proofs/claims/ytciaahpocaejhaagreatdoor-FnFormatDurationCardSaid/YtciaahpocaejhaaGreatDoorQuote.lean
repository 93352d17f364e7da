/- FnParseText: the plain law: what is written into a text, and that it is read back step by step. -/
import Derived.Test.YtciaahpocaejhaaGreatDoorRows
import Derived.Lib.ValidLaws
import Derived.Lib.MapLaws
namespace Go.Proofs.YtciaahpocaejhaaGreatDoor
open Go Go.Lib

/-- A hexadecimal digit. -/
def hexB (n : Nat) : UInt8 := if n < 10 then UInt8.ofNat (48 + n) else UInt8.ofNat (87 + n)

/-- What is written of one byte. -/
def qb (every : Bool) (c : UInt8) : List UInt8 :=
  if c = 34 ∨ c = 92 then [92, c] else if c = 10 then [92, 110] else if c = 13 then [92, 114] else if c = 9 then [92, 116]
  else if (c.toNat < 128 ∧ every = true) ∨ c = 36 then [92, 120, hexB (c.toNat / 16), hexB (c.toNat % 16)] else [c]
def qL (every : Bool) (l : List UInt8) : List UInt8 := l.flatMap (qb every)

theorem qL_nil (e : Bool) : qL e [] = [] := rfl
theorem qL_cons (e : Bool) (c : UInt8) (l : List UInt8) : qL e (c :: l) = qb e c ++ qL e l := by simp [qL]
theorem qL_append (e : Bool) (a b : List UInt8) : qL e (a ++ b) = qL e a ++ qL e b := by simp [qL]
theorem qb_ne (e : Bool) (c : UInt8) : 1 ≤ (qb e c).length := by
  unfold qb; repeat' split
  all_goals simp
theorem qb_le (e : Bool) (c : UInt8) : (qb e c).length ≤ 4 := by
  unfold qb; repeat' split
  all_goals simp
theorem qL_le (e : Bool) : ∀ l, (qL e l).length ≤ 4 * l.length
  | [] => by simp [qL]
  | c :: l => by
    have h1 := qb_le e c
    have h2 := qL_le e l
    rw [qL_cons]; simp; omega

/-- A byte from 128 on is written as it is. -/
theorem qb_high (e : Bool) (c : UInt8) (h : 128 ≤ c.toNat) : qb e c = [c] := by
  have n1 : c ≠ 34 := by rintro rfl; revert h; decide
  have n2 : c ≠ 92 := by rintro rfl; revert h; decide
  have n3 : c ≠ 10 := by rintro rfl; revert h; decide
  have n4 : c ≠ 13 := by rintro rfl; revert h; decide
  have n5 : c ≠ 9 := by rintro rfl; revert h; decide
  have n6 : c ≠ 36 := by rintro rfl; revert h; decide
  simp [qb, n1, n2, n3, n4, n5, n6]
  omega
theorem qL_high (e : Bool) : ∀ l : List UInt8, (∀ c ∈ l, 128 ≤ c.toNat) → qL e l = l
  | [], _ => rfl
  | c :: l, h => by
    rw [qL_cons, qb_high e c (h c (by simp)), qL_high e l (fun x hx => h x (by simp [hx]))]
    rfl

theorem getD_cons0 (a : UInt8) (l : List UInt8) : (a :: l).getD 0 0 = a := rfl

/-- Bytes of a valid rune of two bytes or more: all are from 128 on; whatever stands behind them, the same rune is decoded. -/
theorem decode_front (l : List UInt8) (hne : l ≠ []) (hv : ¬ ((decodeL l).1 = 65533 ∧ (decodeL l).2 = 1)) (h0 : 128 ≤ (l.getD 0 0).toNat) :
    (∀ c ∈ l.take (decodeL l).2, 128 ≤ c.toNat) ∧ 128 ≤ (decodeL l).1 ∧ ∀ t : List UInt8, decodeL (l.take (decodeL l).2 ++ t) = decodeL l := by
  have hl : 0 < l.length := List.length_pos_iff.2 hne
  simp only [decodeL_N l] at hv ⊢
  have k0 := (l.getD 0 0).toNat_lt
  have k1 := (l.getD 1 0).toNat_lt
  have k2 := (l.getD 2 0).toNat_lt
  have k3 := (l.getD 3 0).toNat_lt
  rcases decodeN_shape l.length (l.getD 0 0).toNat (l.getD 1 0).toNat (l.getD 2 0).toNat (l.getD 3 0).toNat with ⟨c, e⟩ | ⟨c1, c2, c3, cv, e⟩ | ⟨c1, c2, c3, c4, cv, cs, e⟩ | ⟨c1, c2, c3, c4, c5, cv, cw, e⟩ | e
  · omega
  · rw [e]
    refine ⟨?_, cv, fun t => ?_⟩
    · dsimp only
      rw [takeB l c2]
      intro x hx
      simp only [List.mem_cons, List.not_mem_nil, or_false] at hx
      rcases hx with rfl | rfl <;> omega
    · dsimp only
      rw [takeB l c2, decodeL_N]
      have d0 : ([l.getD 0 0, l.getD 1 0] ++ t).getD 0 0 = l.getD 0 0 := rfl
      have d1 : ([l.getD 0 0, l.getD 1 0] ++ t).getD 1 0 = l.getD 1 0 := rfl
      rw [d0, d1]
      unfold decodeN
      rw [if_neg (by omega), if_pos ⟨c1, by simp, c3⟩, if_pos cv]
  · rw [e]
    refine ⟨?_, by dsimp only; omega, fun t => ?_⟩
    · dsimp only
      rw [takeC l c2]
      intro x hx
      simp only [List.mem_cons, List.not_mem_nil, or_false] at hx
      rcases hx with rfl | rfl | rfl <;> omega
    · dsimp only
      rw [takeC l c2, decodeL_N]
      have d0 : ([l.getD 0 0, l.getD 1 0, l.getD 2 0] ++ t).getD 0 0 = l.getD 0 0 := rfl
      have d1 : ([l.getD 0 0, l.getD 1 0, l.getD 2 0] ++ t).getD 1 0 = l.getD 1 0 := rfl
      have d2 : ([l.getD 0 0, l.getD 1 0, l.getD 2 0] ++ t).getD 2 0 = l.getD 2 0 := rfl
      have dl : 3 ≤ ([l.getD 0 0, l.getD 1 0, l.getD 2 0] ++ t).length := by simp
      rw [d0, d1, d2]
      unfold decodeN
      rw [if_neg (by omega), if_neg (by omega), if_pos (by omega), if_pos (by omega)]
  · rw [e]
    refine ⟨?_, by dsimp only; omega, fun t => ?_⟩
    · dsimp only
      rw [takeD l c2]
      intro x hx
      simp only [List.mem_cons, List.not_mem_nil, or_false] at hx
      rcases hx with rfl | rfl | rfl | rfl <;> omega
    · dsimp only
      rw [takeD l c2, decodeL_N]
      have d0 : ([l.getD 0 0, l.getD 1 0, l.getD 2 0, l.getD 3 0] ++ t).getD 0 0 = l.getD 0 0 := rfl
      have d1 : ([l.getD 0 0, l.getD 1 0, l.getD 2 0, l.getD 3 0] ++ t).getD 1 0 = l.getD 1 0 := rfl
      have d2 : ([l.getD 0 0, l.getD 1 0, l.getD 2 0, l.getD 3 0] ++ t).getD 2 0 = l.getD 2 0 := rfl
      have d3 : ([l.getD 0 0, l.getD 1 0, l.getD 2 0, l.getD 3 0] ++ t).getD 3 0 = l.getD 3 0 := rfl
      have dl : 4 ≤ ([l.getD 0 0, l.getD 1 0, l.getD 2 0, l.getD 3 0] ++ t).length := by simp
      rw [d0, d1, d2, d3]
      unfold decodeN
      rw [if_neg (by omega), if_neg (by omega), if_neg (by omega), if_pos (by omega), if_pos (by omega)]
  · rw [e] at hv
    exact absurd ⟨rfl, rfl⟩ hv

/-- The four ways in which a step reads: the text ahead, what is written, how many bytes it takes. -/
inductive Step : List UInt8 → List UInt8 → Nat → Prop
  | plain (l : List UInt8) (hne : l ≠ []) (hv : ¬ ((decodeL l).1 = 65533 ∧ (decodeL l).2 = 1)) (hr : (decodeL l).1 ≠ 92) : Step l (l.take (decodeL l).2) (decodeL l).2
  | esc (c d : UInt8) (t : List UInt8) (h : (c = 110 ∧ d = 10) ∨ (c = 114 ∧ d = 13) ∨ (c = 116 ∧ d = 9) ∨ (c = 92 ∧ d = 92) ∨ (c = 34 ∧ d = 34)) : Step (92 :: c :: t) [d] 2
  | hex (a b : Nat) (t : List UInt8) (ha : a < 16) (hb : b < 16) : Step (92 :: 120 :: hexB a :: hexB b :: t) [UInt8.ofNat (a * 16 + b)] 4

/-- One step of what is read, over a text that was written. -/
theorem step_of (e : Bool) (r : List UInt8) (hne : r ≠ []) (hv : validD r = true) :
    ∃ n, 0 < n ∧ n ≤ r.length ∧ Step (qL e r) (r.take n) (qL e (r.take n)).length ∧ validD (r.drop n) = true := by
  obtain ⟨c, t, rfl⟩ := List.exists_cons_of_ne_nil hne
  by_cases hc : c.toNat < 128
  · refine ⟨1, by decide, by simp, ?_, by rw [← hv, validD_cons c t hc]; rfl⟩
    rw [show (c :: t).take 1 = [c] by simp, qL_cons, qL_cons, qL_nil, List.append_nil]
    unfold qb
    split
    · rename_i h
      rcases h with rfl | rfl
      · exact Step.esc 34 34 _ (by decide)
      · exact Step.esc 92 92 _ (by decide)
    split
    · subst c; exact Step.esc 110 10 _ (by decide)
    split
    · subst c; exact Step.esc 114 13 _ (by decide)
    split
    · subst c; exact Step.esc 116 9 _ (by decide)
    split
    · have h := Step.hex (c.toNat / 16) (c.toNat % 16) (qL e t) (by omega) (by omega)
      have hb : UInt8.ofNat (c.toNat / 16 * 16 + c.toNat % 16) = c := by
        rw [show c.toNat / 16 * 16 + c.toNat % 16 = c.toNat by omega]; simp
      rw [hb] at h
      exact h
    · rename_i h92 _ _ _ _
      have hd := decodeL_ascii c (qL e t) hc
      have h := Step.plain ([c] ++ qL e t) (by simp) (by rw [show [c] ++ qL e t = c :: qL e t from rfl, hd]; dsimp only; omega) (by
        rw [show [c] ++ qL e t = c :: qL e t from rfl, hd]
        intro hh
        apply h92
        right
        apply UInt8.toNat_inj.1
        exact hh)
      rw [show [c] ++ qL e t = c :: qL e t from rfl, hd] at h
      simpa using h
  · have hs := validD_step (c :: t) hne
    rw [hv] at hs
    have hvl : ¬ ((decodeL (c :: t)).1 = 65533 ∧ (decodeL (c :: t)).2 = 1) := by
      intro h; rw [if_pos h] at hs; cases hs
    rw [if_neg hvl] at hs
    obtain ⟨hh, hr, hf⟩ := decode_front (c :: t) hne hvl (by show 128 ≤ c.toNat; omega)
    have hle := decodeL_le (c :: t) hne
    have hw := decodeL_width (c :: t)
    refine ⟨(decodeL (c :: t)).2, hw, hle, ?_, hs.symm⟩
    have hq : qL e (c :: t) = (c :: t).take (decodeL (c :: t)).2 ++ qL e ((c :: t).drop (decodeL (c :: t)).2) := by
      conv => lhs; rw [← List.take_append_drop (decodeL (c :: t)).2 (c :: t), qL_append]
      rw [qL_high e _ hh]
    rw [qL_high e _ hh]
    have hd := hf (qL e ((c :: t).drop (decodeL (c :: t)).2))
    rw [← hq] at hd
    have h := Step.plain (qL e (c :: t)) (by rw [hq]; intro hx; have := congrArg List.length hx; simp only [List.length_append, List.length_take, List.length_nil] at this; omega) (by rw [hd]; exact hvl) (by rw [hd]; omega)
    rw [hd] at h
    have hlen : ((c :: t).take (decodeL (c :: t)).2).length = (decodeL (c :: t)).2 := by rw [List.length_take]; omega
    have htk : (qL e (c :: t)).take (decodeL (c :: t)).2 = (c :: t).take (decodeL (c :: t)).2 := by
      rw [hq, List.take_append_of_le_length (by omega), List.take_of_length_le (by omega)]
    rw [htk] at h
    rw [hlen]
    exact h

end Go.Proofs.YtciaahpocaejhaaGreatDoor
