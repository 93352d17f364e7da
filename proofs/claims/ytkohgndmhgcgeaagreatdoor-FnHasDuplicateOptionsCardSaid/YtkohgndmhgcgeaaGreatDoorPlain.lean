/- spec.Name, hasText, OperatorNumber, plainFields: that they answer, and what a yes says. spec.Name: that it answers, and that the empty text is none. -/
import Derived.Test.YtkohgndmhgcgeaaGreatDoorBase
import Derived.Test.YtkohgndmhgcgeaaGreatDoorMapLit
import Derived.Test.YtkohgndmhgcgeaaGreatDoorShelf
import Derived.Test.YtkohgndmhgcgeaaGreatDoorUtfTabs
import Derived.Deep.RegionHeld3
import Derived.Deep.QuietTactic
import Derived.BigQuiet
namespace Go.Proofs.YtkohgndmhgcgeaaGreatDoor
open Go Go.RowKit
set_option linter.unusedVariables false
set_option linter.unusedSimpArgs false

set_option maxHeartbeats 1000000 in
theorem hasText_any (l : List ByteArray) (g : Nat) (s : ByteArray) (w : World) (h : w.heap[g]? = some (.cells (l.map Value.string).toArray 9 (0, 0))) (hl : l.length ≤ 1000) :
    Calls Tryz.prog 78 #[.slice (some ⟨g, 0, none⟩) l.length l.length, .string s] w (HasB (s ∈ l) w) := by
  have hc : ∀ k, (hk : k < l.length) → w.cell? ⟨g, k, none⟩ = some (.string l[k]) := fun k hk => by
    rw [Lib.cell_of_heap h]
    simp [hk]
  have HC := Lib.hid hc
  clear hc h
  go_enter Tryz.func78, Tryz.ntmps78
  go_wp2
  go_loop [9] (fun i => ∃ k : Nat, k ≤ l.length ∧ i = .int .i64 k) (fun i => l.length - (intOf i).toNat)
  case atStart => exact ⟨0, Nat.zero_le _, rfl⟩
  case round =>
    obtain ⟨k, hk, rfl⟩ := hrel
    by_cases hlt : k < l.length
    · have c0 := HC.out k hlt
      have hmem : l[k] ∈ l := List.getElem_mem hlt
      generalize l[k] = x at c0 hmem
      have HM := Lib.hid hmem
      clear hmem
      by_cases hx : x = s
      · subst hx
        go_wp2
        go_ret
        exact ⟨true, rfl, fun _ => HM.out, rfl⟩
      · have hb := text_ne hx
        go_wp2
        go_round
        case rel => exact ⟨k + 1, by omega, by go_num⟩
        case measure => simp [intOf]; omega
    · go_wp2
      go_ret
      exact ⟨false, rfl, (fun h => by cases h), rfl⟩

/-- A list of texts in a new block. -/
def TextsAt (l : List ByteArray) (w : World) (e : Ending) (w' : World) : Prop :=
  e = .returned (.slice (some ⟨w.heap.size, 0, none⟩) l.length l.length) ∧ w' = w.alloc (.cells (l.map Value.string).toArray 9)

set_option maxHeartbeats 1000000 in
theorem plainUnits_any (w : World) : Calls Tryz.prog 80 #[] w (TextsAt unitTexts w) := by
  go_enter Tryz.func80, Tryz.ntmps80
  go_wp2
  go_ret
  exact ⟨rfl, rfl⟩

set_option maxHeartbeats 1000000 in
theorem unaryOperators_any (w : World) : Calls Tryz.prog 79 #[] w (TextsAt unaryTexts w) := by
  go_enter Tryz.func79, Tryz.ntmps79
  go_wp2
  go_ret
  exact ⟨rfl, rfl⟩

set_option maxHeartbeats 1000000 in
theorem operators_any (w : World) : Calls Tryz.prog 95 #[] w (TextsAt operatorTexts w) := by
  go_enter Tryz.func95, Tryz.ntmps95
  go_wp2
  go_ret
  exact ⟨rfl, rfl⟩

def OpNumPost (s : ByteArray) (w : World) (e : Ending) (w' : World) : Prop := ∃ n : Nat, e = .returned (.int .i64 n) ∧ n ≤ 20 ∧ (0 < n → operatorTexts[n - 1]? = some s) ∧ Below w.heap.size w w'

set_option maxHeartbeats 1000000 in
theorem operatorNumber_any (s : ByteArray) (w : World) : Calls Tryz.prog 77 #[.string s] w (OpNumPost s w) := by
  have hO := operators_any w
  have hlen : operatorTexts.length = 20 := rfl
  unfold TextsAt at hO
  generalize hl : operatorTexts = l at *
  have HP : Hid (∀ e w', (∃ n : Nat, e = .returned (.int .i64 n) ∧ n ≤ 20 ∧ (0 < n → l[n - 1]? = some s) ∧ Below w.heap.size w w') → OpNumPost s w e w') := Lib.hid (by subst hl; exact fun _ _ h => h)
  clear hl
  have HO := Lib.hid hO
  clear hO
  go_enter Tryz.func77, Tryz.ntmps77
  go_wp2_with fail
  ((with_reducible refine HO.out.mono ?_))
  rintro e w1 ⟨rfl, rfl⟩
  have hrow : (w.alloc (.cells (l.map Value.string).toArray 9)).heap[w.heap.size]? = some (.cells (l.map Value.string).toArray 9 (0, 0)) := heap_alloc_new w _
  have hB : Below w.heap.size w (w.alloc (.cells (l.map Value.string).toArray 9)) := (Below.refl _ w).alloc (Nat.le_refl _) _
  have hc : ∀ k, (hk : k < l.length) → (w.alloc (.cells (l.map Value.string).toArray 9)).cell? ⟨w.heap.size, k, none⟩ = some (.string l[k]) := fun k hk => by
    rw [Lib.cell_of_heap hrow]
    simp [hk]
  have HC := Lib.hid hc
  have HB := Lib.hid hB
  have HL := Lib.hid hlen
  clear hc hrow hB
  rw [hlen]
  generalize w.alloc (.cells (l.map Value.string).toArray 9) = w1 at *
  generalize w.heap.size = g at *
  clear hlen
  go_wp2
  go_loop [7] (fun i => ∃ k : Nat, k ≤ 20 ∧ i = .int .i64 k) (fun i => 20 - (intOf i).toNat)
  case atStart => exact ⟨0, Nat.zero_le _, rfl⟩
  case round =>
    obtain ⟨k, hk, rfl⟩ := hrel
    by_cases hlt : k < 20
    · have hkl : k < l.length := by rw [HL.out]; exact hlt
      have c0 := HC.out k hkl
      have hmem : l[k]? = some l[k] := List.getElem?_eq_getElem hkl
      generalize l[k] = x at c0 hmem
      have HM := Lib.hid hmem
      clear hmem
      by_cases hx : x = s
      · subst hx
        go_wp2
        go_ret
        exact HP.out _ _ ⟨k + 1, by simp, by omega, fun _ => by simpa using HM.out, HB.out⟩
      · have hb := text_ne hx
        go_wp2
        go_round
        case rel => exact ⟨k + 1, by omega, by go_num⟩
        case measure => simp [intOf]; omega
    · go_wp2
      go_ret
      exact HP.out _ _ ⟨0, rfl, by omega, fun h => absurd h (by omega), HB.out⟩

set_option maxHeartbeats 1000000 in
theorem keyword_any (s : ByteArray) (w : World) : Calls Tryz.prog 21 #[.string s] w (AnyB w) := by
  go_enter Tryz.func21, Tryz.ntmps21
  go_wp2
  all_goals (go_ret; exact ⟨_, rfl, rfl⟩)

theorem decodeN_four (n b0 b1 b2 b3 : Nat) : (Lib.decodeN n b0 b1 b2 b3).2 ≤ 4 := by
  unfold Lib.decodeN
  repeat' split
  all_goals simp
theorem decodeN_in (n b0 b1 b2 b3 : Nat) (hn : 1 ≤ n) : (Lib.decodeN n b0 b1 b2 b3).2 ≤ n := by
  unfold Lib.decodeN
  repeat' split
  all_goals (simp only; omega)
theorem decode_bounds (s : ByteArray) : (Lib.decodeGo s).2 ≤ 4 ∧ (Lib.decodeGo s).2 ≤ s.size := by
  unfold Lib.decodeGo
  split
  · simp
  · rw [Lib.decode_at]; exact ⟨decodeN_four _ _ _ _ _, decodeN_in _ _ _ _ _ (by omega)⟩

def LetterPost (i m : Nat) (w : World) (e : Ending) (w' : World) : Prop := ∃ n : Nat, e = .returned (.int .i64 n) ∧ n ≤ 4 ∧ i + n ≤ m ∧ Below w.heap.size w w'

set_option maxRecDepth 100000 in
set_option maxHeartbeats 1000000 in
theorem letter_any (b i : Nat) (s : ByteArray) (w : World) (hT : Lib.Utf8Tabs 1 2 w) (c0 : w.cell? ⟨b, 0, none⟩ = some (.string s)) (hi : i < s.size) :
    Calls Tryz.prog 19 #[.pointer (some ⟨b, 0, none⟩), .int .i64 i] w (LetterPost i s.size w) := by
  have h1 : ¬ (s.size : Int) ≤ i := by omega
  have h2 : (i : Int) ≤ s.size := by omega
  have HD := Lib.hid (Tryz.utf8_DecodeRuneInString (s.extract i s.size) w hT)
  have hb := decode_bounds (s.extract i s.size)
  have hsz : (s.extract i s.size).size = s.size - i := by simp
  rw [hsz] at hb
  obtain ⟨hb1, hb2⟩ := hb
  clear hT hsz
  generalize hx : s.extract i s.size = x at HD hb1 hb2
  generalize (Lib.decodeGo x).1 = c at HD
  generalize (Lib.decodeGo x).2 = n at HD hb1 hb2
  have HZ : Hid (∀ e w', e = .returned (.int .i64 0) → Below w.heap.size w w' → LetterPost i s.size w e w') := Lib.hid fun e w' h h' => ⟨0, h, by omega, by omega, h'⟩
  have HN : Hid (∀ e w', e = .returned (.int .i64 n) → Below w.heap.size w w' → LetterPost i s.size w e w') := Lib.hid fun e w' h h' => ⟨n, h, by omega, by omega, h'⟩
  go_enter Tryz.func19, Tryz.ntmps19
  go_wp2_with fail
  ((with_reducible refine HD.out.mono ?_))
  rintro e w1 ⟨rfl, hb3⟩
  have HB := Lib.hid hb3
  go_wp2
  all_goals (go_ret; first | exact HZ.out _ _ rfl HB.out | exact HN.out _ _ rfl HB.out)

set_option maxHeartbeats 1000000 in
theorem digit_some (b i : Nat) (s : ByteArray) (w : World) (c0 : w.cell? ⟨b, 0, none⟩ = some (.string s)) (hi : i < s.size) :
    Calls Tryz.prog 20 #[.pointer (some ⟨b, 0, none⟩), .int .i64 i] w (AnyB w) := by
  have h1 : (i : Int) < s.size := by omega
  have h2 : (0 : Int) ≤ i := by omega
  go_enter Tryz.func20, Tryz.ntmps20
  go_wp2
  all_goals (go_ret; exact ⟨_, rfl, rfl⟩)

set_option maxRecDepth 100000 in
set_option maxHeartbeats 2000000 in
/-- spec.Name answers for whatever is short; the empty text is none. -/
theorem name_any (s : ByteArray) (hs : s.size ≤ 2147483647) (w : World) (hT : Lib.Utf8Tabs 1 2 w) :
    Calls Tryz.prog 8 #[.string s] w (YesB (s ≠ ⟨#[]⟩) w) := by
  have HF : Hid (∀ e w', e = .returned (.bool false) → Below w.heap.size w w' → YesB (s ≠ ⟨#[]⟩) w e w') := Lib.hid fun e w' h h' => ⟨false, h, (fun h => by cases h), h'⟩
  have HT := Lib.hid hT
  clear hT
  go_enter Tryz.func8, Tryz.ntmps8
  go_wp2
  go_loopw [4] (fun _ wr => ∃ k : Nat, k ≤ s.size ∧ wr.heap[w.heap.size]? = some (.cells #[.string s, .int .i64 k] 40 (0, 0)) ∧ Below w.heap.size w wr) (fun _ wr => match wr.cell? ⟨w.heap.size, 1, none⟩ with | some v => s.size - (intOf v).toNat | none => 0)
  case atStart => exact ⟨0, Nat.zero_le _, heap_alloc_new w _, (Below.refl _ w).alloc (Nat.le_refl _) _⟩
  case round =>
    obtain ⟨k, hk, hrow, hb⟩ := hrel
    have c0 : wr.cell? ⟨w.heap.size, 0, none⟩ = some (.string s) := by rw [Lib.cell_of_heap hrow]; rfl
    have c1 : wr.cell? ⟨w.heap.size, 1, none⟩ = some (.int .i64 k) := by rw [Lib.cell_of_heap hrow]; rfl
    have HR := Lib.hid hrow
    have HB := Lib.hid hb
    clear hrow hb
    by_cases hlt : k < s.size
    · have HL := Lib.hid (letter_any w.heap.size k s wr (Utf8Tabs_below HT.out HB.out) c0 hlt)
      go_wp2_with fail
      ((with_reducible refine HL.out.mono ?_))
      rintro e w1 ⟨n, rfl, hn4, hns, hb1⟩
      have hrow1 := (hb1.block _ (Array.getElem?_eq_some_iff.1 HR.out).1).trans HR.out
      have hB1 := HB.out.trans (hb1.mono HB.out.size)
      have d0 : w1.cell? ⟨w.heap.size, 0, none⟩ = some (.string s) := by rw [Lib.cell_of_heap hrow1]; rfl
      have d1 : w1.cell? ⟨w.heap.size, 1, none⟩ = some (.int .i64 k) := by rw [Lib.cell_of_heap hrow1]; rfl
      have d2 : w1.frozen? ⟨w.heap.size, 1, none⟩ = false := Lib.frozen_of_heap hrow1 1
      have HR1 := Lib.hid hrow1
      have HB1 := Lib.hid hB1
      clear hrow1 hB1 c0 hb1
      have hput : ∀ m : Nat, (w1.setCell ⟨w.heap.size, 1, none⟩ (.int .i64 m)).heap[w.heap.size]? = some (.cells #[.string s, .int .i64 m] 40 (0, 0)) := fun m => by
        have h1 := HR1.out
        simp [World.setCell, Array.getElem?_modify, h1]
      have hbel : ∀ m : Nat, Below w.heap.size w (w1.setCell ⟨w.heap.size, 1, none⟩ (.int .i64 m)) := fun m => HB1.out.setCell (p := ⟨w.heap.size, 1, none⟩) (Nat.le_refl _) _
      have HP := Lib.hid hput
      have HBl := Lib.hid hbel
      clear hput hbel
      by_cases hn : n = 0
      · subst hn
        by_cases hk0 : k = 0
        · subst hk0
          go_wp2
          go_ret
          exact HF.out _ _ rfl HB1.out
        · have hk0' : ((k : Int) == 0) = false := by simp; omega
          have HD := Lib.hid (digit_some w.heap.size k s w1 d0 hlt)
          go_wp2_with fail
          ((with_reducible refine HD.out.mono ?_))
          rintro e w2 ⟨bb, rfl, rfl⟩
          cases bb with
          | false =>
            go_wp2
            go_ret
            exact HF.out _ _ rfl HB1.out
          | true =>
            have e0 : (w2.setCell ⟨w.heap.size, 1, none⟩ (.int .i64 ((k : Int) + 1))).cell? ⟨w.heap.size, 1, none⟩ = some (.int .i64 ((k : Int) + 1)) := by
              have h1 := HP.out (k + 1)
              rw [show (((k + 1 : Nat) : Int)) = (k : Int) + 1 by omega] at h1
              rw [Lib.cell_of_heap h1]; rfl
            go_wp2
            go_roundw
            case rel => exact ⟨k + 1, by omega, HP.out (k + 1), HBl.out (k + 1)⟩
            case measure => rw [show max (0 : Int) 1 = 1 from rfl, e0, c1]; simp [intOf]; omega
      · have hn' : ((n : Int) == 0) = false := by simp; omega
        have hmx : ¬ (1 : Int) > n := by omega
        have e0 : (w1.setCell ⟨w.heap.size, 1, none⟩ (.int .i64 ((k : Int) + n))).cell? ⟨w.heap.size, 1, none⟩ = some (.int .i64 ((k : Int) + n)) := by
          have h1 := HP.out (k + n)
          rw [show (((k + n : Nat) : Int)) = (k : Int) + n by omega] at h1
          rw [Lib.cell_of_heap h1]; rfl
        go_wp2
        go_roundw
        case rel => rw [show max (n : Int) 1 = n by omega]; exact ⟨k + n, by omega, by simpa using HP.out (k + n), by simpa using HBl.out (k + n)⟩
        case measure => rw [show max (n : Int) 1 = n by omega, e0, c1]; simp [intOf]; omega
    · by_cases he : s = ⟨#[]⟩
      · subst he
        go_wp2
        go_ret
        exact HF.out _ _ rfl HB.out
      · have hne := text_ne he
        have hne2 : s.toList.isEmpty = false := by
          cases h : s.toList with
          | nil => rw [h, ByteArray.toList_eq] at hne; simp at hne
          | cons _ _ => rfl
        have HE : Hid (∀ b w', Below w.heap.size w w' → YesB (s ≠ ⟨#[]⟩) w (.returned (.bool b)) w') := Lib.hid fun b w' h => ⟨b, rfl, fun _ => he, h⟩
        have HK := Lib.hid (keyword_any s wr)
        clear he hne
        go_wp2_with fail
        ((with_reducible refine HK.out.mono ?_))
        rintro e w1 ⟨bb, rfl, rfl⟩
        cases bb with
        | true =>
          go_wp2
          go_ret
          exact HE.out _ _ HB.out
        | false =>
          go_wp2
          all_goals (go_ret; exact HE.out _ _ HB.out)

end Go.Proofs.YtkohgndmhgcgeaaGreatDoor
