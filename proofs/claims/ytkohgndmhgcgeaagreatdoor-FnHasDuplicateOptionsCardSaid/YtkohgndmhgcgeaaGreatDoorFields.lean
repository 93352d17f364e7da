/- spec.plainFields: what a yes says. -/
import Derived.Test.YtkohgndmhgcgeaaGreatDoorPlain
import Derived.Deep.DeepCutAuto
namespace Go.Proofs.YtkohgndmhgcgeaaGreatDoor
open Go Go.RowKit
set_option linter.unusedVariables false

def textKinds : List Int := [2, 3, 7, 21, 22, 23, 31, 33, 34, 40, 42]
def numKinds : List Int := [35, 36, 37, 38, 40, 41, 52]

/-- What every node's fields are. -/
def BaseF (k : Int) (t m : ByteArray) (n : Int) : Prop :=
  (k ∉ textKinds → t = ⟨#[]⟩) ∧ (k ∉ numKinds → n = 0) ∧ (m = ⟨#[]⟩ ∨ k = 2 ∨ k = 3) ∧ t.size ≤ 300 ∧ m.size ≤ 300 ∧ Lib.validD t.data.toList = true ∧ Lib.validD m.data.toList = true

/-- What the fields of a kind's nodes are besides. -/
def KindF (k : Int) (t : ByteArray) (n : Int) : Prop :=
  (k = 21 → t ∈ operatorTexts ∧ t ≠ ⟨#[110, 111, 116]⟩ ∧ t ≠ ⟨#[101, 120, 105, 115, 116, 115]⟩) ∧ (k = 22 → t ∈ unaryTexts) ∧ (k = 23 → t = ⟨#[97, 110, 100]⟩ ∨ t = ⟨#[111, 114]⟩) ∧ (k = 35 → n ≤ 1) ∧ (k = 52 → n ≤ 2) ∧ (k = 40 → t ∈ unitTexts) ∧ (k = 33 → t ≠ ⟨#[]⟩)

def FieldsF (k : Int) (t m : ByteArray) (n : Int) : Prop := BaseF k t m n ∧ KindF k t n

theorem inText (k : Int) (W : World) (g : Nat) (h : W.heap[g]? = some (.cells (textKinds.map (Value.int .i64)).toArray 3)) : Calls Tryz.prog 26 #[.int .i64 k, .slice (some ⟨g, 0, none⟩) 11 11] W fun e w' => e = .returned (.bool (decide (k ∈ textKinds))) ∧ w' = W := in_some k textKinds g W h (by decide)
theorem inNum (k : Int) (W : World) (g : Nat) (h : W.heap[g]? = some (.cells (numKinds.map (Value.int .i64)).toArray 3)) : Calls Tryz.prog 26 #[.int .i64 k, .slice (some ⟨g, 0, none⟩) 7 7] W fun e w' => e = .returned (.bool (decide (k ∈ numKinds))) ∧ w' = W := in_some k numKinds g W h (by decide)

def FieldsCut (k : Int) (t m : ByteArray) (n : Int) (a : Option Addr) (l c : Nat) (w : World) (v : Value) (wx : World) : Prop :=
  ∃ b : Bool, v = .bool b ∧ (b = false → BaseF k t m n) ∧ BoxAt w.heap.size k t m n a l c wx ∧ Below w.heap.size w wx

set_option maxHeartbeats 4000000 in
set_option maxRecDepth 100000 in
theorem plainFields_any (k : Int) (t m : ByteArray) (n : Int) (a : Option Addr) (l c : Nat) (hk : -9223372036854775808 ≤ k ∧ k ≤ 9223372036854775807) (hn : 0 ≤ n ∧ n ≤ 18446744073709551615) (ht : t.size ≤ 9223372036854775807) (hm : m.size ≤ 9223372036854775807) (w : World)
    (hT : Lib.Utf8Tabs 1 2 w) :
    Calls Tryz.prog 58 #[nodeU k t m n a l c] w (YesB (FieldsF k t m n) w) := by
  have HT := Lib.hid hT
  have HF : Hid (∀ w', Below w.heap.size w w' → YesB (FieldsF k t m n) w (.returned (.bool false)) w') := Lib.hid fun w' h => ⟨false, rfl, (fun h => by cases h), h⟩
  clear hT
  unfold nodeU
  go_enter Tryz.func58, Tryz.ntmps58
  go_wp2_with fail
  refine (inText k ((w.alloc (.cells #[.int .i64 k, .string t, .string m, .int .u64 n, .slice a l c] 25)).alloc (.cells (textKinds.map (Value.int .i64)).toArray 3)) (w.heap.size + 1) (row_two _ _ _)).mono ?_
  rintro e w1 ⟨rfl, rfl⟩
  go_wp2_with fail
  refine (inNum k (((w.alloc (.cells #[.int .i64 k, .string t, .string m, .int .u64 n, .slice a l c] 25)).alloc (.cells (textKinds.map (Value.int .i64)).toArray 3)).alloc (.cells (numKinds.map (Value.int .i64)).toArray 3)) (w.heap.size + 2) (row_three _ _ _ _)).mono ?_
  rintro e w1 ⟨rfl, rfl⟩
  have hB : Below w.heap.size w (((w.alloc (.cells #[.int .i64 k, .string t, .string m, .int .u64 n, .slice a l c] 25)).alloc (.cells (textKinds.map (Value.int .i64)).toArray 3)).alloc (.cells (numKinds.map (Value.int .i64)).toArray 3)) := (((Below.refl _ w).alloc (Nat.le_refl _) _).alloc (by simp) _).alloc (by simp; omega) _
  have hX : BoxAt w.heap.size k t m n a l c (((w.alloc (.cells #[.int .i64 k, .string t, .string m, .int .u64 n, .slice a l c] 25)).alloc (.cells (textKinds.map (Value.int .i64)).toArray 3)).alloc (.cells (numKinds.map (Value.int .i64)).toArray 3)) :=
    (Below.heap_alloc _ _ _ (by simp; omega)).trans ((Below.heap_alloc _ _ _ (by simp)).trans (heap_alloc_new w _))
  generalize ((w.alloc (.cells #[.int .i64 k, .string t, .string m, .int .u64 n, .slice a l c] 25)).alloc (.cells (textKinds.map (Value.int .i64)).toArray 3)).alloc (.cells (numKinds.map (Value.int .i64)).toArray 3) = w1 at *
  have HB := Lib.hid hB
  have HX := Lib.hid hX
  obtain ⟨c0, c1, c2, c3, c4⟩ := hX.five
  clear hB hX
  generalize htx : decide (k ∈ textKinds) = tx
  generalize hnx : decide (k ∈ numKinds) = nx
  have HTX := Lib.hid htx
  have HNX := Lib.hid hnx
  clear htx hnx
  go_upto_region 3 with fail
  go_cut [67] (fun v wx => FieldsCut k t m n a l c w v wx)
  case first =>
    cases tx with
    | true =>
      cases nx with
      | true =>
        by_cases hme : m = ⟨#[]⟩
        · have hm1 := isEmpty_of hme
          have HME := Lib.hid hme
          clear hme
          by_cases ht3 : 300 < t.size
          · (go_wp2; go_meet; exact ⟨true, rfl, (fun h => by cases h), HX.out, HB.out⟩)
          by_cases hm3 : 300 < m.size
          · (go_wp2; go_meet; exact ⟨true, rfl, (fun h => by cases h), HX.out, HB.out⟩)
          have dt : decide ((300 : Int) < t.size) = false := by simp; omega
          have dm : decide ((300 : Int) < m.size) = false := by simp; omega
          go_wp2_with fail
          ((with_reducible refine (Tryz.utf8_ValidString t _ ht (Utf8Tabs_below HT.out HB.out)).mono ?_))
          rintro e w2 ⟨rfl, hb2⟩
          cases hvt : Lib.validD t.data.toList with
          | false =>
            have HB2 := Lib.hid hb2
            (go_wp2; go_meet; exact ⟨true, rfl, (fun h => by cases h), HX.out.below HB2.out, HB.out.trans (HB2.out.mono HB.out.size)⟩)
          | true =>
            have HVT := Lib.hid hvt
            have HB2 := Lib.hid (HB.out.trans (hb2.mono HB.out.size))
            have HX2 := Lib.hid (HX.out.below hb2)
            obtain ⟨q0, q1, q2, q3, q4⟩ := HX2.out.five
            clear hvt c0 c1 c2 c3 c4 hb2
            go_wp2_with fail
            ((with_reducible refine (Tryz.utf8_ValidString m _ hm (Utf8Tabs_below HT.out HB2.out)).mono ?_))
            rintro e w3 ⟨rfl, hb3⟩
            have HB3 := Lib.hid (HB2.out.trans (hb3.mono HB2.out.size))
            have HX3 := Lib.hid (HX2.out.below hb3)
            clear hb3
            cases hvm : Lib.validD m.data.toList with
            | false => (go_wp2; go_meet; exact ⟨true, rfl, (fun h => by cases h), HX3.out, HB3.out⟩)
            | true =>
              have HVM := Lib.hid hvm
              clear hvm
              (go_wp2; go_meet; exact ⟨false, rfl, (fun _ => ⟨fun h => absurd HTX.out (by simp [h]), fun h => absurd HNX.out (by simp [h]), .inl HME.out, by omega, by omega, HVT.out, HVM.out⟩), HX3.out, HB3.out⟩)
        · have hm1 := notEmpty_of hme
          clear hme
          by_cases hk2 : k = 2
          · have hk2' : (k != 2) = false := by simpa using hk2
            have HK2 := Lib.hid hk2
            clear hk2
            by_cases ht3 : 300 < t.size
            · (go_wp2; go_meet; exact ⟨true, rfl, (fun h => by cases h), HX.out, HB.out⟩)
            by_cases hm3 : 300 < m.size
            · (go_wp2; go_meet; exact ⟨true, rfl, (fun h => by cases h), HX.out, HB.out⟩)
            have dt : decide ((300 : Int) < t.size) = false := by simp; omega
            have dm : decide ((300 : Int) < m.size) = false := by simp; omega
            go_wp2_with fail
            ((with_reducible refine (Tryz.utf8_ValidString t _ ht (Utf8Tabs_below HT.out HB.out)).mono ?_))
            rintro e w2 ⟨rfl, hb2⟩
            cases hvt : Lib.validD t.data.toList with
            | false =>
              have HB2 := Lib.hid hb2
              (go_wp2; go_meet; exact ⟨true, rfl, (fun h => by cases h), HX.out.below HB2.out, HB.out.trans (HB2.out.mono HB.out.size)⟩)
            | true =>
              have HVT := Lib.hid hvt
              have HB2 := Lib.hid (HB.out.trans (hb2.mono HB.out.size))
              have HX2 := Lib.hid (HX.out.below hb2)
              obtain ⟨q0, q1, q2, q3, q4⟩ := HX2.out.five
              clear hvt c0 c1 c2 c3 c4 hb2
              go_wp2_with fail
              ((with_reducible refine (Tryz.utf8_ValidString m _ hm (Utf8Tabs_below HT.out HB2.out)).mono ?_))
              rintro e w3 ⟨rfl, hb3⟩
              have HB3 := Lib.hid (HB2.out.trans (hb3.mono HB2.out.size))
              have HX3 := Lib.hid (HX2.out.below hb3)
              clear hb3
              cases hvm : Lib.validD m.data.toList with
              | false => (go_wp2; go_meet; exact ⟨true, rfl, (fun h => by cases h), HX3.out, HB3.out⟩)
              | true =>
                have HVM := Lib.hid hvm
                clear hvm
                (go_wp2; go_meet; exact ⟨false, rfl, (fun _ => ⟨fun h => absurd HTX.out (by simp [h]), fun h => absurd HNX.out (by simp [h]), .inr (.inl HK2.out), by omega, by omega, HVT.out, HVM.out⟩), HX3.out, HB3.out⟩)
          · have hk2' : (k != 2) = true := by simpa using hk2
            clear hk2
            by_cases hk3 : k = 3
            · have hk3' : (k != 3) = false := by simpa using hk3
              have HK3 := Lib.hid hk3
              clear hk3
              by_cases ht3 : 300 < t.size
              · (go_wp2; go_meet; exact ⟨true, rfl, (fun h => by cases h), HX.out, HB.out⟩)
              by_cases hm3 : 300 < m.size
              · (go_wp2; go_meet; exact ⟨true, rfl, (fun h => by cases h), HX.out, HB.out⟩)
              have dt : decide ((300 : Int) < t.size) = false := by simp; omega
              have dm : decide ((300 : Int) < m.size) = false := by simp; omega
              go_wp2_with fail
              ((with_reducible refine (Tryz.utf8_ValidString t _ ht (Utf8Tabs_below HT.out HB.out)).mono ?_))
              rintro e w2 ⟨rfl, hb2⟩
              cases hvt : Lib.validD t.data.toList with
              | false =>
                have HB2 := Lib.hid hb2
                (go_wp2; go_meet; exact ⟨true, rfl, (fun h => by cases h), HX.out.below HB2.out, HB.out.trans (HB2.out.mono HB.out.size)⟩)
              | true =>
                have HVT := Lib.hid hvt
                have HB2 := Lib.hid (HB.out.trans (hb2.mono HB.out.size))
                have HX2 := Lib.hid (HX.out.below hb2)
                obtain ⟨q0, q1, q2, q3, q4⟩ := HX2.out.five
                clear hvt c0 c1 c2 c3 c4 hb2
                go_wp2_with fail
                ((with_reducible refine (Tryz.utf8_ValidString m _ hm (Utf8Tabs_below HT.out HB2.out)).mono ?_))
                rintro e w3 ⟨rfl, hb3⟩
                have HB3 := Lib.hid (HB2.out.trans (hb3.mono HB2.out.size))
                have HX3 := Lib.hid (HX2.out.below hb3)
                clear hb3
                cases hvm : Lib.validD m.data.toList with
                | false => (go_wp2; go_meet; exact ⟨true, rfl, (fun h => by cases h), HX3.out, HB3.out⟩)
                | true =>
                  have HVM := Lib.hid hvm
                  clear hvm
                  (go_wp2; go_meet; exact ⟨false, rfl, (fun _ => ⟨fun h => absurd HTX.out (by simp [h]), fun h => absurd HNX.out (by simp [h]), .inr (.inr HK3.out), by omega, by omega, HVT.out, HVM.out⟩), HX3.out, HB3.out⟩)
            · have hk3' : (k != 3) = true := by simpa using hk3
              clear hk3
              (go_wp2; go_meet; exact ⟨true, rfl, (fun h => by cases h), HX.out, HB.out⟩)
      | false =>
        by_cases hne : n = 0
        · have hn1 : (n != 0) = false := by simpa using hne
          have HNE := Lib.hid hne
          clear hne
          by_cases hme : m = ⟨#[]⟩
          · have hm1 := isEmpty_of hme
            have HME := Lib.hid hme
            clear hme
            by_cases ht3 : 300 < t.size
            · (go_wp2; go_meet; exact ⟨true, rfl, (fun h => by cases h), HX.out, HB.out⟩)
            by_cases hm3 : 300 < m.size
            · (go_wp2; go_meet; exact ⟨true, rfl, (fun h => by cases h), HX.out, HB.out⟩)
            have dt : decide ((300 : Int) < t.size) = false := by simp; omega
            have dm : decide ((300 : Int) < m.size) = false := by simp; omega
            go_wp2_with fail
            ((with_reducible refine (Tryz.utf8_ValidString t _ ht (Utf8Tabs_below HT.out HB.out)).mono ?_))
            rintro e w2 ⟨rfl, hb2⟩
            cases hvt : Lib.validD t.data.toList with
            | false =>
              have HB2 := Lib.hid hb2
              (go_wp2; go_meet; exact ⟨true, rfl, (fun h => by cases h), HX.out.below HB2.out, HB.out.trans (HB2.out.mono HB.out.size)⟩)
            | true =>
              have HVT := Lib.hid hvt
              have HB2 := Lib.hid (HB.out.trans (hb2.mono HB.out.size))
              have HX2 := Lib.hid (HX.out.below hb2)
              obtain ⟨q0, q1, q2, q3, q4⟩ := HX2.out.five
              clear hvt c0 c1 c2 c3 c4 hb2
              go_wp2_with fail
              ((with_reducible refine (Tryz.utf8_ValidString m _ hm (Utf8Tabs_below HT.out HB2.out)).mono ?_))
              rintro e w3 ⟨rfl, hb3⟩
              have HB3 := Lib.hid (HB2.out.trans (hb3.mono HB2.out.size))
              have HX3 := Lib.hid (HX2.out.below hb3)
              clear hb3
              cases hvm : Lib.validD m.data.toList with
              | false => (go_wp2; go_meet; exact ⟨true, rfl, (fun h => by cases h), HX3.out, HB3.out⟩)
              | true =>
                have HVM := Lib.hid hvm
                clear hvm
                (go_wp2; go_meet; exact ⟨false, rfl, (fun _ => ⟨fun h => absurd HTX.out (by simp [h]), fun _ => HNE.out, .inl HME.out, by omega, by omega, HVT.out, HVM.out⟩), HX3.out, HB3.out⟩)
          · have hm1 := notEmpty_of hme
            clear hme
            by_cases hk2 : k = 2
            · have hk2' : (k != 2) = false := by simpa using hk2
              have HK2 := Lib.hid hk2
              clear hk2
              by_cases ht3 : 300 < t.size
              · (go_wp2; go_meet; exact ⟨true, rfl, (fun h => by cases h), HX.out, HB.out⟩)
              by_cases hm3 : 300 < m.size
              · (go_wp2; go_meet; exact ⟨true, rfl, (fun h => by cases h), HX.out, HB.out⟩)
              have dt : decide ((300 : Int) < t.size) = false := by simp; omega
              have dm : decide ((300 : Int) < m.size) = false := by simp; omega
              go_wp2_with fail
              ((with_reducible refine (Tryz.utf8_ValidString t _ ht (Utf8Tabs_below HT.out HB.out)).mono ?_))
              rintro e w2 ⟨rfl, hb2⟩
              cases hvt : Lib.validD t.data.toList with
              | false =>
                have HB2 := Lib.hid hb2
                (go_wp2; go_meet; exact ⟨true, rfl, (fun h => by cases h), HX.out.below HB2.out, HB.out.trans (HB2.out.mono HB.out.size)⟩)
              | true =>
                have HVT := Lib.hid hvt
                have HB2 := Lib.hid (HB.out.trans (hb2.mono HB.out.size))
                have HX2 := Lib.hid (HX.out.below hb2)
                obtain ⟨q0, q1, q2, q3, q4⟩ := HX2.out.five
                clear hvt c0 c1 c2 c3 c4 hb2
                go_wp2_with fail
                ((with_reducible refine (Tryz.utf8_ValidString m _ hm (Utf8Tabs_below HT.out HB2.out)).mono ?_))
                rintro e w3 ⟨rfl, hb3⟩
                have HB3 := Lib.hid (HB2.out.trans (hb3.mono HB2.out.size))
                have HX3 := Lib.hid (HX2.out.below hb3)
                clear hb3
                cases hvm : Lib.validD m.data.toList with
                | false => (go_wp2; go_meet; exact ⟨true, rfl, (fun h => by cases h), HX3.out, HB3.out⟩)
                | true =>
                  have HVM := Lib.hid hvm
                  clear hvm
                  (go_wp2; go_meet; exact ⟨false, rfl, (fun _ => ⟨fun h => absurd HTX.out (by simp [h]), fun _ => HNE.out, .inr (.inl HK2.out), by omega, by omega, HVT.out, HVM.out⟩), HX3.out, HB3.out⟩)
            · have hk2' : (k != 2) = true := by simpa using hk2
              clear hk2
              by_cases hk3 : k = 3
              · have hk3' : (k != 3) = false := by simpa using hk3
                have HK3 := Lib.hid hk3
                clear hk3
                by_cases ht3 : 300 < t.size
                · (go_wp2; go_meet; exact ⟨true, rfl, (fun h => by cases h), HX.out, HB.out⟩)
                by_cases hm3 : 300 < m.size
                · (go_wp2; go_meet; exact ⟨true, rfl, (fun h => by cases h), HX.out, HB.out⟩)
                have dt : decide ((300 : Int) < t.size) = false := by simp; omega
                have dm : decide ((300 : Int) < m.size) = false := by simp; omega
                go_wp2_with fail
                ((with_reducible refine (Tryz.utf8_ValidString t _ ht (Utf8Tabs_below HT.out HB.out)).mono ?_))
                rintro e w2 ⟨rfl, hb2⟩
                cases hvt : Lib.validD t.data.toList with
                | false =>
                  have HB2 := Lib.hid hb2
                  (go_wp2; go_meet; exact ⟨true, rfl, (fun h => by cases h), HX.out.below HB2.out, HB.out.trans (HB2.out.mono HB.out.size)⟩)
                | true =>
                  have HVT := Lib.hid hvt
                  have HB2 := Lib.hid (HB.out.trans (hb2.mono HB.out.size))
                  have HX2 := Lib.hid (HX.out.below hb2)
                  obtain ⟨q0, q1, q2, q3, q4⟩ := HX2.out.five
                  clear hvt c0 c1 c2 c3 c4 hb2
                  go_wp2_with fail
                  ((with_reducible refine (Tryz.utf8_ValidString m _ hm (Utf8Tabs_below HT.out HB2.out)).mono ?_))
                  rintro e w3 ⟨rfl, hb3⟩
                  have HB3 := Lib.hid (HB2.out.trans (hb3.mono HB2.out.size))
                  have HX3 := Lib.hid (HX2.out.below hb3)
                  clear hb3
                  cases hvm : Lib.validD m.data.toList with
                  | false => (go_wp2; go_meet; exact ⟨true, rfl, (fun h => by cases h), HX3.out, HB3.out⟩)
                  | true =>
                    have HVM := Lib.hid hvm
                    clear hvm
                    (go_wp2; go_meet; exact ⟨false, rfl, (fun _ => ⟨fun h => absurd HTX.out (by simp [h]), fun _ => HNE.out, .inr (.inr HK3.out), by omega, by omega, HVT.out, HVM.out⟩), HX3.out, HB3.out⟩)
              · have hk3' : (k != 3) = true := by simpa using hk3
                clear hk3
                (go_wp2; go_meet; exact ⟨true, rfl, (fun h => by cases h), HX.out, HB.out⟩)
        · have hn1 : (n != 0) = true := by simpa using hne
          (go_wp2; go_meet; exact ⟨true, rfl, (fun h => by cases h), HX.out, HB.out⟩)
    | false =>
      by_cases hte : t = ⟨#[]⟩
      · have ht1 := isEmpty_of hte
        have HTE := Lib.hid hte
        clear hte
        cases nx with
        | true =>
          by_cases hme : m = ⟨#[]⟩
          · have hm1 := isEmpty_of hme
            have HME := Lib.hid hme
            clear hme
            by_cases ht3 : 300 < t.size
            · (go_wp2; go_meet; exact ⟨true, rfl, (fun h => by cases h), HX.out, HB.out⟩)
            by_cases hm3 : 300 < m.size
            · (go_wp2; go_meet; exact ⟨true, rfl, (fun h => by cases h), HX.out, HB.out⟩)
            have dt : decide ((300 : Int) < t.size) = false := by simp; omega
            have dm : decide ((300 : Int) < m.size) = false := by simp; omega
            go_wp2_with fail
            ((with_reducible refine (Tryz.utf8_ValidString t _ ht (Utf8Tabs_below HT.out HB.out)).mono ?_))
            rintro e w2 ⟨rfl, hb2⟩
            cases hvt : Lib.validD t.data.toList with
            | false =>
              have HB2 := Lib.hid hb2
              (go_wp2; go_meet; exact ⟨true, rfl, (fun h => by cases h), HX.out.below HB2.out, HB.out.trans (HB2.out.mono HB.out.size)⟩)
            | true =>
              have HVT := Lib.hid hvt
              have HB2 := Lib.hid (HB.out.trans (hb2.mono HB.out.size))
              have HX2 := Lib.hid (HX.out.below hb2)
              obtain ⟨q0, q1, q2, q3, q4⟩ := HX2.out.five
              clear hvt c0 c1 c2 c3 c4 hb2
              go_wp2_with fail
              ((with_reducible refine (Tryz.utf8_ValidString m _ hm (Utf8Tabs_below HT.out HB2.out)).mono ?_))
              rintro e w3 ⟨rfl, hb3⟩
              have HB3 := Lib.hid (HB2.out.trans (hb3.mono HB2.out.size))
              have HX3 := Lib.hid (HX2.out.below hb3)
              clear hb3
              cases hvm : Lib.validD m.data.toList with
              | false => (go_wp2; go_meet; exact ⟨true, rfl, (fun h => by cases h), HX3.out, HB3.out⟩)
              | true =>
                have HVM := Lib.hid hvm
                clear hvm
                (go_wp2; go_meet; exact ⟨false, rfl, (fun _ => ⟨fun _ => HTE.out, fun h => absurd HNX.out (by simp [h]), .inl HME.out, by omega, by omega, HVT.out, HVM.out⟩), HX3.out, HB3.out⟩)
          · have hm1 := notEmpty_of hme
            clear hme
            by_cases hk2 : k = 2
            · have hk2' : (k != 2) = false := by simpa using hk2
              have HK2 := Lib.hid hk2
              clear hk2
              by_cases ht3 : 300 < t.size
              · (go_wp2; go_meet; exact ⟨true, rfl, (fun h => by cases h), HX.out, HB.out⟩)
              by_cases hm3 : 300 < m.size
              · (go_wp2; go_meet; exact ⟨true, rfl, (fun h => by cases h), HX.out, HB.out⟩)
              have dt : decide ((300 : Int) < t.size) = false := by simp; omega
              have dm : decide ((300 : Int) < m.size) = false := by simp; omega
              go_wp2_with fail
              ((with_reducible refine (Tryz.utf8_ValidString t _ ht (Utf8Tabs_below HT.out HB.out)).mono ?_))
              rintro e w2 ⟨rfl, hb2⟩
              cases hvt : Lib.validD t.data.toList with
              | false =>
                have HB2 := Lib.hid hb2
                (go_wp2; go_meet; exact ⟨true, rfl, (fun h => by cases h), HX.out.below HB2.out, HB.out.trans (HB2.out.mono HB.out.size)⟩)
              | true =>
                have HVT := Lib.hid hvt
                have HB2 := Lib.hid (HB.out.trans (hb2.mono HB.out.size))
                have HX2 := Lib.hid (HX.out.below hb2)
                obtain ⟨q0, q1, q2, q3, q4⟩ := HX2.out.five
                clear hvt c0 c1 c2 c3 c4 hb2
                go_wp2_with fail
                ((with_reducible refine (Tryz.utf8_ValidString m _ hm (Utf8Tabs_below HT.out HB2.out)).mono ?_))
                rintro e w3 ⟨rfl, hb3⟩
                have HB3 := Lib.hid (HB2.out.trans (hb3.mono HB2.out.size))
                have HX3 := Lib.hid (HX2.out.below hb3)
                clear hb3
                cases hvm : Lib.validD m.data.toList with
                | false => (go_wp2; go_meet; exact ⟨true, rfl, (fun h => by cases h), HX3.out, HB3.out⟩)
                | true =>
                  have HVM := Lib.hid hvm
                  clear hvm
                  (go_wp2; go_meet; exact ⟨false, rfl, (fun _ => ⟨fun _ => HTE.out, fun h => absurd HNX.out (by simp [h]), .inr (.inl HK2.out), by omega, by omega, HVT.out, HVM.out⟩), HX3.out, HB3.out⟩)
            · have hk2' : (k != 2) = true := by simpa using hk2
              clear hk2
              by_cases hk3 : k = 3
              · have hk3' : (k != 3) = false := by simpa using hk3
                have HK3 := Lib.hid hk3
                clear hk3
                by_cases ht3 : 300 < t.size
                · (go_wp2; go_meet; exact ⟨true, rfl, (fun h => by cases h), HX.out, HB.out⟩)
                by_cases hm3 : 300 < m.size
                · (go_wp2; go_meet; exact ⟨true, rfl, (fun h => by cases h), HX.out, HB.out⟩)
                have dt : decide ((300 : Int) < t.size) = false := by simp; omega
                have dm : decide ((300 : Int) < m.size) = false := by simp; omega
                go_wp2_with fail
                ((with_reducible refine (Tryz.utf8_ValidString t _ ht (Utf8Tabs_below HT.out HB.out)).mono ?_))
                rintro e w2 ⟨rfl, hb2⟩
                cases hvt : Lib.validD t.data.toList with
                | false =>
                  have HB2 := Lib.hid hb2
                  (go_wp2; go_meet; exact ⟨true, rfl, (fun h => by cases h), HX.out.below HB2.out, HB.out.trans (HB2.out.mono HB.out.size)⟩)
                | true =>
                  have HVT := Lib.hid hvt
                  have HB2 := Lib.hid (HB.out.trans (hb2.mono HB.out.size))
                  have HX2 := Lib.hid (HX.out.below hb2)
                  obtain ⟨q0, q1, q2, q3, q4⟩ := HX2.out.five
                  clear hvt c0 c1 c2 c3 c4 hb2
                  go_wp2_with fail
                  ((with_reducible refine (Tryz.utf8_ValidString m _ hm (Utf8Tabs_below HT.out HB2.out)).mono ?_))
                  rintro e w3 ⟨rfl, hb3⟩
                  have HB3 := Lib.hid (HB2.out.trans (hb3.mono HB2.out.size))
                  have HX3 := Lib.hid (HX2.out.below hb3)
                  clear hb3
                  cases hvm : Lib.validD m.data.toList with
                  | false => (go_wp2; go_meet; exact ⟨true, rfl, (fun h => by cases h), HX3.out, HB3.out⟩)
                  | true =>
                    have HVM := Lib.hid hvm
                    clear hvm
                    (go_wp2; go_meet; exact ⟨false, rfl, (fun _ => ⟨fun _ => HTE.out, fun h => absurd HNX.out (by simp [h]), .inr (.inr HK3.out), by omega, by omega, HVT.out, HVM.out⟩), HX3.out, HB3.out⟩)
              · have hk3' : (k != 3) = true := by simpa using hk3
                clear hk3
                (go_wp2; go_meet; exact ⟨true, rfl, (fun h => by cases h), HX.out, HB.out⟩)
        | false =>
          by_cases hne : n = 0
          · have hn1 : (n != 0) = false := by simpa using hne
            have HNE := Lib.hid hne
            clear hne
            by_cases hme : m = ⟨#[]⟩
            · have hm1 := isEmpty_of hme
              have HME := Lib.hid hme
              clear hme
              by_cases ht3 : 300 < t.size
              · (go_wp2; go_meet; exact ⟨true, rfl, (fun h => by cases h), HX.out, HB.out⟩)
              by_cases hm3 : 300 < m.size
              · (go_wp2; go_meet; exact ⟨true, rfl, (fun h => by cases h), HX.out, HB.out⟩)
              have dt : decide ((300 : Int) < t.size) = false := by simp; omega
              have dm : decide ((300 : Int) < m.size) = false := by simp; omega
              go_wp2_with fail
              ((with_reducible refine (Tryz.utf8_ValidString t _ ht (Utf8Tabs_below HT.out HB.out)).mono ?_))
              rintro e w2 ⟨rfl, hb2⟩
              cases hvt : Lib.validD t.data.toList with
              | false =>
                have HB2 := Lib.hid hb2
                (go_wp2; go_meet; exact ⟨true, rfl, (fun h => by cases h), HX.out.below HB2.out, HB.out.trans (HB2.out.mono HB.out.size)⟩)
              | true =>
                have HVT := Lib.hid hvt
                have HB2 := Lib.hid (HB.out.trans (hb2.mono HB.out.size))
                have HX2 := Lib.hid (HX.out.below hb2)
                obtain ⟨q0, q1, q2, q3, q4⟩ := HX2.out.five
                clear hvt c0 c1 c2 c3 c4 hb2
                go_wp2_with fail
                ((with_reducible refine (Tryz.utf8_ValidString m _ hm (Utf8Tabs_below HT.out HB2.out)).mono ?_))
                rintro e w3 ⟨rfl, hb3⟩
                have HB3 := Lib.hid (HB2.out.trans (hb3.mono HB2.out.size))
                have HX3 := Lib.hid (HX2.out.below hb3)
                clear hb3
                cases hvm : Lib.validD m.data.toList with
                | false => (go_wp2; go_meet; exact ⟨true, rfl, (fun h => by cases h), HX3.out, HB3.out⟩)
                | true =>
                  have HVM := Lib.hid hvm
                  clear hvm
                  (go_wp2; go_meet; exact ⟨false, rfl, (fun _ => ⟨fun _ => HTE.out, fun _ => HNE.out, .inl HME.out, by omega, by omega, HVT.out, HVM.out⟩), HX3.out, HB3.out⟩)
            · have hm1 := notEmpty_of hme
              clear hme
              by_cases hk2 : k = 2
              · have hk2' : (k != 2) = false := by simpa using hk2
                have HK2 := Lib.hid hk2
                clear hk2
                by_cases ht3 : 300 < t.size
                · (go_wp2; go_meet; exact ⟨true, rfl, (fun h => by cases h), HX.out, HB.out⟩)
                by_cases hm3 : 300 < m.size
                · (go_wp2; go_meet; exact ⟨true, rfl, (fun h => by cases h), HX.out, HB.out⟩)
                have dt : decide ((300 : Int) < t.size) = false := by simp; omega
                have dm : decide ((300 : Int) < m.size) = false := by simp; omega
                go_wp2_with fail
                ((with_reducible refine (Tryz.utf8_ValidString t _ ht (Utf8Tabs_below HT.out HB.out)).mono ?_))
                rintro e w2 ⟨rfl, hb2⟩
                cases hvt : Lib.validD t.data.toList with
                | false =>
                  have HB2 := Lib.hid hb2
                  (go_wp2; go_meet; exact ⟨true, rfl, (fun h => by cases h), HX.out.below HB2.out, HB.out.trans (HB2.out.mono HB.out.size)⟩)
                | true =>
                  have HVT := Lib.hid hvt
                  have HB2 := Lib.hid (HB.out.trans (hb2.mono HB.out.size))
                  have HX2 := Lib.hid (HX.out.below hb2)
                  obtain ⟨q0, q1, q2, q3, q4⟩ := HX2.out.five
                  clear hvt c0 c1 c2 c3 c4 hb2
                  go_wp2_with fail
                  ((with_reducible refine (Tryz.utf8_ValidString m _ hm (Utf8Tabs_below HT.out HB2.out)).mono ?_))
                  rintro e w3 ⟨rfl, hb3⟩
                  have HB3 := Lib.hid (HB2.out.trans (hb3.mono HB2.out.size))
                  have HX3 := Lib.hid (HX2.out.below hb3)
                  clear hb3
                  cases hvm : Lib.validD m.data.toList with
                  | false => (go_wp2; go_meet; exact ⟨true, rfl, (fun h => by cases h), HX3.out, HB3.out⟩)
                  | true =>
                    have HVM := Lib.hid hvm
                    clear hvm
                    (go_wp2; go_meet; exact ⟨false, rfl, (fun _ => ⟨fun _ => HTE.out, fun _ => HNE.out, .inr (.inl HK2.out), by omega, by omega, HVT.out, HVM.out⟩), HX3.out, HB3.out⟩)
              · have hk2' : (k != 2) = true := by simpa using hk2
                clear hk2
                by_cases hk3 : k = 3
                · have hk3' : (k != 3) = false := by simpa using hk3
                  have HK3 := Lib.hid hk3
                  clear hk3
                  by_cases ht3 : 300 < t.size
                  · (go_wp2; go_meet; exact ⟨true, rfl, (fun h => by cases h), HX.out, HB.out⟩)
                  by_cases hm3 : 300 < m.size
                  · (go_wp2; go_meet; exact ⟨true, rfl, (fun h => by cases h), HX.out, HB.out⟩)
                  have dt : decide ((300 : Int) < t.size) = false := by simp; omega
                  have dm : decide ((300 : Int) < m.size) = false := by simp; omega
                  go_wp2_with fail
                  ((with_reducible refine (Tryz.utf8_ValidString t _ ht (Utf8Tabs_below HT.out HB.out)).mono ?_))
                  rintro e w2 ⟨rfl, hb2⟩
                  cases hvt : Lib.validD t.data.toList with
                  | false =>
                    have HB2 := Lib.hid hb2
                    (go_wp2; go_meet; exact ⟨true, rfl, (fun h => by cases h), HX.out.below HB2.out, HB.out.trans (HB2.out.mono HB.out.size)⟩)
                  | true =>
                    have HVT := Lib.hid hvt
                    have HB2 := Lib.hid (HB.out.trans (hb2.mono HB.out.size))
                    have HX2 := Lib.hid (HX.out.below hb2)
                    obtain ⟨q0, q1, q2, q3, q4⟩ := HX2.out.five
                    clear hvt c0 c1 c2 c3 c4 hb2
                    go_wp2_with fail
                    ((with_reducible refine (Tryz.utf8_ValidString m _ hm (Utf8Tabs_below HT.out HB2.out)).mono ?_))
                    rintro e w3 ⟨rfl, hb3⟩
                    have HB3 := Lib.hid (HB2.out.trans (hb3.mono HB2.out.size))
                    have HX3 := Lib.hid (HX2.out.below hb3)
                    clear hb3
                    cases hvm : Lib.validD m.data.toList with
                    | false => (go_wp2; go_meet; exact ⟨true, rfl, (fun h => by cases h), HX3.out, HB3.out⟩)
                    | true =>
                      have HVM := Lib.hid hvm
                      clear hvm
                      (go_wp2; go_meet; exact ⟨false, rfl, (fun _ => ⟨fun _ => HTE.out, fun _ => HNE.out, .inr (.inr HK3.out), by omega, by omega, HVT.out, HVM.out⟩), HX3.out, HB3.out⟩)
                · have hk3' : (k != 3) = true := by simpa using hk3
                  clear hk3
                  (go_wp2; go_meet; exact ⟨true, rfl, (fun h => by cases h), HX.out, HB.out⟩)
          · have hn1 : (n != 0) = true := by simpa using hne
            (go_wp2; go_meet; exact ⟨true, rfl, (fun h => by cases h), HX.out, HB.out⟩)
      · have ht1 := notEmpty_of hte
        clear hte
        (go_wp2; go_meet; exact ⟨true, rfl, (fun h => by cases h), HX.out, HB.out⟩)
  case rest =>
    obtain ⟨b, rfl, hbase, hX, hB⟩ := hcut
    have HB := Lib.hid hB
    have HX := Lib.hid hX
    have HBS := Lib.hid hbase
    obtain ⟨c0, c1, c2, c3, c4⟩ := hX.five
    clear hB hX hbase
    cases b with
    | true =>
      go_wp2
      go_ret
      exact HF.out _ HB.out
    | false =>
      have HY : Hid (∀ w', KindF k t n → Below w.heap.size w w' → YesB (FieldsF k t m n) w (.returned (.bool true)) w') := Lib.hid fun w' h h' => ⟨true, rfl, fun _ => ⟨HBS.out rfl, h⟩, h'⟩
      by_cases h21 : k = 21
      · subst h21
        have HO := Lib.hid (operatorNumber_any t wc)
        go_wp2_with fail
        ((with_reducible refine HO.out.mono ?_))
        rintro e w2 ⟨q, rfl, hq, hq1, hb2⟩
        have HB2 := Lib.hid (HB.out.trans (hb2.mono HB.out.size))
        obtain ⟨q0, q1, q2, q3, q4⟩ := (HX.out.below hb2).five
        clear hb2 c0 c1 c2 c3 c4
        by_cases hz : q = 0
        · subst hz
          go_wp2
          go_ret
          exact HF.out _ HB2.out
        · have hz' : (0 : Int) < (q : Int) := by omega
          have HM := Lib.hid (List.mem_of_getElem? (hq1 (by omega)))
          clear hq1
          by_cases hnot : t = ⟨#[110, 111, 116]⟩
          · subst hnot
            go_wp2
            go_ret
            exact HF.out _ HB2.out
          · obtain ⟨hnot1, hnot2⟩ := text_nel (l := [110, 111, 116]) hnot
            by_cases hex : t = ⟨#[101, 120, 105, 115, 116, 115]⟩
            · subst hex
              go_wp2
              go_ret
              exact HF.out _ HB2.out
            · obtain ⟨hex1, hex2⟩ := text_nel (l := [101, 120, 105, 115, 116, 115]) hex
              have HFIN : Hid (KindF 21 t n) := Lib.hid ⟨fun _ => ⟨HM.out, hnot, hex⟩, (fun h => by omega), (fun h => by omega), (fun h => by omega), (fun h => by omega), (fun h => by omega), (fun h => by omega)⟩
              clear hnot hex
              go_wp2
              go_ret
              exact HY.out _ HFIN.out HB2.out
      have k21 : (k == 21) = false := by simpa using h21
      by_cases h22 : k = 22
      · subst h22
        have HW := Lib.hid ((Below.refl wc.heap.size wc).alloc (Nat.le_refl _) (.cells (unaryTexts.map Value.string).toArray 9))
        have HA0 : Hid ((wc.alloc (.cells (unaryTexts.map Value.string).toArray 9)).heap[wc.heap.size]? = some (.cells (unaryTexts.map Value.string).toArray 9 (0, 0))) := Lib.hid (heap_alloc_new wc _)
        have HA1 : Hid ((wc.alloc (.cells (unaryTexts.map Value.string).toArray 9)).drew.heap[wc.heap.size]? = some (.cells (unaryTexts.map Value.string).toArray 9 (0, 0))) := Lib.hid (heap_alloc_new wc _)
        have hs1 := HX.out.lt
        go_wp2_with fail
        go_region_held3 (fun w' => w'.cell? ⟨w.heap.size, 1, none⟩ = some (.string t)) (first | go_keep | (exact (HW.out.cell (p := ⟨w.heap.size, 1, none⟩) hs1).trans c1)) (first | (go_at_call 79; ((with_reducible refine (unaryOperators_any _).mono ?_)); rintro e wA ⟨rfl, rfl⟩) | (go_at_call 78; ((with_reducible refine (hasText_any unaryTexts _ t _ (by first | exact HA0.out | exact HA1.out) (by decide)).mono ?_)); rintro e wB ⟨bb, rfl, hbb, rfl⟩))
        all_goals
          cases bb with
          | false =>
            go_wp2
            go_ret
            exact HF.out _ (Below.drew (HB.out.trans (HW.out.mono HB.out.size)))
          | true =>
            have HFIN : Hid (KindF 22 t n) := Lib.hid ⟨(fun h => by omega), fun _ => hbb rfl, (fun h => by omega), (fun h => by omega), (fun h => by omega), (fun h => by omega), (fun h => by omega)⟩
            go_wp2
            go_ret
            exact HY.out _ HFIN.out (Below.drew (HB.out.trans (HW.out.mono HB.out.size)))
      have k22 : (k == 22) = false := by simpa using h22
      by_cases h23 : k = 23
      · subst h23
        by_cases hand : t = ⟨#[97, 110, 100]⟩
        · have HFIN : Hid (KindF 23 t n) := Lib.hid ⟨(fun h => by omega), (fun h => by omega), (fun _ => .inl hand), (fun h => by omega), (fun h => by omega), (fun h => by omega), (fun h => by omega)⟩
          subst hand
          go_wp2
          go_ret
          exact HY.out _ HFIN.out HB.out
        · obtain ⟨hand1, hand2⟩ := text_nel (l := [97, 110, 100]) hand
          by_cases hor : t = ⟨#[111, 114]⟩
          · have HFIN : Hid (KindF 23 t n) := Lib.hid ⟨(fun h => by omega), (fun h => by omega), (fun _ => .inr hor), (fun h => by omega), (fun h => by omega), (fun h => by omega), (fun h => by omega)⟩
            subst hor
            go_wp2
            go_ret
            exact HY.out _ HFIN.out HB.out
          · obtain ⟨hor1, hor2⟩ := text_nel (l := [111, 114]) hor
            go_wp2
            go_ret
            exact HF.out _ HB.out
      have k23 : (k == 23) = false := by simpa using h23
      by_cases h35 : k = 35
      · subst h35
        by_cases hn1 : n ≤ 1
        · have HFIN : Hid (KindF 35 t n) := Lib.hid ⟨(fun h => by omega), (fun h => by omega), (fun h => by omega), (fun _ => hn1), (fun h => by omega), (fun h => by omega), (fun h => by omega)⟩
          have hd : decide (n ≤ 1) = true := by simpa using hn1
          go_wp2
          go_ret
          exact HY.out _ HFIN.out HB.out
        · have hd : decide (n ≤ 1) = false := by simpa using hn1
          go_wp2
          go_ret
          exact HF.out _ HB.out
      have k35 : (k == 35) = false := by simpa using h35
      by_cases h52 : k = 52
      · subst h52
        by_cases hn1 : n ≤ 2
        · have HFIN : Hid (KindF 52 t n) := Lib.hid ⟨(fun h => by omega), (fun h => by omega), (fun h => by omega), (fun h => by omega), (fun _ => hn1), (fun h => by omega), (fun h => by omega)⟩
          have hd : decide (n ≤ 2) = true := by simpa using hn1
          go_wp2
          go_ret
          exact HY.out _ HFIN.out HB.out
        · have hd : decide (n ≤ 2) = false := by simpa using hn1
          go_wp2
          go_ret
          exact HF.out _ HB.out
      have k52 : (k == 52) = false := by simpa using h52
      by_cases h40 : k = 40
      · subst h40
        have HW := Lib.hid ((Below.refl wc.heap.size wc).alloc (Nat.le_refl _) (.cells (unitTexts.map Value.string).toArray 9))
        have HA0 : Hid ((wc.alloc (.cells (unitTexts.map Value.string).toArray 9)).heap[wc.heap.size]? = some (.cells (unitTexts.map Value.string).toArray 9 (0, 0))) := Lib.hid (heap_alloc_new wc _)
        have HA1 : Hid ((wc.alloc (.cells (unitTexts.map Value.string).toArray 9)).drew.heap[wc.heap.size]? = some (.cells (unitTexts.map Value.string).toArray 9 (0, 0))) := Lib.hid (heap_alloc_new wc _)
        have hs1 := HX.out.lt
        go_wp2_with fail
        go_region_held3 (fun w' => w'.cell? ⟨w.heap.size, 1, none⟩ = some (.string t)) (first | go_keep | (exact (HW.out.cell (p := ⟨w.heap.size, 1, none⟩) hs1).trans c1)) (first | (go_at_call 80; ((with_reducible refine (plainUnits_any _).mono ?_)); rintro e wA ⟨rfl, rfl⟩) | (go_at_call 78; ((with_reducible refine (hasText_any unitTexts _ t _ (by first | exact HA0.out | exact HA1.out) (by decide)).mono ?_)); rintro e wB ⟨bb, rfl, hbb, rfl⟩))
        all_goals
          cases bb with
          | false =>
            go_wp2
            go_ret
            exact HF.out _ (Below.drew (HB.out.trans (HW.out.mono HB.out.size)))
          | true =>
            have HFIN : Hid (KindF 40 t n) := Lib.hid ⟨(fun h => by omega), (fun h => by omega), (fun h => by omega), (fun h => by omega), (fun h => by omega), (fun _ => hbb rfl), (fun h => by omega)⟩
            go_wp2
            go_ret
            exact HY.out _ HFIN.out (Below.drew (HB.out.trans (HW.out.mono HB.out.size)))
      have k40 : (k == 40) = false := by simpa using h40
      by_cases h33 : k = 33
      · subst h33
        have HN := Lib.hid (name_any t (by have := (HBS.out rfl).2.2.2.1; omega) wc (Utf8Tabs_below HT.out HB.out))
        go_wp2_with fail
        ((with_reducible refine HN.out.mono ?_))
        rintro e w2 ⟨bb, rfl, hbb, hb2⟩
        have HB2 := Lib.hid (HB.out.trans (hb2.mono HB.out.size))
        clear hb2
        cases bb with
        | false =>
          go_wp2
          go_ret
          exact HF.out _ HB2.out
        | true =>
          have HFIN : Hid (KindF 33 t n) := Lib.hid ⟨(fun h => by omega), (fun h => by omega), (fun h => by omega), (fun h => by omega), (fun h => by omega), (fun h => by omega), (fun _ => hbb rfl)⟩
          go_wp2
          go_ret
          exact HY.out _ HFIN.out HB2.out
      have k33 : (k == 33) = false := by simpa using h33
      have HFIN : Hid (KindF k t n) := Lib.hid ⟨(fun h => absurd h h21), (fun h => absurd h h22), (fun h => absurd h h23), (fun h => absurd h h35), (fun h => absurd h h52), (fun h => absurd h h40), (fun h => absurd h h33)⟩
      clear h21 h22 h23 h35 h52 h40 h33
      go_wp2
      go_ret
      exact HY.out _ HFIN.out HB.out

end Go.Proofs.YtkohgndmhgcgeaaGreatDoor
