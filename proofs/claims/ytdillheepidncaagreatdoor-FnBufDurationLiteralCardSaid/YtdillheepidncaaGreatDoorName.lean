/- spec.Name: that it answers, and that the empty text is none. -/
import Derived.Test.YtdillheepidncaaGreatDoorPlain
namespace Go.Proofs.YtdillheepidncaaGreatDoor
open Go Go.RowKit
set_option linter.unusedVariables false

set_option maxRecDepth 100000 in
set_option maxHeartbeats 2000000 in
/-- spec.Name answers for whatever is short; the empty text is none. -/
theorem name_any (s : ByteArray) (hs : s.size ≤ 2147483647) (w : World) (hT : Lib.Utf8Tabs 1 2 w) :
    Calls Tryz.prog 122 #[.string s] w (YesB (s ≠ ⟨#[]⟩) w) := by
  have HF : Hid (∀ e w', e = .returned (.bool false) → Below w.heap.size w w' → YesB (s ≠ ⟨#[]⟩) w e w') := Lib.hid fun e w' h h' => ⟨false, h, (fun h => by cases h), h'⟩
  have HT := Lib.hid hT
  clear hT
  go_enter Tryz.func122, Tryz.ntmps122
  go_wp2
  go_loopw [4] (fun _ wr => ∃ k : Nat, k ≤ s.size ∧ wr.heap[w.heap.size]? = some (.cells #[.string s, .int .i64 k] 379 (0, 0)) ∧ Below w.heap.size w wr) (fun _ wr => match wr.cell? ⟨w.heap.size, 1, none⟩ with | some v => s.size - (intOf v).toNat | none => 0)
  case atStart => exact ⟨0, Nat.zero_le _, heap_alloc_new w _, (Below.refl _ w).alloc (Nat.le_refl _) _⟩
  case round =>
    obtain ⟨k, hk, hrow, hb⟩ := hrel
    have c0 : wr.cell? ⟨w.heap.size, 0, none⟩ = some (.string s) := by rw [Lib.cell_of_heap hrow]; rfl
    have c1 : wr.cell? ⟨w.heap.size, 1, none⟩ = some (.int .i64 k) := by rw [Lib.cell_of_heap hrow]; rfl
    have HR := Lib.hid hrow
    have HB := Lib.hid hb
    clear hrow hb
    by_cases hlt : k < s.size
    · have HL := Lib.hid (letter_any w.heap.size k s wr (Utf8Tabs_below HT.out HB.out) c0 hlt)
      go_wp2_with fail
      ((with_reducible refine HL.out.mono ?_))
      rintro e w1 ⟨n, rfl, hn4, hns, hb1⟩
      have hrow1 := (hb1.block _ (Array.getElem?_eq_some_iff.1 HR.out).1).trans HR.out
      have hB1 := HB.out.trans (hb1.mono HB.out.size)
      have d0 : w1.cell? ⟨w.heap.size, 0, none⟩ = some (.string s) := by rw [Lib.cell_of_heap hrow1]; rfl
      have d1 : w1.cell? ⟨w.heap.size, 1, none⟩ = some (.int .i64 k) := by rw [Lib.cell_of_heap hrow1]; rfl
      have d2 : w1.frozen? ⟨w.heap.size, 1, none⟩ = false := Lib.frozen_of_heap hrow1 1
      have HR1 := Lib.hid hrow1
      have HB1 := Lib.hid hB1
      clear hrow1 hB1 c0 hb1
      have hput : ∀ m : Nat, (w1.setCell ⟨w.heap.size, 1, none⟩ (.int .i64 m)).heap[w.heap.size]? = some (.cells #[.string s, .int .i64 m] 379 (0, 0)) := fun m => by
        have h1 := HR1.out
        simp [World.setCell, Array.getElem?_modify, h1]
      have hbel : ∀ m : Nat, Below w.heap.size w (w1.setCell ⟨w.heap.size, 1, none⟩ (.int .i64 m)) := fun m => HB1.out.setCell (p := ⟨w.heap.size, 1, none⟩) (Nat.le_refl _) _
      have HP := Lib.hid hput
      have HBl := Lib.hid hbel
      clear hput hbel
      by_cases hn : n = 0
      · subst hn
        by_cases hk0 : k = 0
        · subst hk0
          go_wp2
          go_ret
          exact HF.out _ _ rfl HB1.out
        · have hk0' : ((k : Int) == 0) = false := by simp; omega
          have HD := Lib.hid (digit_some w.heap.size k s w1 d0 hlt)
          go_wp2_with fail
          ((with_reducible refine HD.out.mono ?_))
          rintro e w2 ⟨bb, rfl, rfl⟩
          cases bb with
          | false =>
            go_wp2
            go_ret
            exact HF.out _ _ rfl HB1.out
          | true =>
            have e0 : (w2.setCell ⟨w.heap.size, 1, none⟩ (.int .i64 ((k : Int) + 1))).cell? ⟨w.heap.size, 1, none⟩ = some (.int .i64 ((k : Int) + 1)) := by
              have h1 := HP.out (k + 1)
              rw [show (((k + 1 : Nat) : Int)) = (k : Int) + 1 by omega] at h1
              rw [Lib.cell_of_heap h1]; rfl
            go_wp2
            go_roundw
            case rel => exact ⟨k + 1, by omega, HP.out (k + 1), HBl.out (k + 1)⟩
            case measure => rw [show max (0 : Int) 1 = 1 from rfl, e0, c1]; simp [intOf]; omega
      · have hn' : ((n : Int) == 0) = false := by simp; omega
        have hmx : ¬ (1 : Int) > n := by omega
        have e0 : (w1.setCell ⟨w.heap.size, 1, none⟩ (.int .i64 ((k : Int) + n))).cell? ⟨w.heap.size, 1, none⟩ = some (.int .i64 ((k : Int) + n)) := by
          have h1 := HP.out (k + n)
          rw [show (((k + n : Nat) : Int)) = (k : Int) + n by omega] at h1
          rw [Lib.cell_of_heap h1]; rfl
        go_wp2
        go_roundw
        case rel => rw [show max (n : Int) 1 = n by omega]; exact ⟨k + n, by omega, by simpa using HP.out (k + n), by simpa using HBl.out (k + n)⟩
        case measure => rw [show max (n : Int) 1 = n by omega, e0, c1]; simp [intOf]; omega
    · by_cases he : s = ⟨#[]⟩
      · subst he
        go_wp2
        go_ret
        exact HF.out _ _ rfl HB.out
      · have hne := text_ne he
        have hne2 : s.toList.isEmpty = false := by
          cases h : s.toList with
          | nil => rw [h, ByteArray.toList_eq] at hne; simp at hne
          | cons _ _ => rfl
        have HE : Hid (∀ b w', Below w.heap.size w w' → YesB (s ≠ ⟨#[]⟩) w (.returned (.bool b)) w') := Lib.hid fun b w' h => ⟨b, rfl, fun _ => he, h⟩
        have HK := Lib.hid (keyword_any s wr)
        clear he hne
        go_wp2_with fail
        ((with_reducible refine HK.out.mono ?_))
        rintro e w1 ⟨bb, rfl, rfl⟩
        cases bb with
        | true =>
          go_wp2
          go_ret
          exact HE.out _ _ HB.out
        | false =>
          go_wp2
          all_goals (go_ret; exact HE.out _ _ HB.out)

end Go.Proofs.YtdillheepidncaaGreatDoor
