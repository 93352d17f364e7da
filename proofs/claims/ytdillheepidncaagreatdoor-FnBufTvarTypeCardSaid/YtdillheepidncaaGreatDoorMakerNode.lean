/- A node's slots, of the kinds that have one text or one number. -/
import Derived.Test.YtdillheepidncaaGreatDoorMakerLit
import Derived.Test.YtdillheepidncaaGreatDoorClass
namespace Go.Proofs.YtdillheepidncaaGreatDoor
open Go Go.RowKit
set_option linter.unusedVariables false
set_option linter.unusedSimpArgs false

set_option maxHeartbeats 4000000 in
set_option maxRecDepth 100000 in
theorem statement_bad (M : Nat) (base : Bool) (out : List UInt8) (t m : ByteArray) (u : Int) (kids : Value) (hkids : ∃ a n c, kids = .slice a n c) (ht : t.size < 1000000) (w : World) (h : Mk M base out w) :
    Calls Tryz.prog 103 #[.agg #[.int .i64 7, .string t, .string m, .int .u64 u, kids]] w (OneSlot M base (textQ 1 t) w) := by
  obtain ⟨a, n, c, rfl⟩ := hkids
  have H := Lib.hid h
  have hM := h.lt
  have hb0 := (Below.refl w.heap.size w).alloc (Nat.le_refl _) (.cells #[.int .i64 7, .string t, .string m, .int .u64 u, .slice a n c] 25)
  have HB0 := Lib.hid hb0
  clear h hb0
  all_goals
    go_enter Tryz.func103, Tryz.ntmps103
    go_wp2_with (go_at_call 148; with_reducible refine (textAt_any 1 t _).mono ?_)
    rintro e w2 ⟨rfl, hbox, hb2⟩
    have hb12 : Below w.heap.size w w2 := HB0.out.trans (hb2.mono HB0.out.size)
    have hob : OtherAt M _ _ w2 := ⟨hbox, MkAt.newer (w' := w2) (H.out.below HB0.out) (Nat.le_refl _) (hb2.cell (p := ⟨M, 0, none⟩) (Nat.lt_of_lt_of_le hM HB0.out.size))⟩
    have hb3 := Below.refl w2.heap.size w2
    rw [alloc_size] at hob
    go_wp2
    go_ret
    refine ⟨_, _, rfl, heap_alloc_new w2 _, hb12.size, hb12.alloc hb12.size _, text_fnOk 1 ht (hob.go (moves_below (Nat.lt_of_lt_of_le hM hb12.size) (hb3.alloc (Nat.le_refl _) _)))⟩


theorem not_type (k : Int) (hk : ¬ typeB k) {w : World} {e : Ending} {w' : World} (h : YesB (typeB k) w e w') : e = .returned (.bool false) ∧ Below w.heap.size w w' := by
  obtain ⟨b, rfl, hb, hbel⟩ := h
  cases b with
  | true => exact absurd (hb rfl) hk
  | false => exact ⟨rfl, hbel⟩

theorem OneSlot.from {M : Nat} {base : Bool} {q : SlotQ} {w W : World} {e : Ending} {w' : World} (hb : Below w.heap.size w W) (h : OneSlot M base q W e w') : OneSlot M base q w e w' := by
  obtain ⟨B, f, h1, h2, h3, h4, h5⟩ := h
  exact ⟨B, f, h1, h2, Nat.le_trans hb.size h3, hb.trans (h4.mono hb.size), h5⟩

set_option maxHeartbeats 4000000 in
set_option maxRecDepth 100000 in
theorem slots_lit (M : Nat) (base : Bool) (out : List UInt8) (q : SlotQ) (k : Nat) (hk : 33 ≤ k ∧ k < 44) (t m : ByteArray) (u : Int) (kids : Value) (hkids : ∃ a n c, kids = .slice a n c) (w : World) (h : Mk M base out w)
    (hl : ∀ W, Mk M base out W → Calls Tryz.prog 101 #[.agg #[.int .i64 k, .string t, .string m, .int .u64 u, kids]] W (OneSlot M base q W)) :
    Calls Tryz.prog 57 #[.pointer (some ⟨M, 0, none⟩), .agg #[.int .i64 k, .string t, .string m, .int .u64 u, kids]] w (OneSlot M base q w) := by
  obtain ⟨a, n, c, rfl⟩ := hkids
  have hb0 := (Below.refl w.heap.size w).alloc (Nat.le_refl _) (.cells #[.int .i64 (k : Int), .string t, .string m, .int .u64 u, .slice a n c] 25)
  have hrow := heap_alloc_new w (.cells #[.int .i64 (k : Int), .string t, .string m, .int .u64 u, .slice a n c] 25)
  have HB0 := Lib.hid hb0
  have HR0 := Lib.hid hrow
  have HM0 := Lib.hid (h.below hb0)
  have HL := Lib.hid hl
  have HNT : Hid (¬ typeB (k : Int)) := Lib.hid (by unfold typeB; omega)
  obtain ⟨hk1, hk2⟩ := hk
  have g44 : decide ((44 : Int) ≤ k) = false := by simp; omega
  have g33 : decide ((33 : Int) ≤ k) = true := by simp; omega
  clear h hb0 hrow hl
  go_enter Tryz.func57, Tryz.ntmps57
  go_wp2_with (go_at_call 99; with_reducible refine (isType_any k _).mono ?_)
  intro e w2 hy
  obtain ⟨rfl, hb2⟩ := not_type _ HNT.out hy
  have hr2 := (hb2.block w.heap.size (Array.getElem?_eq_some_iff.1 HR0.out).1).trans HR0.out
  have hb12 : Below w.heap.size w w2 := HB0.out.trans (hb2.mono HB0.out.size)
  have c0 : w2.cell? ⟨w.heap.size, 0, none⟩ = some (.int .i64 k) := by rw [Lib.cell_of_heap hr2]; rfl
  have c1 : w2.cell? ⟨w.heap.size, 1, none⟩ = some (.string t) := by rw [Lib.cell_of_heap hr2]; rfl
  have c2 : w2.cell? ⟨w.heap.size, 2, none⟩ = some (.string m) := by rw [Lib.cell_of_heap hr2]; rfl
  have c3 : w2.cell? ⟨w.heap.size, 3, none⟩ = some (.int .u64 u) := by rw [Lib.cell_of_heap hr2]; rfl
  have c4 : w2.cell? ⟨w.heap.size, 4, none⟩ = some (.slice a n c) := by rw [Lib.cell_of_heap hr2]; rfl
  have HLW := Lib.hid (HL.out w2 (HM0.out.below hb2))
  clear hy hb2 hr2
  go_wp2_with (go_at_call 101; with_reducible refine HLW.out.mono ?_)
  intro e w3 h3
  obtain ⟨B, f, rfl, h4⟩ := h3
  go_wp2
  go_ret
  exact OneSlot.from hb12 ⟨B, f, rfl, h4⟩

set_option maxHeartbeats 4000000 in
set_option maxRecDepth 100000 in
theorem slots_bad (M : Nat) (base : Bool) (out : List UInt8) (q : SlotQ) (t m : ByteArray) (u : Int) (kids : Value) (hkids : ∃ a n c, kids = .slice a n c) (w : World) (h : Mk M base out w)
    (hl : ∀ W, Mk M base out W → Calls Tryz.prog 103 #[.agg #[.int .i64 7, .string t, .string m, .int .u64 u, kids]] W (OneSlot M base q W)) :
    Calls Tryz.prog 57 #[.pointer (some ⟨M, 0, none⟩), .agg #[.int .i64 7, .string t, .string m, .int .u64 u, kids]] w (OneSlot M base q w) := by
  obtain ⟨a, n, c, rfl⟩ := hkids
  have hb0 := (Below.refl w.heap.size w).alloc (Nat.le_refl _) (.cells #[.int .i64 7, .string t, .string m, .int .u64 u, .slice a n c] 25)
  have hrow := heap_alloc_new w (.cells #[.int .i64 7, .string t, .string m, .int .u64 u, .slice a n c] 25)
  have HB0 := Lib.hid hb0
  have HR0 := Lib.hid hrow
  have HM0 := Lib.hid (h.below hb0)
  have HL := Lib.hid hl
  have HNT : Hid (¬ typeB 7) := Lib.hid (by unfold typeB; omega)
  clear h hb0 hrow hl
  go_enter Tryz.func57, Tryz.ntmps57
  go_wp2_with (go_at_call 99; with_reducible refine (isType_any 7 _).mono ?_)
  intro e w2 hy
  obtain ⟨rfl, hb2⟩ := not_type _ HNT.out hy
  have hr2 := (hb2.block w.heap.size (Array.getElem?_eq_some_iff.1 HR0.out).1).trans HR0.out
  have hb12 : Below w.heap.size w w2 := HB0.out.trans (hb2.mono HB0.out.size)
  have c0 : w2.cell? ⟨w.heap.size, 0, none⟩ = some (.int .i64 7) := by rw [Lib.cell_of_heap hr2]; rfl
  have c1 : w2.cell? ⟨w.heap.size, 1, none⟩ = some (.string t) := by rw [Lib.cell_of_heap hr2]; rfl
  have c2 : w2.cell? ⟨w.heap.size, 2, none⟩ = some (.string m) := by rw [Lib.cell_of_heap hr2]; rfl
  have c3 : w2.cell? ⟨w.heap.size, 3, none⟩ = some (.int .u64 u) := by rw [Lib.cell_of_heap hr2]; rfl
  have c4 : w2.cell? ⟨w.heap.size, 4, none⟩ = some (.slice a n c) := by rw [Lib.cell_of_heap hr2]; rfl
  have HLW := Lib.hid (HL.out w2 (HM0.out.below hb2))
  clear hy hb2 hr2
  go_wp2_with (go_at_call 103; with_reducible refine HLW.out.mono ?_)
  intro e w3 h3
  obtain ⟨B, f, rfl, h4⟩ := h3
  go_wp2
  go_ret
  exact OneSlot.from hb12 ⟨B, f, rfl, h4⟩

end Go.Proofs.YtdillheepidncaaGreatDoor
