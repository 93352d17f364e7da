/- Slots of literals: one text, or one number. -/
import Derived.Test.YtdillheepidncaaGreatDoorMakerBase
namespace Go.Proofs.YtdillheepidncaaGreatDoor
open Go Go.RowKit
set_option linter.unusedVariables false
set_option linter.unusedSimpArgs false

def textQ (i : Nat) (s : ByteArray) : SlotQ := ⟨⟨i, 4, 0, some (textB s.data.toList)⟩, s.size + 9, TextAt s.data.toList⟩

/-- One slot, in a new block. -/
def OneSlot (M : Nat) (base : Bool) (q : SlotQ) (w : World) (e : Ending) (w' : World) : Prop :=
  ∃ B f, e = .returned (.slice (some ⟨B, 0, none⟩) 1 1) ∧ w'.heap[B]? = some (.cells #[.int .i64 q.s.idx, .int .i64 q.s.width, .int .u64 q.s.num, f] 253 (0, 0)) ∧ w.heap.size ≤ B ∧ Below w.heap.size w w' ∧ FnOk M base w' f q.s q.sz

theorem text_fnOk {M : Nat} {base : Bool} {w' : World} {b : Nat} {s : ByteArray} (i : Nat) (hs : s.size < 1000000) (h : OtherAt M b (.cells #[.string s] 9 (0, 0)) w') : FnOk M base w' (.func (.func 174) #[] #[.pointer (some ⟨b, 0, none⟩)]) (textQ i s).s (textQ i s).sz :=
  ⟨_, _, rfl, fun args W => Tryz.call174 args W, fun W o1 hm h1 h2 => textAt_ref M b base o1 s hs (by omega) W h1 (h.go hm).1⟩

set_option maxHeartbeats 4000000 in
set_option maxRecDepth 100000 in
theorem literal_text (M : Nat) (base : Bool) (out : List UInt8) (k : Int) (hk : k = 33 ∨ k = 34 ∨ k = 42) (t m : ByteArray) (u : Int) (kids : Value) (hkids : ∃ a n c, kids = .slice a n c) (ht : t.size < 1000000) (w : World) (h : Mk M base out w) :
    Calls Tryz.prog 101 #[.agg #[.int .i64 k, .string t, .string m, .int .u64 u, kids]] w (OneSlot M base (textQ 1 t) w) := by
  obtain ⟨a, n, c, rfl⟩ := hkids
  have H := Lib.hid h
  have hM := h.lt
  have hb0 := (Below.refl w.heap.size w).alloc (Nat.le_refl _) (.cells #[.int .i64 k, .string t, .string m, .int .u64 u, .slice a n c] 25)
  have HB0 := Lib.hid hb0
  clear h hb0
  rcases hk with rfl | rfl | rfl
  all_goals
    go_enter Tryz.func101, Tryz.ntmps101
    go_wp2_with (go_at_call 148; with_reducible refine (textAt_any 1 t _).mono ?_)
    rintro e w2 ⟨rfl, hbox, hb2⟩
    have hb12 : Below w.heap.size w w2 := HB0.out.trans (hb2.mono HB0.out.size)
    have hob : OtherAt M _ _ w2 := ⟨hbox, MkAt.newer (w' := w2) (H.out.below HB0.out) (Nat.le_refl _) (hb2.cell (p := ⟨M, 0, none⟩) (Nat.lt_of_lt_of_le hM HB0.out.size))⟩
    have hb3 := Below.refl w2.heap.size w2
    rw [alloc_size] at hob
    go_wp2
    go_ret
    refine ⟨_, _, rfl, heap_alloc_new w2 _, hb12.size, hb12.alloc hb12.size _, text_fnOk 1 ht (hob.go (moves_below (Nat.lt_of_lt_of_le hM hb12.size) (hb3.alloc (Nat.le_refl _) _)))⟩

/-- A number's slot. -/
theorem num_fnOk {M : Nat} {base : Bool} {w' : World} (i wd u : Nat) : FnOk M base w' .nilFunc (numQ i wd u).s (numQ i wd u).sz := rfl

set_option maxHeartbeats 4000000 in
set_option maxRecDepth 100000 in
theorem literal_num (M : Nat) (base : Bool) (out : List UInt8) (k : Int) (hk : k = 36 ∨ k = 37 ∨ k = 38) (t m : ByteArray) (u : Nat) (kids : Value) (hkids : ∃ a n c, kids = .slice a n c) (w : World) (h : Mk M base out w) :
    Calls Tryz.prog 101 #[.agg #[.int .i64 k, .string t, .string m, .int .u64 u, kids]] w (OneSlot M base (numQ 1 8 u) w) := by
  obtain ⟨a, n, c, rfl⟩ := hkids
  have hb0 := (Below.refl w.heap.size w).alloc (Nat.le_refl _) (.cells #[.int .i64 k, .string t, .string m, .int .u64 (u : Int), .slice a n c] 25)
  have HB0 := Lib.hid hb0
  clear h hb0
  rcases hk with rfl | rfl | rfl
  all_goals
    go_enter Tryz.func101, Tryz.ntmps101
    go_wp2_with (go_at_call 105; with_reducible refine (number_any 1 8 u _).mono ?_)
    rintro e w2 ⟨rfl, hb2⟩
    have hb12 : Below w.heap.size w w2 := HB0.out.trans (hb2.mono HB0.out.size)
    go_wp2
    go_ret
    exact ⟨_, _, rfl, heap_alloc_new w2 _, hb12.size, hb12.alloc hb12.size _, num_fnOk 1 8 u⟩

end Go.Proofs.YtdillheepidncaaGreatDoor
