/- The maker's location: a table of two numbers. -/
import Derived.Test.YtdillheepidncaaGreatDoorMakerSlots
namespace Go.Proofs.YtdillheepidncaaGreatDoor
open Go Go.RowKit
set_option linter.unusedVariables false
set_option linter.unusedSimpArgs false

def numQ (i wd u : Nat) : SlotQ := ⟨⟨i, wd, u, none⟩, 0, fun _ _ => True⟩
def locFs : List SlotQ := [numQ 1 8 0, numQ 2 8 0]
def locB : List UInt8 → List UInt8 × Nat := tableB (locFs.map SlotQ.s)

theorem loc_layout : layout (locFs.map SlotQ.s) = ([0, 8, 16], 24) := by decide
theorem loc_ok : PartOk locB (12 + 2 * 3 + 24 + 0) (TabQ 24 [0, 8, 16] locFs) :=
  table_ok locFs [0, 8, 16] 24 loc_layout rfl (by decide) (by decide) (by decide) (by decide) (by decide) (by decide) (by
    simp only [locFs, List.map_cons, List.map_nil, List.pairwise_cons]
    refine ⟨fun b hb => ?_, ⟨fun b hb => by simp at hb, List.Pairwise.nil⟩⟩
    simp at hb
    subst hb
    left
    decide) (fun f hf P hP => by
    simp [locFs, numQ] at hf
    rcases hf with rfl | rfl <;> cases hP)

theorem loc_pair : (locFs.map SlotQ.s).Pairwise (Apart [0, 8, 16]) := by
  simp only [locFs, List.map_cons, List.map_nil, List.pairwise_cons]
  refine ⟨fun b hb => ?_, ⟨fun b hb => by simp at hb, List.Pairwise.nil⟩⟩
  simp at hb
  subst hb
  left
  decide

theorem loc_none (f : SlotQ) (hf : f ∈ locFs) (P : List UInt8 → List UInt8 × Nat) (hP : f.s.ref = some P) : f.s.width = 4 ∧ PartOk P f.sz f.Q := by
  simp [locFs, numQ] at hf
  rcases hf with rfl | rfl <;> cases hP

/-- Slots in a block of their own, made at last. -/
theorem moves_below {M : Nat} {w w' : World} (hM : M < w.heap.size) (hb : Below w.heap.size w w') : Moves M w w' := (Moves.refl M w).below hb hM

set_option maxHeartbeats 4000000 in
set_option maxRecDepth 100000 in
theorem locationAt_ref (M : Nat) (base : Bool) (out : List UInt8) (hout : out.length + 42 < 900000000) (w : World) (h : Mk M base out w) :
    Calls Tryz.prog 104 #[.pointer (some ⟨M, 0, none⟩)] w (AtPost M base (locB out).1 (locB out).2 w) := by
  have H := Lib.hid h
  have hM := h.lt
  clear h
  go_enter Tryz.func104, Tryz.ntmps104
  go_wp2_with (go_at_call 105; with_reducible refine (number_any 1 8 0 _).mono ?_)
  rintro e w1 ⟨rfl, hb1⟩
  go_wp2_with (go_at_call 105; with_reducible refine (number_any 2 8 0 _).mono ?_)
  rintro e w2 ⟨rfl, hb2⟩
  have hb12 : Below w.heap.size w w2 := hb1.trans (hb2.mono hb1.size)
  have hb3 := hb12.alloc hb12.size (.cells #[.int .i64 1, .int .i64 8, .int .u64 0, .nilFunc, .int .i64 2, .int .i64 8, .int .u64 0, .nilFunc] 253)
  have hm3 : Mk M base out (w2.alloc (.cells #[.int .i64 1, .int .i64 8, .int .u64 0, .nilFunc, .int .i64 2, .int .i64 8, .int .u64 0, .nilFunc] 253)) := H.out.below hb3
  have hob : MkOther M w2.heap.size (w2.alloc (.cells #[.int .i64 1, .int .i64 8, .int .u64 0, .nilFunc, .int .i64 2, .int .i64 8, .int .u64 0, .nilFunc] 253)) := MkAt.newer (H.out.below hb12) (Nat.le_refl _) (((Below.refl _ w2).alloc (Nat.le_refl _) _).cell (p := ⟨M, 0, none⟩) (Nat.lt_of_lt_of_le hM hb12.size))
  have hrow := heap_alloc_new w2 (.cells #[.int .i64 1, .int .i64 8, .int .u64 0, .nilFunc, .int .i64 2, .int .i64 8, .int .u64 0, .nilFunc] 253)
  have hmv := moves_below hM hb3
  have HT : Hid (Calls Tryz.prog 59 #[.pointer (some ⟨M, 0, none⟩), .slice (some ⟨w2.heap.size, 0, none⟩) 2 2] (w2.alloc (.cells #[.int .i64 1, .int .i64 8, .int .u64 0, .nilFunc, .int .i64 2, .int .i64 8, .int .u64 0, .nilFunc] 253)) fun e w' => e = .returned (.int .i64 (locB out).2) ∧ Mk M base (locB out).1 w' ∧ Moves M w w') := Lib.hid (by
    refine (table_any locFs [0, 8, 16] 24 loc_layout rfl (by decide) (by decide) (by decide) (by decide) (by decide) (by decide) loc_pair loc_none (by decide) (by decide) (by decide) M base out w2.heap.size 0 2 (fun _ => .nilFunc) _ hm3 hob ⟨(Array.getElem?_eq_some_iff.1 hrow).1, fun k hk => ?_⟩ (fun k hk => ?_) (by simp [locFs, numQ, szSum]; omega)).mono ?_
    · have hk2 : k < 2 := hk
      match k, hk2 with
      | 0, _ => refine ⟨?_, ?_, ?_, ?_⟩ <;> (rw [Lib.cell_of_heap hrow]; rfl)
      | 1, _ => refine ⟨?_, ?_, ?_, ?_⟩ <;> (rw [Lib.cell_of_heap hrow]; rfl)
    · have hk2 : k < 2 := hk
      match k, hk2 with
      | 0, _ => rfl
      | 1, _ => rfl
    · rintro e w' ⟨h1, h2, h3⟩
      exact ⟨h1, h2, hmv.trans h3⟩)
  clear hb1 hb2 hb12 hb3 hm3 hob hrow hmv
  go_wp2_with (go_at_call 59; with_reducible refine HT.out.mono ?_)
  rintro e w4 ⟨rfl, h1, h2⟩
  go_wp2
  go_ret
  exact ⟨rfl, h1, h2⟩

end Go.Proofs.YtdillheepidncaaGreatDoor
