/- The maker's table of what all nodes have: its location. -/
import Derived.Test.YtdillheepidncaaGreatDoorMakerLoc
namespace Go.Proofs.YtdillheepidncaaGreatDoor
open Go Go.RowKit
set_option linter.unusedVariables false
set_option linter.unusedSimpArgs false

def baseFs : List SlotQ := [⟨⟨0, 4, 0, some locB⟩, 42, TabQ 24 [0, 8, 16] locFs⟩]
def baseB : List UInt8 → List UInt8 × Nat := tableB (baseFs.map SlotQ.s)

theorem base_layout : layout (baseFs.map SlotQ.s) = ([4], 8) := rfl
theorem base_pair : (baseFs.map SlotQ.s).Pairwise (Apart [4]) := by simp [baseFs]
theorem base_refs (f : SlotQ) (hf : f ∈ baseFs) (P : List UInt8 → List UInt8 × Nat) (hP : f.s.ref = some P) : f.s.width = 4 ∧ PartOk P f.sz f.Q := by
  simp [baseFs] at hf
  subst hf
  simp at hP
  subst hP
  exact ⟨rfl, loc_ok⟩
theorem base_all {p : SlotQ → Prop} (h : p ⟨⟨0, 4, 0, some locB⟩, 42, TabQ 24 [0, 8, 16] locFs⟩) : ∀ f ∈ baseFs, p f := by
  intro f hf
  simp [baseFs] at hf
  rw [hf]
  exact h
theorem base_ok : PartOk baseB (12 + 2 * 1 + 8 + szSum baseFs) (TabQ 8 [4] baseFs) :=
  table_ok baseFs [4] 8 base_layout rfl (by decide) (by decide) (by decide) (by decide) (base_all (by decide)) (base_all (by decide)) base_pair base_refs

set_option maxHeartbeats 4000000 in
set_option maxRecDepth 100000 in
theorem base_ref (M : Nat) (base : Bool) (out : List UInt8) (hout : out.length + 64 < 900000000) (w : World) (h : Mk M base out w) :
    Calls Tryz.prog 58 #[.pointer (some ⟨M, 0, none⟩)] w (AtPost M base (baseB out).1 (baseB out).2 w) := by
  have H := Lib.hid h
  have hM := h.lt
  clear h
  go_enter Tryz.func58, Tryz.ntmps58
  go_wp2_with (go_at_call 60; with_reducible refine (locationAt_any 0 _).mono ?_)
  rintro e w2 ⟨rfl, hb12⟩
  have hb3 := hb12.alloc hb12.size (.cells #[.int .i64 0, .int .i64 4, .int .u64 0, .func (.func 104) #[] #[]] 253)
  have hm3 : Mk M base out (w2.alloc (.cells #[.int .i64 0, .int .i64 4, .int .u64 0, .func (.func 104) #[] #[]] 253)) := H.out.below hb3
  have hob : MkOther M w2.heap.size (w2.alloc (.cells #[.int .i64 0, .int .i64 4, .int .u64 0, .func (.func 104) #[] #[]] 253)) := MkAt.newer (H.out.below hb12) (Nat.le_refl _) (((Below.refl _ w2).alloc (Nat.le_refl _) _).cell (p := ⟨M, 0, none⟩) (Nat.lt_of_lt_of_le hM hb12.size))
  have hrow := heap_alloc_new w2 (.cells #[.int .i64 0, .int .i64 4, .int .u64 0, .func (.func 104) #[] #[]] 253)
  have hmv := moves_below hM hb3
  have HT : Hid (Calls Tryz.prog 59 #[.pointer (some ⟨M, 0, none⟩), .slice (some ⟨w2.heap.size, 0, none⟩) 1 1] (w2.alloc (.cells #[.int .i64 0, .int .i64 4, .int .u64 0, .func (.func 104) #[] #[]] 253)) fun e w' => e = .returned (.int .i64 (baseB out).2) ∧ Mk M base (baseB out).1 w' ∧ Moves M w w') := Lib.hid (by
    refine (table_any baseFs [4] 8 base_layout rfl (by decide) (by decide) (by decide) (by decide) (base_all (by decide)) (base_all (by decide)) base_pair base_refs (base_all (by decide)) (base_all (by decide)) (by decide) M base out w2.heap.size 0 1 (fun _ => .func (.func 104) #[] #[]) _ hm3 hob ⟨(Array.getElem?_eq_some_iff.1 hrow).1, fun k hk => ?_⟩ (fun k hk => ?_) (by simp [baseFs, szSum]; omega)).mono ?_
    · have hk2 : k < 1 := hk
      match k, hk2 with
      | 0, _ => refine ⟨?_, ?_, ?_, ?_⟩ <;> (rw [Lib.cell_of_heap hrow]; rfl)
    · have hk2 : k < 1 := hk
      match k, hk2 with
      | 0, _ => exact ⟨_, _, rfl, fun args W => Tryz.call104 args W, fun W o1 _ h1 h2 => locationAt_ref M base o1 h2 W h1⟩
    · rintro e w' ⟨h1, h2, h3⟩
      exact ⟨h1, h2, hmv.trans h3⟩)
  clear hb12 hb3 hm3 hob hrow hmv
  go_wp2_with (go_at_call 59; with_reducible refine HT.out.mono ?_)
  rintro e w4 ⟨rfl, h1, h2⟩
  go_wp2
  go_ret
  exact ⟨rfl, h1, h2⟩

end Go.Proofs.YtdillheepidncaaGreatDoor
