/- impl.node over types of one identifier. -/
import Derived.Test.YtgceklahjdbipaaGreatDoorNodeLeaf
import Derived.Test.YtgceklahjdbipaaGreatDoorGet
import Derived.Below
namespace Go.Proofs.YtgceklahjdbipaaGreatDoor
open Go Go.RowKit
set_option linter.unusedVariables false
set_option linter.unusedSimpArgs false

set_option maxHeartbeats 4000000 in
set_option maxRecDepth 100000 in
theorem orNoneIdentifier_some (r : Nat) (t : ByteArray) (w : World) (h : w.heap[r]? = some (.cells #[.pointer none, .slice none 0 0, .slice none 0 0, .string t] 105 (0, 0))) :
    Calls Tryz.prog 38 #[.pointer (some ⟨r, 0, none⟩)] w fun e w' => e = .returned (.agg #[.int .i64 33, .string t, .string ⟨#[]⟩, .int .u64 0, .slice none 0 0]) ∧ Below w.heap.size w w' := by
  have hb0 := (Below.refl w.heap.size w).alloc (Nat.le_refl _) (.cells #[.int .i64 0, .string ⟨#[]⟩, .string ⟨#[]⟩, .int .u64 0, .slice none 0 0] 25)
  have hr0 := heap_alloc_new w (.cells #[.int .i64 0, .string ⟨#[]⟩, .string ⟨#[]⟩, .int .u64 0, .slice none 0 0] 25)
  have HD := Lib.hid (nodeIdentifier r t _ ((hb0.block r (Array.getElem?_eq_some_iff.1 h).1).trans h))
  have HB0 := Lib.hid hb0
  have HR0 := Lib.hid hr0
  clear h hb0 hr0
  go_enter Tryz.func38, Tryz.ntmps38
  go_wp2_with fail
  ((with_reducible refine HD.out.mono ?_))
  rintro e w1 ⟨rfl, hb1⟩
  have hr1 : w1.heap[w.heap.size]? = some (.cells #[.int .i64 0, .string ⟨#[]⟩, .string ⟨#[]⟩, .int .u64 0, .slice none 0 0] 25 (0, 0)) := (hb1.block _ (Array.getElem?_eq_some_iff.1 HR0.out).1).trans HR0.out
  have z0 : w1.cell? ⟨w.heap.size, 0, none⟩ = some (.int .i64 0) := by rw [Lib.cell_of_heap hr1]; rfl
  have z1 : w1.cell? ⟨w.heap.size, 1, none⟩ = some (.string ⟨#[]⟩) := by rw [Lib.cell_of_heap hr1]; rfl
  have z2 : w1.cell? ⟨w.heap.size, 2, none⟩ = some (.string ⟨#[]⟩) := by rw [Lib.cell_of_heap hr1]; rfl
  have z3 : w1.cell? ⟨w.heap.size, 3, none⟩ = some (.int .u64 0) := by rw [Lib.cell_of_heap hr1]; rfl
  have z4 : w1.cell? ⟨w.heap.size, 4, none⟩ = some (.slice none 0 0) := by rw [Lib.cell_of_heap hr1]; rfl
  have y0 := Lib.frozen_of_heap hr1 0
  have y1 := Lib.frozen_of_heap hr1 1
  have y2 := Lib.frozen_of_heap hr1 2
  have y3 := Lib.frozen_of_heap hr1 3
  have y4 := Lib.frozen_of_heap hr1 4
  have HB1 := Lib.hid (HB0.out.trans (hb1.mono HB0.out.size))
  have HR1 := Lib.hid hr1
  clear hb1 hr1
  go_wp2
  have u0 := row_setG (row_setG (row_setG (row_setG (row_setG HR1.out 0 (.int .i64 33)) 1 (.string t)) 2 (.string ⟨#[]⟩)) 3 (.int .u64 0)) 4 (.slice none 0 0)
  have u1 := ((((HB1.out.setCell (p := ⟨w.heap.size, 0, none⟩) (Nat.le_refl _) (.int .i64 33)).setCell (p := ⟨w.heap.size, 1, none⟩) (Nat.le_refl _) (.string t)).setCell (p := ⟨w.heap.size, 2, none⟩) (Nat.le_refl _) (.string ⟨#[]⟩)).setCell (p := ⟨w.heap.size, 3, none⟩) (Nat.le_refl _) (.int .u64 0)).setCell (p := ⟨w.heap.size, 4, none⟩) (Nat.le_refl _) (.slice none 0 0)
  generalize ((((w1.setCell ⟨w.heap.size, 0, none⟩ (.int .i64 33)).setCell ⟨w.heap.size, 1, none⟩ (.string t)).setCell ⟨w.heap.size, 2, none⟩ (.string ⟨#[]⟩)).setCell ⟨w.heap.size, 3, none⟩ (.int .u64 0)).setCell ⟨w.heap.size, 4, none⟩ (.slice none 0 0) = F at *
  have q0 : F.cell? ⟨w.heap.size, 0, none⟩ = some (.int .i64 33) := by rw [Lib.cell_of_heap u0]; rfl
  have q1 : F.cell? ⟨w.heap.size, 1, none⟩ = some (.string t) := by rw [Lib.cell_of_heap u0]; rfl
  have q2 : F.cell? ⟨w.heap.size, 2, none⟩ = some (.string ⟨#[]⟩) := by rw [Lib.cell_of_heap u0]; rfl
  have q3 : F.cell? ⟨w.heap.size, 3, none⟩ = some (.int .u64 0) := by rw [Lib.cell_of_heap u0]; rfl
  have q4 : F.cell? ⟨w.heap.size, 4, none⟩ = some (.slice none 0 0) := by rw [Lib.cell_of_heap u0]; rfl
  refine bodyPost_ret (v := .agg #[.int .i64 33, .string t, .string ⟨#[]⟩, .int .u64 0, .slice none 0 0]) (by simp [results, Tryz.results38, go_sem, q0, q1, q2, q3, q4]) rfl ⟨rfl, u1⟩


/-- A type of one identifier, as a plain node. -/
def KidPost (k : Int) (t : ByteArray) (w : World) (e : Ending) (w' : World) : Prop :=
  ∃ g, e = .returned (.agg #[.int .i64 k, .string ⟨#[]⟩, .string ⟨#[]⟩, .int .u64 0, .slice (some ⟨g, 0, none⟩) 1 1]) ∧ w.heap.size ≤ g ∧ w'.heap[g]? = some (.cells #[.int .i64 33, .string t, .string ⟨#[]⟩, .int .u64 0, .slice none 0 0] 25 (0, 0)) ∧ Below w.heap.size w w'


set_option maxHeartbeats 8000000 in
set_option maxRecDepth 100000 in
theorem typeNodeTvarType (r g : Nat) (t : ByteArray) (w : World) (h : w.heap[r]? = some (.cells #[.pointer none, .slice none 0 0, .slice none 0 0, .pointer (some ⟨g, 0, none⟩)] 307 (0, 0)))
    (hg : w.heap[g]? = some (.cells #[.pointer none, .slice none 0 0, .slice none 0 0, .string t] 105 (0, 0))) :
    Calls Tryz.prog 54 #[.iface 306 (.pointer (some ⟨r, 0, none⟩))] w (KidPost 46 t w) := by
  have q0 : ∀ W, (Instr.typeAssert (.iface 306 (.pointer (some ⟨r, 0, none⟩))) 83 73 true).run Tryz.prog W = .ok (.tuple #[.pointer none, .bool false]) W := run_assert_other _ _ _ _ _ _ Tryz.underlying73 (by decide) (by kernel_rfl)
  have q1 : ∀ W, (Instr.typeAssert (.iface 306 (.pointer (some ⟨r, 0, none⟩))) 83 303 true).run Tryz.prog W = .ok (.tuple #[.pointer none, .bool false]) W := run_assert_other _ _ _ _ _ _ Tryz.underlying303 (by decide) (by kernel_rfl)
  have q2 : ∀ W, (Instr.typeAssert (.iface 306 (.pointer (some ⟨r, 0, none⟩))) 83 306 true).run Tryz.prog W = .ok (.tuple #[.pointer (some ⟨r, 0, none⟩), .bool true]) W := run_assert_same _ _ _ _ Tryz.underlying306
  have hb0 := (Below.refl w.heap.size w).alloc (Nat.le_refl _) (.cells #[.int .i64 0, .string ⟨#[]⟩, .string ⟨#[]⟩, .int .u64 0, .slice none 0 0] 25)
  have c3 : w.cell? ⟨r, 3, none⟩ = some (.pointer (some ⟨g, 0, none⟩)) := by rw [Lib.cell_of_heap h]; rfl
  have hr : r < w.heap.size := (Array.getElem?_eq_some_iff.1 h).1
  have hr0 := heap_alloc_new w (.cells #[.int .i64 0, .string ⟨#[]⟩, .string ⟨#[]⟩, .int .u64 0, .slice none 0 0] 25)
  have HO := Lib.hid (orNoneIdentifier_some g t _ ((hb0.block g (Array.getElem?_eq_some_iff.1 hg).1).trans hg))
  have HB0 := Lib.hid hb0
  have HR0 := Lib.hid hr0
  clear h hg hb0 hr0
  go_enter Tryz.func54, Tryz.ntmps54
  go_wp2_with fail
  ((with_reducible refine HO.out.mono ?_))
  rintro e w1 ⟨rfl, hb1⟩
  have HB1 := Lib.hid (HB0.out.trans (hb1.mono HB0.out.size))
  have hr1 : w1.heap[w.heap.size]? = some (.cells #[.int .i64 0, .string ⟨#[]⟩, .string ⟨#[]⟩, .int .u64 0, .slice none 0 0] 25 (0, 0)) := (hb1.block _ (Array.getElem?_eq_some_iff.1 HR0.out).1).trans HR0.out
  have hlt1 := (Array.getElem?_eq_some_iff.1 hr1).1
  clear hb1
  have z0 : w1.cell? ⟨w.heap.size, 0, none⟩ = some (.int .i64 0) := by rw [Lib.cell_of_heap hr1]; rfl
  have z1 : w1.cell? ⟨w.heap.size, 1, none⟩ = some (.string ⟨#[]⟩) := by rw [Lib.cell_of_heap hr1]; rfl
  have z2 : w1.cell? ⟨w.heap.size, 2, none⟩ = some (.string ⟨#[]⟩) := by rw [Lib.cell_of_heap hr1]; rfl
  have z3 : w1.cell? ⟨w.heap.size, 3, none⟩ = some (.int .u64 0) := by rw [Lib.cell_of_heap hr1]; rfl
  have z4 : w1.cell? ⟨w.heap.size, 4, none⟩ = some (.slice none 0 0) := by rw [Lib.cell_of_heap hr1]; rfl
  have y0 := Lib.frozen_of_heap hr1 0
  have y1 := Lib.frozen_of_heap hr1 1
  have y2 := Lib.frozen_of_heap hr1 2
  have y3 := Lib.frozen_of_heap hr1 3
  have y4 := Lib.frozen_of_heap hr1 4
  have HR1 := Lib.hid hr1
  clear hr1
  go_wp2
  have u0 := row_setG (row_setG (row_setG (row_setG (row_setG HR1.out 0 (.int .i64 46)) 1 (.string ⟨#[]⟩)) 2 (.string ⟨#[]⟩)) 3 (.int .u64 0)) 4 (.slice (some ⟨w1.heap.size, 0, none⟩) 1 1)
  have u1 := ((((HB1.out.setCell (p := ⟨w.heap.size, 0, none⟩) (Nat.le_refl _) (.int .i64 46)).setCell (p := ⟨w.heap.size, 1, none⟩) (Nat.le_refl _) (.string ⟨#[]⟩)).setCell (p := ⟨w.heap.size, 2, none⟩) (Nat.le_refl _) (.string ⟨#[]⟩)).setCell (p := ⟨w.heap.size, 3, none⟩) (Nat.le_refl _) (.int .u64 0)).setCell (p := ⟨w.heap.size, 4, none⟩) (Nat.le_refl _) (.slice (some ⟨w1.heap.size, 0, none⟩) 1 1)
  have u2 : (((((w1.setCell ⟨w.heap.size, 0, none⟩ (.int .i64 46)).setCell ⟨w.heap.size, 1, none⟩ (.string ⟨#[]⟩)).setCell ⟨w.heap.size, 2, none⟩ (.string ⟨#[]⟩)).setCell ⟨w.heap.size, 3, none⟩ (.int .u64 0)).setCell ⟨w.heap.size, 4, none⟩ (.slice (some ⟨w1.heap.size, 0, none⟩) 1 1)).heap.size = w1.heap.size := by simp [World.setCell]
  generalize ((((w1.setCell ⟨w.heap.size, 0, none⟩ (.int .i64 46)).setCell ⟨w.heap.size, 1, none⟩ (.string ⟨#[]⟩)).setCell ⟨w.heap.size, 2, none⟩ (.string ⟨#[]⟩)).setCell ⟨w.heap.size, 3, none⟩ (.int .u64 0)).setCell ⟨w.heap.size, 4, none⟩ (.slice (some ⟨w1.heap.size, 0, none⟩) 1 1) = F at *
  have v0 := (Below.heap_alloc F (.cells #[.int .i64 33, .string t, .string ⟨#[]⟩, .int .u64 0, .slice none 0 0] 25) _ (Array.getElem?_eq_some_iff.1 u0).1).trans u0
  have v1 := heap_alloc_new F (.cells #[.int .i64 33, .string t, .string ⟨#[]⟩, .int .u64 0, .slice none 0 0] 25)
  have v2 := u1.alloc u1.size (.cells #[.int .i64 33, .string t, .string ⟨#[]⟩, .int .u64 0, .slice none 0 0] 25)
  rw [u2] at v1
  generalize F.alloc (.cells #[.int .i64 33, .string t, .string ⟨#[]⟩, .int .u64 0, .slice none 0 0] 25) = G at *
  have q0 : G.cell? ⟨w.heap.size, 0, none⟩ = some (.int .i64 46) := by rw [Lib.cell_of_heap v0]; rfl
  have q1 : G.cell? ⟨w.heap.size, 1, none⟩ = some (.string ⟨#[]⟩) := by rw [Lib.cell_of_heap v0]; rfl
  have q2 : G.cell? ⟨w.heap.size, 2, none⟩ = some (.string ⟨#[]⟩) := by rw [Lib.cell_of_heap v0]; rfl
  have q3 : G.cell? ⟨w.heap.size, 3, none⟩ = some (.int .u64 0) := by rw [Lib.cell_of_heap v0]; rfl
  have q4 : G.cell? ⟨w.heap.size, 4, none⟩ = some (.slice (some ⟨w1.heap.size, 0, none⟩) 1 1) := by rw [Lib.cell_of_heap v0]; rfl
  refine bodyPost_ret (v := .agg #[.int .i64 46, .string ⟨#[]⟩, .string ⟨#[]⟩, .int .u64 0, .slice (some ⟨w1.heap.size, 0, none⟩) 1 1]) (by simp [results, Tryz.results54, go_sem, q0, q1, q2, q3, q4]) rfl ⟨_, rfl, HB1.out.size, v1, v2⟩

set_option maxHeartbeats 8000000 in
set_option maxRecDepth 100000 in
theorem nodeTvarType (r g : Nat) (t : ByteArray) (w : World) (h : w.heap[r]? = some (.cells #[.pointer none, .slice none 0 0, .slice none 0 0, .pointer (some ⟨g, 0, none⟩)] 307 (0, 0)))
    (hg : w.heap[g]? = some (.cells #[.pointer none, .slice none 0 0, .slice none 0 0, .string t] 105 (0, 0))) :
    Calls Tryz.prog 19 #[.iface 306 (.pointer (some ⟨r, 0, none⟩))] w (KidPost 46 t w) := by
  have q0 : ∀ W, (Instr.typeAssert (.iface 306 (.pointer (some ⟨r, 0, none⟩))) 83 84 true).run Tryz.prog W = .ok (.tuple #[.pointer none, .bool false]) W := run_assert_other _ _ _ _ _ _ Tryz.underlying84 (by decide) (by kernel_rfl)
  have q1 : ∀ W, (Instr.typeAssert (.iface 306 (.pointer (some ⟨r, 0, none⟩))) 83 89 true).run Tryz.prog W = .ok (.tuple #[.pointer none, .bool false]) W := run_assert_other _ _ _ _ _ _ Tryz.underlying89 (by decide) (by kernel_rfl)
  have q2 : ∀ W, (Instr.typeAssert (.iface 306 (.pointer (some ⟨r, 0, none⟩))) 83 90 true).run Tryz.prog W = .ok (.tuple #[.pointer none, .bool false]) W := run_assert_other _ _ _ _ _ _ Tryz.underlying90 (by decide) (by kernel_rfl)
  have q3 : ∀ W, (Instr.typeAssert (.iface 306 (.pointer (some ⟨r, 0, none⟩))) 83 99 true).run Tryz.prog W = .ok (.tuple #[.pointer none, .bool false]) W := run_assert_other _ _ _ _ _ _ Tryz.underlying99 (by decide) (by kernel_rfl)
  have q4 : ∀ W, (Instr.typeAssert (.iface 306 (.pointer (some ⟨r, 0, none⟩))) 83 112 true).run Tryz.prog W = .ok (.tuple #[.pointer none, .bool false]) W := run_assert_other _ _ _ _ _ _ Tryz.underlying112 (by decide) (by kernel_rfl)
  have q5 : ∀ W, (Instr.typeAssert (.iface 306 (.pointer (some ⟨r, 0, none⟩))) 83 115 true).run Tryz.prog W = .ok (.tuple #[.pointer none, .bool false]) W := run_assert_other _ _ _ _ _ _ Tryz.underlying115 (by decide) (by kernel_rfl)
  have q6 : ∀ W, (Instr.typeAssert (.iface 306 (.pointer (some ⟨r, 0, none⟩))) 83 118 true).run Tryz.prog W = .ok (.tuple #[.pointer none, .bool false]) W := run_assert_other _ _ _ _ _ _ Tryz.underlying118 (by decide) (by kernel_rfl)
  have q7 : ∀ W, (Instr.typeAssert (.iface 306 (.pointer (some ⟨r, 0, none⟩))) 83 123 true).run Tryz.prog W = .ok (.tuple #[.pointer none, .bool false]) W := run_assert_other _ _ _ _ _ _ Tryz.underlying123 (by decide) (by kernel_rfl)
  have q8 : ∀ W, (Instr.typeAssert (.iface 306 (.pointer (some ⟨r, 0, none⟩))) 83 126 true).run Tryz.prog W = .ok (.tuple #[.pointer none, .bool false]) W := run_assert_other _ _ _ _ _ _ Tryz.underlying126 (by decide) (by kernel_rfl)
  have q9 : ∀ W, (Instr.typeAssert (.iface 306 (.pointer (some ⟨r, 0, none⟩))) 83 129 true).run Tryz.prog W = .ok (.tuple #[.pointer none, .bool false]) W := run_assert_other _ _ _ _ _ _ Tryz.underlying129 (by decide) (by kernel_rfl)
  have q10 : ∀ W, (Instr.typeAssert (.iface 306 (.pointer (some ⟨r, 0, none⟩))) 83 138 true).run Tryz.prog W = .ok (.tuple #[.pointer none, .bool false]) W := run_assert_other _ _ _ _ _ _ Tryz.underlying138 (by decide) (by kernel_rfl)
  have q11 : ∀ W, (Instr.typeAssert (.iface 306 (.pointer (some ⟨r, 0, none⟩))) 83 143 true).run Tryz.prog W = .ok (.tuple #[.pointer none, .bool false]) W := run_assert_other _ _ _ _ _ _ Tryz.underlying143 (by decide) (by kernel_rfl)
  have q12 : ∀ W, (Instr.typeAssert (.iface 306 (.pointer (some ⟨r, 0, none⟩))) 83 147 true).run Tryz.prog W = .ok (.tuple #[.pointer none, .bool false]) W := run_assert_other _ _ _ _ _ _ Tryz.underlying147 (by decide) (by kernel_rfl)
  have q13 : ∀ W, (Instr.typeAssert (.iface 306 (.pointer (some ⟨r, 0, none⟩))) 83 151 true).run Tryz.prog W = .ok (.tuple #[.pointer none, .bool false]) W := run_assert_other _ _ _ _ _ _ Tryz.underlying151 (by decide) (by kernel_rfl)
  have q14 : ∀ W, (Instr.typeAssert (.iface 306 (.pointer (some ⟨r, 0, none⟩))) 83 155 true).run Tryz.prog W = .ok (.tuple #[.pointer none, .bool false]) W := run_assert_other _ _ _ _ _ _ Tryz.underlying155 (by decide) (by kernel_rfl)
  have q15 : ∀ W, (Instr.typeAssert (.iface 306 (.pointer (some ⟨r, 0, none⟩))) 83 135 true).run Tryz.prog W = .ok (.tuple #[.pointer none, .bool false]) W := run_assert_other _ _ _ _ _ _ Tryz.underlying135 (by decide) (by kernel_rfl)
  have q16 : ∀ W, (Instr.typeAssert (.iface 306 (.pointer (some ⟨r, 0, none⟩))) 83 160 true).run Tryz.prog W = .ok (.tuple #[.pointer none, .bool false]) W := run_assert_other _ _ _ _ _ _ Tryz.underlying160 (by decide) (by kernel_rfl)
  have q17 : ∀ W, (Instr.typeAssert (.iface 306 (.pointer (some ⟨r, 0, none⟩))) 83 163 true).run Tryz.prog W = .ok (.tuple #[.pointer none, .bool false]) W := run_assert_other _ _ _ _ _ _ Tryz.underlying163 (by decide) (by kernel_rfl)
  have q18 : ∀ W, (Instr.typeAssert (.iface 306 (.pointer (some ⟨r, 0, none⟩))) 83 167 true).run Tryz.prog W = .ok (.tuple #[.pointer none, .bool false]) W := run_assert_other _ _ _ _ _ _ Tryz.underlying167 (by decide) (by kernel_rfl)
  have q19 : ∀ W, (Instr.typeAssert (.iface 306 (.pointer (some ⟨r, 0, none⟩))) 83 173 true).run Tryz.prog W = .ok (.tuple #[.pointer none, .bool false]) W := run_assert_other _ _ _ _ _ _ Tryz.underlying173 (by decide) (by kernel_rfl)
  have q20 : ∀ W, (Instr.typeAssert (.iface 306 (.pointer (some ⟨r, 0, none⟩))) 83 178 true).run Tryz.prog W = .ok (.tuple #[.pointer none, .bool false]) W := run_assert_other _ _ _ _ _ _ Tryz.underlying178 (by decide) (by kernel_rfl)
  have q21 : ∀ W, (Instr.typeAssert (.iface 306 (.pointer (some ⟨r, 0, none⟩))) 83 181 true).run Tryz.prog W = .ok (.tuple #[.pointer none, .bool false]) W := run_assert_other _ _ _ _ _ _ Tryz.underlying181 (by decide) (by kernel_rfl)
  have q22 : ∀ W, (Instr.typeAssert (.iface 306 (.pointer (some ⟨r, 0, none⟩))) 83 185 true).run Tryz.prog W = .ok (.tuple #[.pointer none, .bool false]) W := run_assert_other _ _ _ _ _ _ Tryz.underlying185 (by decide) (by kernel_rfl)
  have q23 : ∀ W, (Instr.typeAssert (.iface 306 (.pointer (some ⟨r, 0, none⟩))) 83 188 true).run Tryz.prog W = .ok (.tuple #[.pointer none, .bool false]) W := run_assert_other _ _ _ _ _ _ Tryz.underlying188 (by decide) (by kernel_rfl)
  have q24 : ∀ W, (Instr.typeAssert (.iface 306 (.pointer (some ⟨r, 0, none⟩))) 83 191 true).run Tryz.prog W = .ok (.tuple #[.pointer none, .bool false]) W := run_assert_other _ _ _ _ _ _ Tryz.underlying191 (by decide) (by kernel_rfl)
  have q25 : ∀ W, (Instr.typeAssert (.iface 306 (.pointer (some ⟨r, 0, none⟩))) 83 194 true).run Tryz.prog W = .ok (.tuple #[.pointer none, .bool false]) W := run_assert_other _ _ _ _ _ _ Tryz.underlying194 (by decide) (by kernel_rfl)
  have q26 : ∀ W, (Instr.typeAssert (.iface 306 (.pointer (some ⟨r, 0, none⟩))) 83 201 true).run Tryz.prog W = .ok (.tuple #[.pointer none, .bool false]) W := run_assert_other _ _ _ _ _ _ Tryz.underlying201 (by decide) (by kernel_rfl)
  have q27 : ∀ W, (Instr.typeAssert (.iface 306 (.pointer (some ⟨r, 0, none⟩))) 83 169 true).run Tryz.prog W = .ok (.tuple #[.pointer none, .bool false]) W := run_assert_other _ _ _ _ _ _ Tryz.underlying169 (by decide) (by kernel_rfl)
  have q28 : ∀ W, (Instr.typeAssert (.iface 306 (.pointer (some ⟨r, 0, none⟩))) 83 206 true).run Tryz.prog W = .ok (.tuple #[.pointer none, .bool false]) W := run_assert_other _ _ _ _ _ _ Tryz.underlying206 (by decide) (by kernel_rfl)
  have q29 : ∀ W, (Instr.typeAssert (.iface 306 (.pointer (some ⟨r, 0, none⟩))) 83 213 true).run Tryz.prog W = .ok (.tuple #[.pointer none, .bool false]) W := run_assert_other _ _ _ _ _ _ Tryz.underlying213 (by decide) (by kernel_rfl)
  have q30 : ∀ W, (Instr.typeAssert (.iface 306 (.pointer (some ⟨r, 0, none⟩))) 83 215 true).run Tryz.prog W = .ok (.tuple #[.pointer none, .bool false]) W := run_assert_other _ _ _ _ _ _ Tryz.underlying215 (by decide) (by kernel_rfl)
  have q31 : ∀ W, (Instr.typeAssert (.iface 306 (.pointer (some ⟨r, 0, none⟩))) 83 60 true).run Tryz.prog W = .ok (.tuple #[.pointer none, .bool false]) W := run_assert_other _ _ _ _ _ _ Tryz.underlying60 (by decide) (by kernel_rfl)
  have q32 : ∀ W, (Instr.typeAssert (.iface 306 (.pointer (some ⟨r, 0, none⟩))) 83 106 true).run Tryz.prog W = .ok (.tuple #[.pointer none, .bool false]) W := run_assert_other _ _ _ _ _ _ Tryz.underlying106 (by decide) (by kernel_rfl)
  have q33 : ∀ W, (Instr.typeAssert (.iface 306 (.pointer (some ⟨r, 0, none⟩))) 83 217 true).run Tryz.prog W = .ok (.tuple #[.pointer none, .bool false]) W := run_assert_other _ _ _ _ _ _ Tryz.underlying217 (by decide) (by kernel_rfl)
  have q34 : ∀ W, (Instr.typeAssert (.iface 306 (.pointer (some ⟨r, 0, none⟩))) 83 220 true).run Tryz.prog W = .ok (.tuple #[.pointer none, .bool false]) W := run_assert_other _ _ _ _ _ _ Tryz.underlying220 (by decide) (by kernel_rfl)
  have q35 : ∀ W, (Instr.typeAssert (.iface 306 (.pointer (some ⟨r, 0, none⟩))) 83 223 true).run Tryz.prog W = .ok (.tuple #[.pointer none, .bool false]) W := run_assert_other _ _ _ _ _ _ Tryz.underlying223 (by decide) (by kernel_rfl)
  have q36 : ∀ W, (Instr.typeAssert (.iface 306 (.pointer (some ⟨r, 0, none⟩))) 83 226 true).run Tryz.prog W = .ok (.tuple #[.pointer none, .bool false]) W := run_assert_other _ _ _ _ _ _ Tryz.underlying226 (by decide) (by kernel_rfl)
  have q37 : ∀ W, (Instr.typeAssert (.iface 306 (.pointer (some ⟨r, 0, none⟩))) 83 231 true).run Tryz.prog W = .ok (.tuple #[.pointer none, .bool false]) W := run_assert_other _ _ _ _ _ _ Tryz.underlying231 (by decide) (by kernel_rfl)
  have q38 : ∀ W, (Instr.typeAssert (.iface 306 (.pointer (some ⟨r, 0, none⟩))) 83 236 true).run Tryz.prog W = .ok (.tuple #[.pointer none, .bool false]) W := run_assert_other _ _ _ _ _ _ Tryz.underlying236 (by decide) (by kernel_rfl)
  have q39 : ∀ W, (Instr.typeAssert (.iface 306 (.pointer (some ⟨r, 0, none⟩))) 83 241 true).run Tryz.prog W = .ok (.tuple #[.pointer none, .bool false]) W := run_assert_other _ _ _ _ _ _ Tryz.underlying241 (by decide) (by kernel_rfl)
  have q40 : ∀ W, (Instr.typeAssert (.iface 306 (.pointer (some ⟨r, 0, none⟩))) 83 245 true).run Tryz.prog W = .ok (.tuple #[.pointer none, .bool false]) W := run_assert_other _ _ _ _ _ _ Tryz.underlying245 (by decide) (by kernel_rfl)
  have hb0 := (Below.refl w.heap.size w).alloc (Nat.le_refl _) (.cells #[.int .i64 0, .string ⟨#[]⟩, .string ⟨#[]⟩, .int .u64 0, .slice none 0 0] 25)
  have hr0 := heap_alloc_new w (.cells #[.int .i64 0, .string ⟨#[]⟩, .string ⟨#[]⟩, .int .u64 0, .slice none 0 0] 25)
  have HO := Lib.hid (typeNodeTvarType r g t _ ((hb0.block r (Array.getElem?_eq_some_iff.1 h).1).trans h) ((hb0.block g (Array.getElem?_eq_some_iff.1 hg).1).trans hg))
  have HB0 := Lib.hid hb0
  have HR0 := Lib.hid hr0
  clear h hg hb0 hr0
  go_enter Tryz.func19, Tryz.ntmps19
  go_wp2_with fail
  ((with_reducible refine HO.out.mono ?_))
  rintro e w1 ⟨gk, rfl, hgk, hrow, hb1⟩
  have HB1 := Lib.hid (HB0.out.trans (hb1.mono HB0.out.size))
  have hr1 : w1.heap[w.heap.size]? = some (.cells #[.int .i64 0, .string ⟨#[]⟩, .string ⟨#[]⟩, .int .u64 0, .slice none 0 0] 25 (0, 0)) := (hb1.block _ (Array.getElem?_eq_some_iff.1 HR0.out).1).trans HR0.out
  have hne : gk ≠ w.heap.size := by
    have h1 := (Array.getElem?_eq_some_iff.1 HR0.out).1
    omega
  have z0 : w1.cell? ⟨w.heap.size, 0, none⟩ = some (.int .i64 0) := by rw [Lib.cell_of_heap hr1]; rfl
  have z1 : w1.cell? ⟨w.heap.size, 1, none⟩ = some (.string ⟨#[]⟩) := by rw [Lib.cell_of_heap hr1]; rfl
  have z2 : w1.cell? ⟨w.heap.size, 2, none⟩ = some (.string ⟨#[]⟩) := by rw [Lib.cell_of_heap hr1]; rfl
  have z3 : w1.cell? ⟨w.heap.size, 3, none⟩ = some (.int .u64 0) := by rw [Lib.cell_of_heap hr1]; rfl
  have z4 : w1.cell? ⟨w.heap.size, 4, none⟩ = some (.slice none 0 0) := by rw [Lib.cell_of_heap hr1]; rfl
  have y0 := Lib.frozen_of_heap hr1 0
  have y1 := Lib.frozen_of_heap hr1 1
  have y2 := Lib.frozen_of_heap hr1 2
  have y3 := Lib.frozen_of_heap hr1 3
  have y4 := Lib.frozen_of_heap hr1 4
  have HR1 := Lib.hid hr1
  have HK1 := Lib.hid hrow
  have HGK := Lib.hid (Nat.le_trans HB0.out.size hgk)
  clear hr1 hb1 hrow hgk
  go_wp2
  have u0 := row_setG (row_setG (row_setG (row_setG (row_setG HR1.out 0 (.int .i64 46)) 1 (.string ⟨#[]⟩)) 2 (.string ⟨#[]⟩)) 3 (.int .u64 0)) 4 (.slice (some ⟨gk, 0, none⟩) 1 1)
  have u1 := ((((HB1.out.setCell (p := ⟨w.heap.size, 0, none⟩) (Nat.le_refl _) (.int .i64 46)).setCell (p := ⟨w.heap.size, 1, none⟩) (Nat.le_refl _) (.string ⟨#[]⟩)).setCell (p := ⟨w.heap.size, 2, none⟩) (Nat.le_refl _) (.string ⟨#[]⟩)).setCell (p := ⟨w.heap.size, 3, none⟩) (Nat.le_refl _) (.int .u64 0)).setCell (p := ⟨w.heap.size, 4, none⟩) (Nat.le_refl _) (.slice (some ⟨gk, 0, none⟩) 1 1)
  have v1 : (((((w1.setCell ⟨w.heap.size, 0, none⟩ (.int .i64 46)).setCell ⟨w.heap.size, 1, none⟩ (.string ⟨#[]⟩)).setCell ⟨w.heap.size, 2, none⟩ (.string ⟨#[]⟩)).setCell ⟨w.heap.size, 3, none⟩ (.int .u64 0)).setCell ⟨w.heap.size, 4, none⟩ (.slice (some ⟨gk, 0, none⟩) 1 1)).heap[gk]? = _ :=
    (Below.heap_setCell _ _ _ _ hne).trans ((Below.heap_setCell _ _ _ _ hne).trans ((Below.heap_setCell _ _ _ _ hne).trans ((Below.heap_setCell _ _ _ _ hne).trans ((Below.heap_setCell _ _ _ _ hne).trans HK1.out))))
  generalize ((((w1.setCell ⟨w.heap.size, 0, none⟩ (.int .i64 46)).setCell ⟨w.heap.size, 1, none⟩ (.string ⟨#[]⟩)).setCell ⟨w.heap.size, 2, none⟩ (.string ⟨#[]⟩)).setCell ⟨w.heap.size, 3, none⟩ (.int .u64 0)).setCell ⟨w.heap.size, 4, none⟩ (.slice (some ⟨gk, 0, none⟩) 1 1) = G at *
  have q0 : G.cell? ⟨w.heap.size, 0, none⟩ = some (.int .i64 46) := by rw [Lib.cell_of_heap u0]; rfl
  have q1 : G.cell? ⟨w.heap.size, 1, none⟩ = some (.string ⟨#[]⟩) := by rw [Lib.cell_of_heap u0]; rfl
  have q2 : G.cell? ⟨w.heap.size, 2, none⟩ = some (.string ⟨#[]⟩) := by rw [Lib.cell_of_heap u0]; rfl
  have q3 : G.cell? ⟨w.heap.size, 3, none⟩ = some (.int .u64 0) := by rw [Lib.cell_of_heap u0]; rfl
  have q4 : G.cell? ⟨w.heap.size, 4, none⟩ = some (.slice (some ⟨gk, 0, none⟩) 1 1) := by rw [Lib.cell_of_heap u0]; rfl
  refine bodyPost_ret (v := .agg #[.int .i64 46, .string ⟨#[]⟩, .string ⟨#[]⟩, .int .u64 0, .slice (some ⟨gk, 0, none⟩) 1 1]) (by simp [results, Tryz.results19, go_sem, q0, q1, q2, q3, q4]) rfl ⟨_, rfl, HGK.out, v1, u1⟩


end Go.Proofs.YtgceklahjdbipaaGreatDoor
