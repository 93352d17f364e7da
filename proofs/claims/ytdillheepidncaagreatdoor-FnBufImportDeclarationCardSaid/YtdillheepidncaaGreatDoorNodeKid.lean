/- impl.node over types of one identifier. -/
import Derived.Test.YtdillheepidncaaGreatDoorNodeLeaf
import Derived.Test.YtdillheepidncaaGreatDoorGetNode
import Derived.Below
namespace Go.Proofs.YtdillheepidncaaGreatDoor
open Go Go.RowKit
set_option linter.unusedVariables false
set_option linter.unusedSimpArgs false

set_option maxHeartbeats 4000000 in
set_option maxRecDepth 100000 in
theorem orNoneIdentifier_some (r : Nat) (t : ByteArray) (w : World) (h : w.heap[r]? = some (.cells #[.pointer none, .slice none 0 0, .slice none 0 0, .string t] 96 (0, 0))) :
    Calls Tryz.prog 34 #[.pointer (some ⟨r, 0, none⟩)] w fun e w' => e = .returned (.agg #[.int .i64 33, .string t, .string ⟨#[]⟩, .int .u64 0, .slice none 0 0]) ∧ Below w.heap.size w w' := by
  have hb0 := (Below.refl w.heap.size w).alloc (Nat.le_refl _) (.cells #[.int .i64 0, .string ⟨#[]⟩, .string ⟨#[]⟩, .int .u64 0, .slice none 0 0] 25)
  have hr0 := heap_alloc_new w (.cells #[.int .i64 0, .string ⟨#[]⟩, .string ⟨#[]⟩, .int .u64 0, .slice none 0 0] 25)
  have HD := Lib.hid (nodeIdentifier r t _ ((hb0.block r (Array.getElem?_eq_some_iff.1 h).1).trans h))
  have HB0 := Lib.hid hb0
  have HR0 := Lib.hid hr0
  clear h hb0 hr0
  go_enter Tryz.func34, Tryz.ntmps34
  go_wp2_with fail
  ((with_reducible refine HD.out.mono ?_))
  rintro e w1 ⟨rfl, hb1⟩
  have hr1 : w1.heap[w.heap.size]? = some (.cells #[.int .i64 0, .string ⟨#[]⟩, .string ⟨#[]⟩, .int .u64 0, .slice none 0 0] 25 (0, 0)) := (hb1.block _ (Array.getElem?_eq_some_iff.1 HR0.out).1).trans HR0.out
  have z0 : w1.cell? ⟨w.heap.size, 0, none⟩ = some (.int .i64 0) := by rw [Lib.cell_of_heap hr1]; rfl
  have z1 : w1.cell? ⟨w.heap.size, 1, none⟩ = some (.string ⟨#[]⟩) := by rw [Lib.cell_of_heap hr1]; rfl
  have z2 : w1.cell? ⟨w.heap.size, 2, none⟩ = some (.string ⟨#[]⟩) := by rw [Lib.cell_of_heap hr1]; rfl
  have z3 : w1.cell? ⟨w.heap.size, 3, none⟩ = some (.int .u64 0) := by rw [Lib.cell_of_heap hr1]; rfl
  have z4 : w1.cell? ⟨w.heap.size, 4, none⟩ = some (.slice none 0 0) := by rw [Lib.cell_of_heap hr1]; rfl
  have y0 := Lib.frozen_of_heap hr1 0
  have y1 := Lib.frozen_of_heap hr1 1
  have y2 := Lib.frozen_of_heap hr1 2
  have y3 := Lib.frozen_of_heap hr1 3
  have y4 := Lib.frozen_of_heap hr1 4
  have HB1 := Lib.hid (HB0.out.trans (hb1.mono HB0.out.size))
  have HR1 := Lib.hid hr1
  clear hb1 hr1
  go_wp2
  have u0 := row_setG (row_setG (row_setG (row_setG (row_setG HR1.out 0 (.int .i64 33)) 1 (.string t)) 2 (.string ⟨#[]⟩)) 3 (.int .u64 0)) 4 (.slice none 0 0)
  have u1 := ((((HB1.out.setCell (p := ⟨w.heap.size, 0, none⟩) (Nat.le_refl _) (.int .i64 33)).setCell (p := ⟨w.heap.size, 1, none⟩) (Nat.le_refl _) (.string t)).setCell (p := ⟨w.heap.size, 2, none⟩) (Nat.le_refl _) (.string ⟨#[]⟩)).setCell (p := ⟨w.heap.size, 3, none⟩) (Nat.le_refl _) (.int .u64 0)).setCell (p := ⟨w.heap.size, 4, none⟩) (Nat.le_refl _) (.slice none 0 0)
  generalize ((((w1.setCell ⟨w.heap.size, 0, none⟩ (.int .i64 33)).setCell ⟨w.heap.size, 1, none⟩ (.string t)).setCell ⟨w.heap.size, 2, none⟩ (.string ⟨#[]⟩)).setCell ⟨w.heap.size, 3, none⟩ (.int .u64 0)).setCell ⟨w.heap.size, 4, none⟩ (.slice none 0 0) = F at *
  have q0 : F.cell? ⟨w.heap.size, 0, none⟩ = some (.int .i64 33) := by rw [Lib.cell_of_heap u0]; rfl
  have q1 : F.cell? ⟨w.heap.size, 1, none⟩ = some (.string t) := by rw [Lib.cell_of_heap u0]; rfl
  have q2 : F.cell? ⟨w.heap.size, 2, none⟩ = some (.string ⟨#[]⟩) := by rw [Lib.cell_of_heap u0]; rfl
  have q3 : F.cell? ⟨w.heap.size, 3, none⟩ = some (.int .u64 0) := by rw [Lib.cell_of_heap u0]; rfl
  have q4 : F.cell? ⟨w.heap.size, 4, none⟩ = some (.slice none 0 0) := by rw [Lib.cell_of_heap u0]; rfl
  refine bodyPost_ret (v := .agg #[.int .i64 33, .string t, .string ⟨#[]⟩, .int .u64 0, .slice none 0 0]) (by simp [results, Tryz.results34, go_sem, q0, q1, q2, q3, q4]) rfl ⟨rfl, u1⟩


/-- A type of one identifier, as a plain node. -/
def KidPost (k : Int) (t : ByteArray) (w : World) (e : Ending) (w' : World) : Prop :=
  ∃ g, e = .returned (.agg #[.int .i64 k, .string ⟨#[]⟩, .string ⟨#[]⟩, .int .u64 0, .slice (some ⟨g, 0, none⟩) 1 1]) ∧ w.heap.size ≤ g ∧ w'.heap[g]? = some (.cells #[.int .i64 33, .string t, .string ⟨#[]⟩, .int .u64 0, .slice none 0 0] 25 (0, 0)) ∧ Below w.heap.size w w'


set_option maxHeartbeats 8000000 in
set_option maxRecDepth 100000 in
theorem typeNodeTvarType (r g : Nat) (t : ByteArray) (w : World) (h : w.heap[r]? = some (.cells #[.pointer none, .slice none 0 0, .slice none 0 0, .pointer (some ⟨g, 0, none⟩)] 46 (0, 0)))
    (hg : w.heap[g]? = some (.cells #[.pointer none, .slice none 0 0, .slice none 0 0, .string t] 96 (0, 0))) :
    Calls Tryz.prog 50 #[.iface 38 (.pointer (some ⟨r, 0, none⟩))] w (KidPost 46 t w) := by
  have q0 : ∀ W, (Instr.typeAssert (.iface 38 (.pointer (some ⟨r, 0, none⟩))) 75 140 true).run Tryz.prog W = .ok (.tuple #[.pointer none, .bool false]) W := run_assert_other _ _ _ _ _ _ Tryz.underlying140 (by decide) (by kernel_rfl)
  have q1 : ∀ W, (Instr.typeAssert (.iface 38 (.pointer (some ⟨r, 0, none⟩))) 75 281 true).run Tryz.prog W = .ok (.tuple #[.pointer none, .bool false]) W := run_assert_other _ _ _ _ _ _ Tryz.underlying281 (by decide) (by kernel_rfl)
  have q2 : ∀ W, (Instr.typeAssert (.iface 38 (.pointer (some ⟨r, 0, none⟩))) 75 38 true).run Tryz.prog W = .ok (.tuple #[.pointer (some ⟨r, 0, none⟩), .bool true]) W := run_assert_same _ _ _ _ Tryz.underlying38
  have hb0 := (Below.refl w.heap.size w).alloc (Nat.le_refl _) (.cells #[.int .i64 0, .string ⟨#[]⟩, .string ⟨#[]⟩, .int .u64 0, .slice none 0 0] 25)
  have c3 : w.cell? ⟨r, 3, none⟩ = some (.pointer (some ⟨g, 0, none⟩)) := by rw [Lib.cell_of_heap h]; rfl
  have hr : r < w.heap.size := (Array.getElem?_eq_some_iff.1 h).1
  have hr0 := heap_alloc_new w (.cells #[.int .i64 0, .string ⟨#[]⟩, .string ⟨#[]⟩, .int .u64 0, .slice none 0 0] 25)
  have HO := Lib.hid (orNoneIdentifier_some g t _ ((hb0.block g (Array.getElem?_eq_some_iff.1 hg).1).trans hg))
  have HB0 := Lib.hid hb0
  have HR0 := Lib.hid hr0
  clear h hg hb0 hr0
  go_enter Tryz.func50, Tryz.ntmps50
  go_wp2_with fail
  ((with_reducible refine HO.out.mono ?_))
  rintro e w1 ⟨rfl, hb1⟩
  have HB1 := Lib.hid (HB0.out.trans (hb1.mono HB0.out.size))
  have hr1 : w1.heap[w.heap.size]? = some (.cells #[.int .i64 0, .string ⟨#[]⟩, .string ⟨#[]⟩, .int .u64 0, .slice none 0 0] 25 (0, 0)) := (hb1.block _ (Array.getElem?_eq_some_iff.1 HR0.out).1).trans HR0.out
  have hlt1 := (Array.getElem?_eq_some_iff.1 hr1).1
  clear hb1
  have z0 : w1.cell? ⟨w.heap.size, 0, none⟩ = some (.int .i64 0) := by rw [Lib.cell_of_heap hr1]; rfl
  have z1 : w1.cell? ⟨w.heap.size, 1, none⟩ = some (.string ⟨#[]⟩) := by rw [Lib.cell_of_heap hr1]; rfl
  have z2 : w1.cell? ⟨w.heap.size, 2, none⟩ = some (.string ⟨#[]⟩) := by rw [Lib.cell_of_heap hr1]; rfl
  have z3 : w1.cell? ⟨w.heap.size, 3, none⟩ = some (.int .u64 0) := by rw [Lib.cell_of_heap hr1]; rfl
  have z4 : w1.cell? ⟨w.heap.size, 4, none⟩ = some (.slice none 0 0) := by rw [Lib.cell_of_heap hr1]; rfl
  have y0 := Lib.frozen_of_heap hr1 0
  have y1 := Lib.frozen_of_heap hr1 1
  have y2 := Lib.frozen_of_heap hr1 2
  have y3 := Lib.frozen_of_heap hr1 3
  have y4 := Lib.frozen_of_heap hr1 4
  have HR1 := Lib.hid hr1
  clear hr1
  go_wp2
  have u0 := row_setG (row_setG (row_setG (row_setG (row_setG HR1.out 0 (.int .i64 46)) 1 (.string ⟨#[]⟩)) 2 (.string ⟨#[]⟩)) 3 (.int .u64 0)) 4 (.slice (some ⟨w1.heap.size, 0, none⟩) 1 1)
  have u1 := ((((HB1.out.setCell (p := ⟨w.heap.size, 0, none⟩) (Nat.le_refl _) (.int .i64 46)).setCell (p := ⟨w.heap.size, 1, none⟩) (Nat.le_refl _) (.string ⟨#[]⟩)).setCell (p := ⟨w.heap.size, 2, none⟩) (Nat.le_refl _) (.string ⟨#[]⟩)).setCell (p := ⟨w.heap.size, 3, none⟩) (Nat.le_refl _) (.int .u64 0)).setCell (p := ⟨w.heap.size, 4, none⟩) (Nat.le_refl _) (.slice (some ⟨w1.heap.size, 0, none⟩) 1 1)
  have u2 : (((((w1.setCell ⟨w.heap.size, 0, none⟩ (.int .i64 46)).setCell ⟨w.heap.size, 1, none⟩ (.string ⟨#[]⟩)).setCell ⟨w.heap.size, 2, none⟩ (.string ⟨#[]⟩)).setCell ⟨w.heap.size, 3, none⟩ (.int .u64 0)).setCell ⟨w.heap.size, 4, none⟩ (.slice (some ⟨w1.heap.size, 0, none⟩) 1 1)).heap.size = w1.heap.size := by simp [World.setCell]
  generalize ((((w1.setCell ⟨w.heap.size, 0, none⟩ (.int .i64 46)).setCell ⟨w.heap.size, 1, none⟩ (.string ⟨#[]⟩)).setCell ⟨w.heap.size, 2, none⟩ (.string ⟨#[]⟩)).setCell ⟨w.heap.size, 3, none⟩ (.int .u64 0)).setCell ⟨w.heap.size, 4, none⟩ (.slice (some ⟨w1.heap.size, 0, none⟩) 1 1) = F at *
  have v0 := (Below.heap_alloc F (.cells #[.int .i64 33, .string t, .string ⟨#[]⟩, .int .u64 0, .slice none 0 0] 25) _ (Array.getElem?_eq_some_iff.1 u0).1).trans u0
  have v1 := heap_alloc_new F (.cells #[.int .i64 33, .string t, .string ⟨#[]⟩, .int .u64 0, .slice none 0 0] 25)
  have v2 := u1.alloc u1.size (.cells #[.int .i64 33, .string t, .string ⟨#[]⟩, .int .u64 0, .slice none 0 0] 25)
  rw [u2] at v1
  generalize F.alloc (.cells #[.int .i64 33, .string t, .string ⟨#[]⟩, .int .u64 0, .slice none 0 0] 25) = G at *
  have q0 : G.cell? ⟨w.heap.size, 0, none⟩ = some (.int .i64 46) := by rw [Lib.cell_of_heap v0]; rfl
  have q1 : G.cell? ⟨w.heap.size, 1, none⟩ = some (.string ⟨#[]⟩) := by rw [Lib.cell_of_heap v0]; rfl
  have q2 : G.cell? ⟨w.heap.size, 2, none⟩ = some (.string ⟨#[]⟩) := by rw [Lib.cell_of_heap v0]; rfl
  have q3 : G.cell? ⟨w.heap.size, 3, none⟩ = some (.int .u64 0) := by rw [Lib.cell_of_heap v0]; rfl
  have q4 : G.cell? ⟨w.heap.size, 4, none⟩ = some (.slice (some ⟨w1.heap.size, 0, none⟩) 1 1) := by rw [Lib.cell_of_heap v0]; rfl
  refine bodyPost_ret (v := .agg #[.int .i64 46, .string ⟨#[]⟩, .string ⟨#[]⟩, .int .u64 0, .slice (some ⟨w1.heap.size, 0, none⟩) 1 1]) (by simp [results, Tryz.results50, go_sem, q0, q1, q2, q3, q4]) rfl ⟨_, rfl, HB1.out.size, v1, v2⟩

set_option maxHeartbeats 8000000 in
set_option maxRecDepth 100000 in
theorem nodeTvarType (r g : Nat) (t : ByteArray) (w : World) (h : w.heap[r]? = some (.cells #[.pointer none, .slice none 0 0, .slice none 0 0, .pointer (some ⟨g, 0, none⟩)] 46 (0, 0)))
    (hg : w.heap[g]? = some (.cells #[.pointer none, .slice none 0 0, .slice none 0 0, .string t] 96 (0, 0))) :
    Calls Tryz.prog 17 #[.iface 38 (.pointer (some ⟨r, 0, none⟩))] w (KidPost 46 t w) := by
  have q0 : ∀ W, (Instr.typeAssert (.iface 38 (.pointer (some ⟨r, 0, none⟩))) 75 76 true).run Tryz.prog W = .ok (.tuple #[.pointer none, .bool false]) W := run_assert_other _ _ _ _ _ _ Tryz.underlying76 (by decide) (by kernel_rfl)
  have q1 : ∀ W, (Instr.typeAssert (.iface 38 (.pointer (some ⟨r, 0, none⟩))) 75 81 true).run Tryz.prog W = .ok (.tuple #[.pointer none, .bool false]) W := run_assert_other _ _ _ _ _ _ Tryz.underlying81 (by decide) (by kernel_rfl)
  have q2 : ∀ W, (Instr.typeAssert (.iface 38 (.pointer (some ⟨r, 0, none⟩))) 75 82 true).run Tryz.prog W = .ok (.tuple #[.pointer none, .bool false]) W := run_assert_other _ _ _ _ _ _ Tryz.underlying82 (by decide) (by kernel_rfl)
  have q3 : ∀ W, (Instr.typeAssert (.iface 38 (.pointer (some ⟨r, 0, none⟩))) 75 58 true).run Tryz.prog W = .ok (.tuple #[.pointer none, .bool false]) W := run_assert_other _ _ _ _ _ _ Tryz.underlying58 (by decide) (by kernel_rfl)
  have q4 : ∀ W, (Instr.typeAssert (.iface 38 (.pointer (some ⟨r, 0, none⟩))) 75 100 true).run Tryz.prog W = .ok (.tuple #[.pointer none, .bool false]) W := run_assert_other _ _ _ _ _ _ Tryz.underlying100 (by decide) (by kernel_rfl)
  have q5 : ∀ W, (Instr.typeAssert (.iface 38 (.pointer (some ⟨r, 0, none⟩))) 75 103 true).run Tryz.prog W = .ok (.tuple #[.pointer none, .bool false]) W := run_assert_other _ _ _ _ _ _ Tryz.underlying103 (by decide) (by kernel_rfl)
  have q6 : ∀ W, (Instr.typeAssert (.iface 38 (.pointer (some ⟨r, 0, none⟩))) 75 106 true).run Tryz.prog W = .ok (.tuple #[.pointer none, .bool false]) W := run_assert_other _ _ _ _ _ _ Tryz.underlying106 (by decide) (by kernel_rfl)
  have q7 : ∀ W, (Instr.typeAssert (.iface 38 (.pointer (some ⟨r, 0, none⟩))) 75 111 true).run Tryz.prog W = .ok (.tuple #[.pointer none, .bool false]) W := run_assert_other _ _ _ _ _ _ Tryz.underlying111 (by decide) (by kernel_rfl)
  have q8 : ∀ W, (Instr.typeAssert (.iface 38 (.pointer (some ⟨r, 0, none⟩))) 75 114 true).run Tryz.prog W = .ok (.tuple #[.pointer none, .bool false]) W := run_assert_other _ _ _ _ _ _ Tryz.underlying114 (by decide) (by kernel_rfl)
  have q9 : ∀ W, (Instr.typeAssert (.iface 38 (.pointer (some ⟨r, 0, none⟩))) 75 117 true).run Tryz.prog W = .ok (.tuple #[.pointer none, .bool false]) W := run_assert_other _ _ _ _ _ _ Tryz.underlying117 (by decide) (by kernel_rfl)
  have q10 : ∀ W, (Instr.typeAssert (.iface 38 (.pointer (some ⟨r, 0, none⟩))) 75 126 true).run Tryz.prog W = .ok (.tuple #[.pointer none, .bool false]) W := run_assert_other _ _ _ _ _ _ Tryz.underlying126 (by decide) (by kernel_rfl)
  have q11 : ∀ W, (Instr.typeAssert (.iface 38 (.pointer (some ⟨r, 0, none⟩))) 75 131 true).run Tryz.prog W = .ok (.tuple #[.pointer none, .bool false]) W := run_assert_other _ _ _ _ _ _ Tryz.underlying131 (by decide) (by kernel_rfl)
  have q12 : ∀ W, (Instr.typeAssert (.iface 38 (.pointer (some ⟨r, 0, none⟩))) 75 141 true).run Tryz.prog W = .ok (.tuple #[.pointer none, .bool false]) W := run_assert_other _ _ _ _ _ _ Tryz.underlying141 (by decide) (by kernel_rfl)
  have q13 : ∀ W, (Instr.typeAssert (.iface 38 (.pointer (some ⟨r, 0, none⟩))) 75 145 true).run Tryz.prog W = .ok (.tuple #[.pointer none, .bool false]) W := run_assert_other _ _ _ _ _ _ Tryz.underlying145 (by decide) (by kernel_rfl)
  have q14 : ∀ W, (Instr.typeAssert (.iface 38 (.pointer (some ⟨r, 0, none⟩))) 75 149 true).run Tryz.prog W = .ok (.tuple #[.pointer none, .bool false]) W := run_assert_other _ _ _ _ _ _ Tryz.underlying149 (by decide) (by kernel_rfl)
  have q15 : ∀ W, (Instr.typeAssert (.iface 38 (.pointer (some ⟨r, 0, none⟩))) 75 123 true).run Tryz.prog W = .ok (.tuple #[.pointer none, .bool false]) W := run_assert_other _ _ _ _ _ _ Tryz.underlying123 (by decide) (by kernel_rfl)
  have q16 : ∀ W, (Instr.typeAssert (.iface 38 (.pointer (some ⟨r, 0, none⟩))) 75 154 true).run Tryz.prog W = .ok (.tuple #[.pointer none, .bool false]) W := run_assert_other _ _ _ _ _ _ Tryz.underlying154 (by decide) (by kernel_rfl)
  have q17 : ∀ W, (Instr.typeAssert (.iface 38 (.pointer (some ⟨r, 0, none⟩))) 75 157 true).run Tryz.prog W = .ok (.tuple #[.pointer none, .bool false]) W := run_assert_other _ _ _ _ _ _ Tryz.underlying157 (by decide) (by kernel_rfl)
  have q18 : ∀ W, (Instr.typeAssert (.iface 38 (.pointer (some ⟨r, 0, none⟩))) 75 161 true).run Tryz.prog W = .ok (.tuple #[.pointer none, .bool false]) W := run_assert_other _ _ _ _ _ _ Tryz.underlying161 (by decide) (by kernel_rfl)
  have q19 : ∀ W, (Instr.typeAssert (.iface 38 (.pointer (some ⟨r, 0, none⟩))) 75 167 true).run Tryz.prog W = .ok (.tuple #[.pointer none, .bool false]) W := run_assert_other _ _ _ _ _ _ Tryz.underlying167 (by decide) (by kernel_rfl)
  have q20 : ∀ W, (Instr.typeAssert (.iface 38 (.pointer (some ⟨r, 0, none⟩))) 75 172 true).run Tryz.prog W = .ok (.tuple #[.pointer none, .bool false]) W := run_assert_other _ _ _ _ _ _ Tryz.underlying172 (by decide) (by kernel_rfl)
  have q21 : ∀ W, (Instr.typeAssert (.iface 38 (.pointer (some ⟨r, 0, none⟩))) 75 175 true).run Tryz.prog W = .ok (.tuple #[.pointer none, .bool false]) W := run_assert_other _ _ _ _ _ _ Tryz.underlying175 (by decide) (by kernel_rfl)
  have q22 : ∀ W, (Instr.typeAssert (.iface 38 (.pointer (some ⟨r, 0, none⟩))) 75 179 true).run Tryz.prog W = .ok (.tuple #[.pointer none, .bool false]) W := run_assert_other _ _ _ _ _ _ Tryz.underlying179 (by decide) (by kernel_rfl)
  have q23 : ∀ W, (Instr.typeAssert (.iface 38 (.pointer (some ⟨r, 0, none⟩))) 75 182 true).run Tryz.prog W = .ok (.tuple #[.pointer none, .bool false]) W := run_assert_other _ _ _ _ _ _ Tryz.underlying182 (by decide) (by kernel_rfl)
  have q24 : ∀ W, (Instr.typeAssert (.iface 38 (.pointer (some ⟨r, 0, none⟩))) 75 185 true).run Tryz.prog W = .ok (.tuple #[.pointer none, .bool false]) W := run_assert_other _ _ _ _ _ _ Tryz.underlying185 (by decide) (by kernel_rfl)
  have q25 : ∀ W, (Instr.typeAssert (.iface 38 (.pointer (some ⟨r, 0, none⟩))) 75 188 true).run Tryz.prog W = .ok (.tuple #[.pointer none, .bool false]) W := run_assert_other _ _ _ _ _ _ Tryz.underlying188 (by decide) (by kernel_rfl)
  have q26 : ∀ W, (Instr.typeAssert (.iface 38 (.pointer (some ⟨r, 0, none⟩))) 75 195 true).run Tryz.prog W = .ok (.tuple #[.pointer none, .bool false]) W := run_assert_other _ _ _ _ _ _ Tryz.underlying195 (by decide) (by kernel_rfl)
  have q27 : ∀ W, (Instr.typeAssert (.iface 38 (.pointer (some ⟨r, 0, none⟩))) 75 163 true).run Tryz.prog W = .ok (.tuple #[.pointer none, .bool false]) W := run_assert_other _ _ _ _ _ _ Tryz.underlying163 (by decide) (by kernel_rfl)
  have q28 : ∀ W, (Instr.typeAssert (.iface 38 (.pointer (some ⟨r, 0, none⟩))) 75 200 true).run Tryz.prog W = .ok (.tuple #[.pointer none, .bool false]) W := run_assert_other _ _ _ _ _ _ Tryz.underlying200 (by decide) (by kernel_rfl)
  have q29 : ∀ W, (Instr.typeAssert (.iface 38 (.pointer (some ⟨r, 0, none⟩))) 75 207 true).run Tryz.prog W = .ok (.tuple #[.pointer none, .bool false]) W := run_assert_other _ _ _ _ _ _ Tryz.underlying207 (by decide) (by kernel_rfl)
  have q30 : ∀ W, (Instr.typeAssert (.iface 38 (.pointer (some ⟨r, 0, none⟩))) 75 209 true).run Tryz.prog W = .ok (.tuple #[.pointer none, .bool false]) W := run_assert_other _ _ _ _ _ _ Tryz.underlying209 (by decide) (by kernel_rfl)
  have q31 : ∀ W, (Instr.typeAssert (.iface 38 (.pointer (some ⟨r, 0, none⟩))) 75 44 true).run Tryz.prog W = .ok (.tuple #[.pointer none, .bool false]) W := run_assert_other _ _ _ _ _ _ Tryz.underlying44 (by decide) (by kernel_rfl)
  have q32 : ∀ W, (Instr.typeAssert (.iface 38 (.pointer (some ⟨r, 0, none⟩))) 75 59 true).run Tryz.prog W = .ok (.tuple #[.pointer none, .bool false]) W := run_assert_other _ _ _ _ _ _ Tryz.underlying59 (by decide) (by kernel_rfl)
  have q33 : ∀ W, (Instr.typeAssert (.iface 38 (.pointer (some ⟨r, 0, none⟩))) 75 211 true).run Tryz.prog W = .ok (.tuple #[.pointer none, .bool false]) W := run_assert_other _ _ _ _ _ _ Tryz.underlying211 (by decide) (by kernel_rfl)
  have q34 : ∀ W, (Instr.typeAssert (.iface 38 (.pointer (some ⟨r, 0, none⟩))) 75 214 true).run Tryz.prog W = .ok (.tuple #[.pointer none, .bool false]) W := run_assert_other _ _ _ _ _ _ Tryz.underlying214 (by decide) (by kernel_rfl)
  have q35 : ∀ W, (Instr.typeAssert (.iface 38 (.pointer (some ⟨r, 0, none⟩))) 75 217 true).run Tryz.prog W = .ok (.tuple #[.pointer none, .bool false]) W := run_assert_other _ _ _ _ _ _ Tryz.underlying217 (by decide) (by kernel_rfl)
  have q36 : ∀ W, (Instr.typeAssert (.iface 38 (.pointer (some ⟨r, 0, none⟩))) 75 220 true).run Tryz.prog W = .ok (.tuple #[.pointer none, .bool false]) W := run_assert_other _ _ _ _ _ _ Tryz.underlying220 (by decide) (by kernel_rfl)
  have q37 : ∀ W, (Instr.typeAssert (.iface 38 (.pointer (some ⟨r, 0, none⟩))) 75 65 true).run Tryz.prog W = .ok (.tuple #[.pointer none, .bool false]) W := run_assert_other _ _ _ _ _ _ Tryz.underlying65 (by decide) (by kernel_rfl)
  have q38 : ∀ W, (Instr.typeAssert (.iface 38 (.pointer (some ⟨r, 0, none⟩))) 75 226 true).run Tryz.prog W = .ok (.tuple #[.pointer none, .bool false]) W := run_assert_other _ _ _ _ _ _ Tryz.underlying226 (by decide) (by kernel_rfl)
  have q39 : ∀ W, (Instr.typeAssert (.iface 38 (.pointer (some ⟨r, 0, none⟩))) 75 231 true).run Tryz.prog W = .ok (.tuple #[.pointer none, .bool false]) W := run_assert_other _ _ _ _ _ _ Tryz.underlying231 (by decide) (by kernel_rfl)
  have q40 : ∀ W, (Instr.typeAssert (.iface 38 (.pointer (some ⟨r, 0, none⟩))) 75 235 true).run Tryz.prog W = .ok (.tuple #[.pointer none, .bool false]) W := run_assert_other _ _ _ _ _ _ Tryz.underlying235 (by decide) (by kernel_rfl)
  have hb0 := (Below.refl w.heap.size w).alloc (Nat.le_refl _) (.cells #[.int .i64 0, .string ⟨#[]⟩, .string ⟨#[]⟩, .int .u64 0, .slice none 0 0] 25)
  have hr0 := heap_alloc_new w (.cells #[.int .i64 0, .string ⟨#[]⟩, .string ⟨#[]⟩, .int .u64 0, .slice none 0 0] 25)
  have HO := Lib.hid (typeNodeTvarType r g t _ ((hb0.block r (Array.getElem?_eq_some_iff.1 h).1).trans h) ((hb0.block g (Array.getElem?_eq_some_iff.1 hg).1).trans hg))
  have HB0 := Lib.hid hb0
  have HR0 := Lib.hid hr0
  clear h hg hb0 hr0
  go_enter Tryz.func17, Tryz.ntmps17
  go_wp2_with fail
  ((with_reducible refine HO.out.mono ?_))
  rintro e w1 ⟨gk, rfl, hgk, hrow, hb1⟩
  have HB1 := Lib.hid (HB0.out.trans (hb1.mono HB0.out.size))
  have hr1 : w1.heap[w.heap.size]? = some (.cells #[.int .i64 0, .string ⟨#[]⟩, .string ⟨#[]⟩, .int .u64 0, .slice none 0 0] 25 (0, 0)) := (hb1.block _ (Array.getElem?_eq_some_iff.1 HR0.out).1).trans HR0.out
  have hne : gk ≠ w.heap.size := by
    have h1 := (Array.getElem?_eq_some_iff.1 HR0.out).1
    omega
  have z0 : w1.cell? ⟨w.heap.size, 0, none⟩ = some (.int .i64 0) := by rw [Lib.cell_of_heap hr1]; rfl
  have z1 : w1.cell? ⟨w.heap.size, 1, none⟩ = some (.string ⟨#[]⟩) := by rw [Lib.cell_of_heap hr1]; rfl
  have z2 : w1.cell? ⟨w.heap.size, 2, none⟩ = some (.string ⟨#[]⟩) := by rw [Lib.cell_of_heap hr1]; rfl
  have z3 : w1.cell? ⟨w.heap.size, 3, none⟩ = some (.int .u64 0) := by rw [Lib.cell_of_heap hr1]; rfl
  have z4 : w1.cell? ⟨w.heap.size, 4, none⟩ = some (.slice none 0 0) := by rw [Lib.cell_of_heap hr1]; rfl
  have y0 := Lib.frozen_of_heap hr1 0
  have y1 := Lib.frozen_of_heap hr1 1
  have y2 := Lib.frozen_of_heap hr1 2
  have y3 := Lib.frozen_of_heap hr1 3
  have y4 := Lib.frozen_of_heap hr1 4
  have HR1 := Lib.hid hr1
  have HK1 := Lib.hid hrow
  have HGK := Lib.hid (Nat.le_trans HB0.out.size hgk)
  clear hr1 hb1 hrow hgk
  go_wp2
  have u0 := row_setG (row_setG (row_setG (row_setG (row_setG HR1.out 0 (.int .i64 46)) 1 (.string ⟨#[]⟩)) 2 (.string ⟨#[]⟩)) 3 (.int .u64 0)) 4 (.slice (some ⟨gk, 0, none⟩) 1 1)
  have u1 := ((((HB1.out.setCell (p := ⟨w.heap.size, 0, none⟩) (Nat.le_refl _) (.int .i64 46)).setCell (p := ⟨w.heap.size, 1, none⟩) (Nat.le_refl _) (.string ⟨#[]⟩)).setCell (p := ⟨w.heap.size, 2, none⟩) (Nat.le_refl _) (.string ⟨#[]⟩)).setCell (p := ⟨w.heap.size, 3, none⟩) (Nat.le_refl _) (.int .u64 0)).setCell (p := ⟨w.heap.size, 4, none⟩) (Nat.le_refl _) (.slice (some ⟨gk, 0, none⟩) 1 1)
  have v1 : (((((w1.setCell ⟨w.heap.size, 0, none⟩ (.int .i64 46)).setCell ⟨w.heap.size, 1, none⟩ (.string ⟨#[]⟩)).setCell ⟨w.heap.size, 2, none⟩ (.string ⟨#[]⟩)).setCell ⟨w.heap.size, 3, none⟩ (.int .u64 0)).setCell ⟨w.heap.size, 4, none⟩ (.slice (some ⟨gk, 0, none⟩) 1 1)).heap[gk]? = _ :=
    (Below.heap_setCell _ _ _ _ hne).trans ((Below.heap_setCell _ _ _ _ hne).trans ((Below.heap_setCell _ _ _ _ hne).trans ((Below.heap_setCell _ _ _ _ hne).trans ((Below.heap_setCell _ _ _ _ hne).trans HK1.out))))
  generalize ((((w1.setCell ⟨w.heap.size, 0, none⟩ (.int .i64 46)).setCell ⟨w.heap.size, 1, none⟩ (.string ⟨#[]⟩)).setCell ⟨w.heap.size, 2, none⟩ (.string ⟨#[]⟩)).setCell ⟨w.heap.size, 3, none⟩ (.int .u64 0)).setCell ⟨w.heap.size, 4, none⟩ (.slice (some ⟨gk, 0, none⟩) 1 1) = G at *
  have q0 : G.cell? ⟨w.heap.size, 0, none⟩ = some (.int .i64 46) := by rw [Lib.cell_of_heap u0]; rfl
  have q1 : G.cell? ⟨w.heap.size, 1, none⟩ = some (.string ⟨#[]⟩) := by rw [Lib.cell_of_heap u0]; rfl
  have q2 : G.cell? ⟨w.heap.size, 2, none⟩ = some (.string ⟨#[]⟩) := by rw [Lib.cell_of_heap u0]; rfl
  have q3 : G.cell? ⟨w.heap.size, 3, none⟩ = some (.int .u64 0) := by rw [Lib.cell_of_heap u0]; rfl
  have q4 : G.cell? ⟨w.heap.size, 4, none⟩ = some (.slice (some ⟨gk, 0, none⟩) 1 1) := by rw [Lib.cell_of_heap u0]; rfl
  refine bodyPost_ret (v := .agg #[.int .i64 46, .string ⟨#[]⟩, .string ⟨#[]⟩, .int .u64 0, .slice (some ⟨gk, 0, none⟩) 1 1]) (by simp [results, Tryz.results17, go_sem, q0, q1, q2, q3, q4]) rfl ⟨_, rfl, HGK.out, v1, u1⟩


end Go.Proofs.YtdillheepidncaaGreatDoor
