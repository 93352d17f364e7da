/- impl.node's way to typeNode. -/
import Derived.Test.YtgceklahjdbipaaGreatDoorGives
namespace Go.Proofs.YtgceklahjdbipaaGreatDoor
open Go Go.RowKit
set_option linter.unusedVariables false
set_option linter.unusedSimpArgs false

/-- The types of impl.node's own cases. -/
def nodeTypes : List TypeId := [84, 89, 90, 99, 112, 115, 118, 123, 126, 129, 138, 143, 147, 151, 155, 135, 160, 163, 167, 173, 178, 181, 185, 188, 191, 194, 201, 169, 206, 213, 215, 60, 106, 217, 220, 223, 226, 231, 236, 241, 245]

set_option maxHeartbeats 8000000 in
set_option maxRecDepth 100000 in
theorem node_way (t : TypeId) (v : Value) (ht : ∀ x ∈ nodeTypes, t ≠ x) (tr : Tr) (w : World) (h : ∀ W, Below w.heap.size w W → Calls Tryz.prog 54 #[.iface t v] W (Gives tr W)) :
    Calls Tryz.prog 19 #[.iface t v] w (Gives tr w) := by
  have q0 : ∀ W, (Instr.typeAssert (.iface t v) 83 84 true).run Tryz.prog W = .ok (.tuple #[.pointer none, .bool false]) W := run_assert_other _ _ _ _ _ _ Tryz.underlying84 (ht _ (by simp [nodeTypes])) (by kernel_rfl)
  have q1 : ∀ W, (Instr.typeAssert (.iface t v) 83 89 true).run Tryz.prog W = .ok (.tuple #[.pointer none, .bool false]) W := run_assert_other _ _ _ _ _ _ Tryz.underlying89 (ht _ (by simp [nodeTypes])) (by kernel_rfl)
  have q2 : ∀ W, (Instr.typeAssert (.iface t v) 83 90 true).run Tryz.prog W = .ok (.tuple #[.pointer none, .bool false]) W := run_assert_other _ _ _ _ _ _ Tryz.underlying90 (ht _ (by simp [nodeTypes])) (by kernel_rfl)
  have q3 : ∀ W, (Instr.typeAssert (.iface t v) 83 99 true).run Tryz.prog W = .ok (.tuple #[.pointer none, .bool false]) W := run_assert_other _ _ _ _ _ _ Tryz.underlying99 (ht _ (by simp [nodeTypes])) (by kernel_rfl)
  have q4 : ∀ W, (Instr.typeAssert (.iface t v) 83 112 true).run Tryz.prog W = .ok (.tuple #[.pointer none, .bool false]) W := run_assert_other _ _ _ _ _ _ Tryz.underlying112 (ht _ (by simp [nodeTypes])) (by kernel_rfl)
  have q5 : ∀ W, (Instr.typeAssert (.iface t v) 83 115 true).run Tryz.prog W = .ok (.tuple #[.pointer none, .bool false]) W := run_assert_other _ _ _ _ _ _ Tryz.underlying115 (ht _ (by simp [nodeTypes])) (by kernel_rfl)
  have q6 : ∀ W, (Instr.typeAssert (.iface t v) 83 118 true).run Tryz.prog W = .ok (.tuple #[.pointer none, .bool false]) W := run_assert_other _ _ _ _ _ _ Tryz.underlying118 (ht _ (by simp [nodeTypes])) (by kernel_rfl)
  have q7 : ∀ W, (Instr.typeAssert (.iface t v) 83 123 true).run Tryz.prog W = .ok (.tuple #[.pointer none, .bool false]) W := run_assert_other _ _ _ _ _ _ Tryz.underlying123 (ht _ (by simp [nodeTypes])) (by kernel_rfl)
  have q8 : ∀ W, (Instr.typeAssert (.iface t v) 83 126 true).run Tryz.prog W = .ok (.tuple #[.pointer none, .bool false]) W := run_assert_other _ _ _ _ _ _ Tryz.underlying126 (ht _ (by simp [nodeTypes])) (by kernel_rfl)
  have q9 : ∀ W, (Instr.typeAssert (.iface t v) 83 129 true).run Tryz.prog W = .ok (.tuple #[.pointer none, .bool false]) W := run_assert_other _ _ _ _ _ _ Tryz.underlying129 (ht _ (by simp [nodeTypes])) (by kernel_rfl)
  have q10 : ∀ W, (Instr.typeAssert (.iface t v) 83 138 true).run Tryz.prog W = .ok (.tuple #[.pointer none, .bool false]) W := run_assert_other _ _ _ _ _ _ Tryz.underlying138 (ht _ (by simp [nodeTypes])) (by kernel_rfl)
  have q11 : ∀ W, (Instr.typeAssert (.iface t v) 83 143 true).run Tryz.prog W = .ok (.tuple #[.pointer none, .bool false]) W := run_assert_other _ _ _ _ _ _ Tryz.underlying143 (ht _ (by simp [nodeTypes])) (by kernel_rfl)
  have q12 : ∀ W, (Instr.typeAssert (.iface t v) 83 147 true).run Tryz.prog W = .ok (.tuple #[.pointer none, .bool false]) W := run_assert_other _ _ _ _ _ _ Tryz.underlying147 (ht _ (by simp [nodeTypes])) (by kernel_rfl)
  have q13 : ∀ W, (Instr.typeAssert (.iface t v) 83 151 true).run Tryz.prog W = .ok (.tuple #[.pointer none, .bool false]) W := run_assert_other _ _ _ _ _ _ Tryz.underlying151 (ht _ (by simp [nodeTypes])) (by kernel_rfl)
  have q14 : ∀ W, (Instr.typeAssert (.iface t v) 83 155 true).run Tryz.prog W = .ok (.tuple #[.pointer none, .bool false]) W := run_assert_other _ _ _ _ _ _ Tryz.underlying155 (ht _ (by simp [nodeTypes])) (by kernel_rfl)
  have q15 : ∀ W, (Instr.typeAssert (.iface t v) 83 135 true).run Tryz.prog W = .ok (.tuple #[.pointer none, .bool false]) W := run_assert_other _ _ _ _ _ _ Tryz.underlying135 (ht _ (by simp [nodeTypes])) (by kernel_rfl)
  have q16 : ∀ W, (Instr.typeAssert (.iface t v) 83 160 true).run Tryz.prog W = .ok (.tuple #[.pointer none, .bool false]) W := run_assert_other _ _ _ _ _ _ Tryz.underlying160 (ht _ (by simp [nodeTypes])) (by kernel_rfl)
  have q17 : ∀ W, (Instr.typeAssert (.iface t v) 83 163 true).run Tryz.prog W = .ok (.tuple #[.pointer none, .bool false]) W := run_assert_other _ _ _ _ _ _ Tryz.underlying163 (ht _ (by simp [nodeTypes])) (by kernel_rfl)
  have q18 : ∀ W, (Instr.typeAssert (.iface t v) 83 167 true).run Tryz.prog W = .ok (.tuple #[.pointer none, .bool false]) W := run_assert_other _ _ _ _ _ _ Tryz.underlying167 (ht _ (by simp [nodeTypes])) (by kernel_rfl)
  have q19 : ∀ W, (Instr.typeAssert (.iface t v) 83 173 true).run Tryz.prog W = .ok (.tuple #[.pointer none, .bool false]) W := run_assert_other _ _ _ _ _ _ Tryz.underlying173 (ht _ (by simp [nodeTypes])) (by kernel_rfl)
  have q20 : ∀ W, (Instr.typeAssert (.iface t v) 83 178 true).run Tryz.prog W = .ok (.tuple #[.pointer none, .bool false]) W := run_assert_other _ _ _ _ _ _ Tryz.underlying178 (ht _ (by simp [nodeTypes])) (by kernel_rfl)
  have q21 : ∀ W, (Instr.typeAssert (.iface t v) 83 181 true).run Tryz.prog W = .ok (.tuple #[.pointer none, .bool false]) W := run_assert_other _ _ _ _ _ _ Tryz.underlying181 (ht _ (by simp [nodeTypes])) (by kernel_rfl)
  have q22 : ∀ W, (Instr.typeAssert (.iface t v) 83 185 true).run Tryz.prog W = .ok (.tuple #[.pointer none, .bool false]) W := run_assert_other _ _ _ _ _ _ Tryz.underlying185 (ht _ (by simp [nodeTypes])) (by kernel_rfl)
  have q23 : ∀ W, (Instr.typeAssert (.iface t v) 83 188 true).run Tryz.prog W = .ok (.tuple #[.pointer none, .bool false]) W := run_assert_other _ _ _ _ _ _ Tryz.underlying188 (ht _ (by simp [nodeTypes])) (by kernel_rfl)
  have q24 : ∀ W, (Instr.typeAssert (.iface t v) 83 191 true).run Tryz.prog W = .ok (.tuple #[.pointer none, .bool false]) W := run_assert_other _ _ _ _ _ _ Tryz.underlying191 (ht _ (by simp [nodeTypes])) (by kernel_rfl)
  have q25 : ∀ W, (Instr.typeAssert (.iface t v) 83 194 true).run Tryz.prog W = .ok (.tuple #[.pointer none, .bool false]) W := run_assert_other _ _ _ _ _ _ Tryz.underlying194 (ht _ (by simp [nodeTypes])) (by kernel_rfl)
  have q26 : ∀ W, (Instr.typeAssert (.iface t v) 83 201 true).run Tryz.prog W = .ok (.tuple #[.pointer none, .bool false]) W := run_assert_other _ _ _ _ _ _ Tryz.underlying201 (ht _ (by simp [nodeTypes])) (by kernel_rfl)
  have q27 : ∀ W, (Instr.typeAssert (.iface t v) 83 169 true).run Tryz.prog W = .ok (.tuple #[.pointer none, .bool false]) W := run_assert_other _ _ _ _ _ _ Tryz.underlying169 (ht _ (by simp [nodeTypes])) (by kernel_rfl)
  have q28 : ∀ W, (Instr.typeAssert (.iface t v) 83 206 true).run Tryz.prog W = .ok (.tuple #[.pointer none, .bool false]) W := run_assert_other _ _ _ _ _ _ Tryz.underlying206 (ht _ (by simp [nodeTypes])) (by kernel_rfl)
  have q29 : ∀ W, (Instr.typeAssert (.iface t v) 83 213 true).run Tryz.prog W = .ok (.tuple #[.pointer none, .bool false]) W := run_assert_other _ _ _ _ _ _ Tryz.underlying213 (ht _ (by simp [nodeTypes])) (by kernel_rfl)
  have q30 : ∀ W, (Instr.typeAssert (.iface t v) 83 215 true).run Tryz.prog W = .ok (.tuple #[.pointer none, .bool false]) W := run_assert_other _ _ _ _ _ _ Tryz.underlying215 (ht _ (by simp [nodeTypes])) (by kernel_rfl)
  have q31 : ∀ W, (Instr.typeAssert (.iface t v) 83 60 true).run Tryz.prog W = .ok (.tuple #[.pointer none, .bool false]) W := run_assert_other _ _ _ _ _ _ Tryz.underlying60 (ht _ (by simp [nodeTypes])) (by kernel_rfl)
  have q32 : ∀ W, (Instr.typeAssert (.iface t v) 83 106 true).run Tryz.prog W = .ok (.tuple #[.pointer none, .bool false]) W := run_assert_other _ _ _ _ _ _ Tryz.underlying106 (ht _ (by simp [nodeTypes])) (by kernel_rfl)
  have q33 : ∀ W, (Instr.typeAssert (.iface t v) 83 217 true).run Tryz.prog W = .ok (.tuple #[.pointer none, .bool false]) W := run_assert_other _ _ _ _ _ _ Tryz.underlying217 (ht _ (by simp [nodeTypes])) (by kernel_rfl)
  have q34 : ∀ W, (Instr.typeAssert (.iface t v) 83 220 true).run Tryz.prog W = .ok (.tuple #[.pointer none, .bool false]) W := run_assert_other _ _ _ _ _ _ Tryz.underlying220 (ht _ (by simp [nodeTypes])) (by kernel_rfl)
  have q35 : ∀ W, (Instr.typeAssert (.iface t v) 83 223 true).run Tryz.prog W = .ok (.tuple #[.pointer none, .bool false]) W := run_assert_other _ _ _ _ _ _ Tryz.underlying223 (ht _ (by simp [nodeTypes])) (by kernel_rfl)
  have q36 : ∀ W, (Instr.typeAssert (.iface t v) 83 226 true).run Tryz.prog W = .ok (.tuple #[.pointer none, .bool false]) W := run_assert_other _ _ _ _ _ _ Tryz.underlying226 (ht _ (by simp [nodeTypes])) (by kernel_rfl)
  have q37 : ∀ W, (Instr.typeAssert (.iface t v) 83 231 true).run Tryz.prog W = .ok (.tuple #[.pointer none, .bool false]) W := run_assert_other _ _ _ _ _ _ Tryz.underlying231 (ht _ (by simp [nodeTypes])) (by kernel_rfl)
  have q38 : ∀ W, (Instr.typeAssert (.iface t v) 83 236 true).run Tryz.prog W = .ok (.tuple #[.pointer none, .bool false]) W := run_assert_other _ _ _ _ _ _ Tryz.underlying236 (ht _ (by simp [nodeTypes])) (by kernel_rfl)
  have q39 : ∀ W, (Instr.typeAssert (.iface t v) 83 241 true).run Tryz.prog W = .ok (.tuple #[.pointer none, .bool false]) W := run_assert_other _ _ _ _ _ _ Tryz.underlying241 (ht _ (by simp [nodeTypes])) (by kernel_rfl)
  have q40 : ∀ W, (Instr.typeAssert (.iface t v) 83 245 true).run Tryz.prog W = .ok (.tuple #[.pointer none, .bool false]) W := run_assert_other _ _ _ _ _ _ Tryz.underlying245 (ht _ (by simp [nodeTypes])) (by kernel_rfl)
  have hb0 := (Below.refl w.heap.size w).alloc (Nat.le_refl _) (.cells #[.int .i64 0, .string ⟨#[]⟩, .string ⟨#[]⟩, .int .u64 0, .slice none 0 0] 25)
  have hr0 := heap_alloc_new w (.cells #[.int .i64 0, .string ⟨#[]⟩, .string ⟨#[]⟩, .int .u64 0, .slice none 0 0] 25)
  have hs0 : (w.alloc (.cells #[.int .i64 0, .string ⟨#[]⟩, .string ⟨#[]⟩, .int .u64 0, .slice none 0 0] 25)).heap.size = w.heap.size + 1 := alloc_size _ _
  have HD := Lib.hid (h _ hb0)
  have HB0 := Lib.hid hb0
  have HR0 := Lib.hid hr0
  have HS0 := Lib.hid hs0
  clear h hb0 hr0 hs0 ht
  go_enter Tryz.func19, Tryz.ntmps19
  go_wp2_with fail
  ((with_reducible refine HD.out.mono ?_))
  rintro e w1 ⟨a, c, rfl, hn1, hb1⟩
  have hr1 : w1.heap[w.heap.size]? = some (.cells #[.int .i64 0, .string ⟨#[]⟩, .string ⟨#[]⟩, .int .u64 0, .slice none 0 0] 25 (0, 0)) := (hb1.block _ (Array.getElem?_eq_some_iff.1 HR0.out).1).trans HR0.out
  have z0 : w1.cell? ⟨w.heap.size, 0, none⟩ = some (.int .i64 0) := by rw [Lib.cell_of_heap hr1]; rfl
  have z1 : w1.cell? ⟨w.heap.size, 1, none⟩ = some (.string ⟨#[]⟩) := by rw [Lib.cell_of_heap hr1]; rfl
  have z2 : w1.cell? ⟨w.heap.size, 2, none⟩ = some (.string ⟨#[]⟩) := by rw [Lib.cell_of_heap hr1]; rfl
  have z3 : w1.cell? ⟨w.heap.size, 3, none⟩ = some (.int .u64 0) := by rw [Lib.cell_of_heap hr1]; rfl
  have z4 : w1.cell? ⟨w.heap.size, 4, none⟩ = some (.slice none 0 0) := by rw [Lib.cell_of_heap hr1]; rfl
  have y0 := Lib.frozen_of_heap hr1 0
  have y1 := Lib.frozen_of_heap hr1 1
  have y2 := Lib.frozen_of_heap hr1 2
  have y3 := Lib.frozen_of_heap hr1 3
  have y4 := Lib.frozen_of_heap hr1 4
  have HN1 := Lib.hid hn1
  have HB1 := Lib.hid (HB0.out.trans (hb1.mono HB0.out.size))
  have HR1 := Lib.hid hr1
  clear hb1 hr1 hn1
  go_wp2
  have u0 := row_setG (row_setG (row_setG (row_setG (row_setG HR1.out 0 (.int .i64 tr.kind)) 1 (.string tr.text)) 2 (.string tr.more)) 3 (.int .u64 tr.num)) 4 (.slice a tr.kids.length c)
  have u1 := set_five_below HB1.out (.int .i64 tr.kind) (.string tr.text) (.string tr.more) (.int .u64 tr.num) (.slice a tr.kids.length c)
  have u2 := set_five (b := w.heap.size) (v0 := .int .i64 tr.kind) (v1 := .string tr.text) (v2 := .string tr.more) (v3 := .int .u64 tr.num) (v4 := .slice a tr.kids.length c) (by rw [HS0.out]; omega) HN1.out
  generalize (((((w1.setCell ⟨w.heap.size, 0, none⟩ (.int .i64 tr.kind)).setCell ⟨w.heap.size, 1, none⟩ (.string tr.text)).setCell ⟨w.heap.size, 2, none⟩ (.string tr.more)).setCell ⟨w.heap.size, 3, none⟩ (.int .u64 tr.num)).setCell ⟨w.heap.size, 4, none⟩ (.slice a tr.kids.length c)) = F at *
  have q0 : F.cell? ⟨w.heap.size, 0, none⟩ = some (.int .i64 tr.kind) := by rw [Lib.cell_of_heap u0]; rfl
  have q1 : F.cell? ⟨w.heap.size, 1, none⟩ = some (.string tr.text) := by rw [Lib.cell_of_heap u0]; rfl
  have q2 : F.cell? ⟨w.heap.size, 2, none⟩ = some (.string tr.more) := by rw [Lib.cell_of_heap u0]; rfl
  have q3 : F.cell? ⟨w.heap.size, 3, none⟩ = some (.int .u64 tr.num) := by rw [Lib.cell_of_heap u0]; rfl
  have q4 : F.cell? ⟨w.heap.size, 4, none⟩ = some (.slice a tr.kids.length c) := by rw [Lib.cell_of_heap u0]; rfl
  rw [HS0.out] at u2
  refine bodyPost_ret (v := .agg #[.int .i64 tr.kind, .string tr.text, .string tr.more, .int .u64 tr.num, .slice a tr.kids.length c]) (by simp [results, Tryz.results19, go_sem, q0, q1, q2, q3, q4]) rfl ⟨a, c, rfl, u2.mono fun b hb => ⟨by omega, hb.2⟩, u1⟩

theorem way_types : (∀ x ∈ nodeTypes, 308 ≠ x) ∧ (∀ x ∈ nodeTypes, 38 ≠ x) ∧ (∀ x ∈ nodeTypes, 311 ≠ x) ∧ (∀ x ∈ nodeTypes, 67 ≠ x) ∧ (∀ x ∈ nodeTypes, 316 ≠ x) ∧ (∀ x ∈ nodeTypes, 59 ≠ x) ∧ (∀ x ∈ nodeTypes, 285 ≠ x) ∧ (∀ x ∈ nodeTypes, 73 ≠ x) ∧ (∀ x ∈ nodeTypes, 306 ≠ x) ∧ (∀ x ∈ nodeTypes, 303 ≠ x) := by decide

end Go.Proofs.YtgceklahjdbipaaGreatDoor
