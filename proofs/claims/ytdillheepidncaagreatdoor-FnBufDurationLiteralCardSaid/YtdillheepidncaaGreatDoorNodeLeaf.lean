/- impl.node over nodes of one text or number. -/
import Derived.Test.YtdillheepidncaaGreatDoorGetNode
import Derived.Laws.Externs
namespace Go.Proofs.YtdillheepidncaaGreatDoor
open Go Go.RowKit
set_option linter.unusedVariables false
set_option linter.unusedSimpArgs false

theorem run_assert_other {P : Program} (t xT asserted e : TypeId) (v z : Value) (hu : P.underlying asserted = some (.pointer e)) (hne : t ≠ asserted) (hz : (P.info? asserted).map (·.zero) = some (some z)) (W : World) :
    (Instr.typeAssert (.iface t v) xT asserted true).run P W = .ok (.tuple #[z, .bool false]) W := by
  obtain ⟨j, hj, hz'⟩ := Option.map_eq_some_iff.1 hz
  simp [Instr.typeAssert, run_underlying hu, hne, zeroValue, hj, hz', typeInfo]

theorem run_assert_same {P : Program} (t xT e : TypeId) (v : Value) (hu : P.underlying t = some (.pointer e)) (W : World) :
    (Instr.typeAssert (.iface t v) xT t true).run P W = .ok (.tuple #[v, .bool true]) W := by
  simp [Instr.typeAssert, run_underlying hu]


set_option maxHeartbeats 8000000 in
set_option maxRecDepth 100000 in
theorem nodeBadStatement (r : Nat) (t : ByteArray) (w : World) (h : w.heap[r]? = some (.cells #[.pointer none, .slice none 0 0, .slice none 0 0, .string t] 105 (0, 0))) :
    Calls Tryz.prog 17 #[.iface 103 (.pointer (some ⟨r, 0, none⟩))] w fun e w' => e = .returned (.agg #[.int .i64 7, .string t, .string ⟨#[]⟩, .int .u64 0, .slice none 0 0]) ∧ Below w.heap.size w w' := by
  have q0 : ∀ W, (Instr.typeAssert (.iface 103 (.pointer (some ⟨r, 0, none⟩))) 75 76 true).run Tryz.prog W = .ok (.tuple #[.pointer none, .bool false]) W := run_assert_other _ _ _ _ _ _ Tryz.underlying76 (by decide) (by kernel_rfl)
  have q1 : ∀ W, (Instr.typeAssert (.iface 103 (.pointer (some ⟨r, 0, none⟩))) 75 81 true).run Tryz.prog W = .ok (.tuple #[.pointer none, .bool false]) W := run_assert_other _ _ _ _ _ _ Tryz.underlying81 (by decide) (by kernel_rfl)
  have q2 : ∀ W, (Instr.typeAssert (.iface 103 (.pointer (some ⟨r, 0, none⟩))) 75 82 true).run Tryz.prog W = .ok (.tuple #[.pointer none, .bool false]) W := run_assert_other _ _ _ _ _ _ Tryz.underlying82 (by decide) (by kernel_rfl)
  have q3 : ∀ W, (Instr.typeAssert (.iface 103 (.pointer (some ⟨r, 0, none⟩))) 75 58 true).run Tryz.prog W = .ok (.tuple #[.pointer none, .bool false]) W := run_assert_other _ _ _ _ _ _ Tryz.underlying58 (by decide) (by kernel_rfl)
  have q4 : ∀ W, (Instr.typeAssert (.iface 103 (.pointer (some ⟨r, 0, none⟩))) 75 100 true).run Tryz.prog W = .ok (.tuple #[.pointer none, .bool false]) W := run_assert_other _ _ _ _ _ _ Tryz.underlying100 (by decide) (by kernel_rfl)
  have q5 : ∀ W, (Instr.typeAssert (.iface 103 (.pointer (some ⟨r, 0, none⟩))) 75 103 true).run Tryz.prog W = .ok (.tuple #[.pointer (some ⟨r, 0, none⟩), .bool true]) W := run_assert_same _ _ _ _ Tryz.underlying103
  have c3 : w.cell? ⟨r, 3, none⟩ = some (.string t) := by rw [Lib.cell_of_heap h]; rfl
  have hr : r < w.heap.size := (Array.getElem?_eq_some_iff.1 h).1
  clear h
  go_enter Tryz.func17, Tryz.ntmps17
  go_wp2
  refine bodyPost_ret (v := .agg #[.int .i64 7, .string t, .string ⟨#[]⟩, .int .u64 0, .slice none 0 0]) (by simp [results, Tryz.results17, go_sem]) rfl ⟨rfl, (Below.refl _ w).alloc (Nat.le_refl _) _⟩


set_option maxHeartbeats 8000000 in
set_option maxRecDepth 100000 in
theorem nodeIdentifier (r : Nat) (t : ByteArray) (w : World) (h : w.heap[r]? = some (.cells #[.pointer none, .slice none 0 0, .slice none 0 0, .string t] 96 (0, 0))) :
    Calls Tryz.prog 17 #[.iface 44 (.pointer (some ⟨r, 0, none⟩))] w fun e w' => e = .returned (.agg #[.int .i64 33, .string t, .string ⟨#[]⟩, .int .u64 0, .slice none 0 0]) ∧ Below w.heap.size w w' := by
  have q0 : ∀ W, (Instr.typeAssert (.iface 44 (.pointer (some ⟨r, 0, none⟩))) 75 76 true).run Tryz.prog W = .ok (.tuple #[.pointer none, .bool false]) W := run_assert_other _ _ _ _ _ _ Tryz.underlying76 (by decide) (by kernel_rfl)
  have q1 : ∀ W, (Instr.typeAssert (.iface 44 (.pointer (some ⟨r, 0, none⟩))) 75 81 true).run Tryz.prog W = .ok (.tuple #[.pointer none, .bool false]) W := run_assert_other _ _ _ _ _ _ Tryz.underlying81 (by decide) (by kernel_rfl)
  have q2 : ∀ W, (Instr.typeAssert (.iface 44 (.pointer (some ⟨r, 0, none⟩))) 75 82 true).run Tryz.prog W = .ok (.tuple #[.pointer none, .bool false]) W := run_assert_other _ _ _ _ _ _ Tryz.underlying82 (by decide) (by kernel_rfl)
  have q3 : ∀ W, (Instr.typeAssert (.iface 44 (.pointer (some ⟨r, 0, none⟩))) 75 58 true).run Tryz.prog W = .ok (.tuple #[.pointer none, .bool false]) W := run_assert_other _ _ _ _ _ _ Tryz.underlying58 (by decide) (by kernel_rfl)
  have q4 : ∀ W, (Instr.typeAssert (.iface 44 (.pointer (some ⟨r, 0, none⟩))) 75 100 true).run Tryz.prog W = .ok (.tuple #[.pointer none, .bool false]) W := run_assert_other _ _ _ _ _ _ Tryz.underlying100 (by decide) (by kernel_rfl)
  have q5 : ∀ W, (Instr.typeAssert (.iface 44 (.pointer (some ⟨r, 0, none⟩))) 75 103 true).run Tryz.prog W = .ok (.tuple #[.pointer none, .bool false]) W := run_assert_other _ _ _ _ _ _ Tryz.underlying103 (by decide) (by kernel_rfl)
  have q6 : ∀ W, (Instr.typeAssert (.iface 44 (.pointer (some ⟨r, 0, none⟩))) 75 106 true).run Tryz.prog W = .ok (.tuple #[.pointer none, .bool false]) W := run_assert_other _ _ _ _ _ _ Tryz.underlying106 (by decide) (by kernel_rfl)
  have q7 : ∀ W, (Instr.typeAssert (.iface 44 (.pointer (some ⟨r, 0, none⟩))) 75 111 true).run Tryz.prog W = .ok (.tuple #[.pointer none, .bool false]) W := run_assert_other _ _ _ _ _ _ Tryz.underlying111 (by decide) (by kernel_rfl)
  have q8 : ∀ W, (Instr.typeAssert (.iface 44 (.pointer (some ⟨r, 0, none⟩))) 75 114 true).run Tryz.prog W = .ok (.tuple #[.pointer none, .bool false]) W := run_assert_other _ _ _ _ _ _ Tryz.underlying114 (by decide) (by kernel_rfl)
  have q9 : ∀ W, (Instr.typeAssert (.iface 44 (.pointer (some ⟨r, 0, none⟩))) 75 117 true).run Tryz.prog W = .ok (.tuple #[.pointer none, .bool false]) W := run_assert_other _ _ _ _ _ _ Tryz.underlying117 (by decide) (by kernel_rfl)
  have q10 : ∀ W, (Instr.typeAssert (.iface 44 (.pointer (some ⟨r, 0, none⟩))) 75 126 true).run Tryz.prog W = .ok (.tuple #[.pointer none, .bool false]) W := run_assert_other _ _ _ _ _ _ Tryz.underlying126 (by decide) (by kernel_rfl)
  have q11 : ∀ W, (Instr.typeAssert (.iface 44 (.pointer (some ⟨r, 0, none⟩))) 75 131 true).run Tryz.prog W = .ok (.tuple #[.pointer none, .bool false]) W := run_assert_other _ _ _ _ _ _ Tryz.underlying131 (by decide) (by kernel_rfl)
  have q12 : ∀ W, (Instr.typeAssert (.iface 44 (.pointer (some ⟨r, 0, none⟩))) 75 141 true).run Tryz.prog W = .ok (.tuple #[.pointer none, .bool false]) W := run_assert_other _ _ _ _ _ _ Tryz.underlying141 (by decide) (by kernel_rfl)
  have q13 : ∀ W, (Instr.typeAssert (.iface 44 (.pointer (some ⟨r, 0, none⟩))) 75 145 true).run Tryz.prog W = .ok (.tuple #[.pointer none, .bool false]) W := run_assert_other _ _ _ _ _ _ Tryz.underlying145 (by decide) (by kernel_rfl)
  have q14 : ∀ W, (Instr.typeAssert (.iface 44 (.pointer (some ⟨r, 0, none⟩))) 75 149 true).run Tryz.prog W = .ok (.tuple #[.pointer none, .bool false]) W := run_assert_other _ _ _ _ _ _ Tryz.underlying149 (by decide) (by kernel_rfl)
  have q15 : ∀ W, (Instr.typeAssert (.iface 44 (.pointer (some ⟨r, 0, none⟩))) 75 123 true).run Tryz.prog W = .ok (.tuple #[.pointer none, .bool false]) W := run_assert_other _ _ _ _ _ _ Tryz.underlying123 (by decide) (by kernel_rfl)
  have q16 : ∀ W, (Instr.typeAssert (.iface 44 (.pointer (some ⟨r, 0, none⟩))) 75 154 true).run Tryz.prog W = .ok (.tuple #[.pointer none, .bool false]) W := run_assert_other _ _ _ _ _ _ Tryz.underlying154 (by decide) (by kernel_rfl)
  have q17 : ∀ W, (Instr.typeAssert (.iface 44 (.pointer (some ⟨r, 0, none⟩))) 75 157 true).run Tryz.prog W = .ok (.tuple #[.pointer none, .bool false]) W := run_assert_other _ _ _ _ _ _ Tryz.underlying157 (by decide) (by kernel_rfl)
  have q18 : ∀ W, (Instr.typeAssert (.iface 44 (.pointer (some ⟨r, 0, none⟩))) 75 161 true).run Tryz.prog W = .ok (.tuple #[.pointer none, .bool false]) W := run_assert_other _ _ _ _ _ _ Tryz.underlying161 (by decide) (by kernel_rfl)
  have q19 : ∀ W, (Instr.typeAssert (.iface 44 (.pointer (some ⟨r, 0, none⟩))) 75 167 true).run Tryz.prog W = .ok (.tuple #[.pointer none, .bool false]) W := run_assert_other _ _ _ _ _ _ Tryz.underlying167 (by decide) (by kernel_rfl)
  have q20 : ∀ W, (Instr.typeAssert (.iface 44 (.pointer (some ⟨r, 0, none⟩))) 75 172 true).run Tryz.prog W = .ok (.tuple #[.pointer none, .bool false]) W := run_assert_other _ _ _ _ _ _ Tryz.underlying172 (by decide) (by kernel_rfl)
  have q21 : ∀ W, (Instr.typeAssert (.iface 44 (.pointer (some ⟨r, 0, none⟩))) 75 175 true).run Tryz.prog W = .ok (.tuple #[.pointer none, .bool false]) W := run_assert_other _ _ _ _ _ _ Tryz.underlying175 (by decide) (by kernel_rfl)
  have q22 : ∀ W, (Instr.typeAssert (.iface 44 (.pointer (some ⟨r, 0, none⟩))) 75 179 true).run Tryz.prog W = .ok (.tuple #[.pointer none, .bool false]) W := run_assert_other _ _ _ _ _ _ Tryz.underlying179 (by decide) (by kernel_rfl)
  have q23 : ∀ W, (Instr.typeAssert (.iface 44 (.pointer (some ⟨r, 0, none⟩))) 75 182 true).run Tryz.prog W = .ok (.tuple #[.pointer none, .bool false]) W := run_assert_other _ _ _ _ _ _ Tryz.underlying182 (by decide) (by kernel_rfl)
  have q24 : ∀ W, (Instr.typeAssert (.iface 44 (.pointer (some ⟨r, 0, none⟩))) 75 185 true).run Tryz.prog W = .ok (.tuple #[.pointer none, .bool false]) W := run_assert_other _ _ _ _ _ _ Tryz.underlying185 (by decide) (by kernel_rfl)
  have q25 : ∀ W, (Instr.typeAssert (.iface 44 (.pointer (some ⟨r, 0, none⟩))) 75 188 true).run Tryz.prog W = .ok (.tuple #[.pointer none, .bool false]) W := run_assert_other _ _ _ _ _ _ Tryz.underlying188 (by decide) (by kernel_rfl)
  have q26 : ∀ W, (Instr.typeAssert (.iface 44 (.pointer (some ⟨r, 0, none⟩))) 75 195 true).run Tryz.prog W = .ok (.tuple #[.pointer none, .bool false]) W := run_assert_other _ _ _ _ _ _ Tryz.underlying195 (by decide) (by kernel_rfl)
  have q27 : ∀ W, (Instr.typeAssert (.iface 44 (.pointer (some ⟨r, 0, none⟩))) 75 163 true).run Tryz.prog W = .ok (.tuple #[.pointer none, .bool false]) W := run_assert_other _ _ _ _ _ _ Tryz.underlying163 (by decide) (by kernel_rfl)
  have q28 : ∀ W, (Instr.typeAssert (.iface 44 (.pointer (some ⟨r, 0, none⟩))) 75 200 true).run Tryz.prog W = .ok (.tuple #[.pointer none, .bool false]) W := run_assert_other _ _ _ _ _ _ Tryz.underlying200 (by decide) (by kernel_rfl)
  have q29 : ∀ W, (Instr.typeAssert (.iface 44 (.pointer (some ⟨r, 0, none⟩))) 75 207 true).run Tryz.prog W = .ok (.tuple #[.pointer none, .bool false]) W := run_assert_other _ _ _ _ _ _ Tryz.underlying207 (by decide) (by kernel_rfl)
  have q30 : ∀ W, (Instr.typeAssert (.iface 44 (.pointer (some ⟨r, 0, none⟩))) 75 209 true).run Tryz.prog W = .ok (.tuple #[.pointer none, .bool false]) W := run_assert_other _ _ _ _ _ _ Tryz.underlying209 (by decide) (by kernel_rfl)
  have q31 : ∀ W, (Instr.typeAssert (.iface 44 (.pointer (some ⟨r, 0, none⟩))) 75 44 true).run Tryz.prog W = .ok (.tuple #[.pointer (some ⟨r, 0, none⟩), .bool true]) W := run_assert_same _ _ _ _ Tryz.underlying44
  have c3 : w.cell? ⟨r, 3, none⟩ = some (.string t) := by rw [Lib.cell_of_heap h]; rfl
  have hr : r < w.heap.size := (Array.getElem?_eq_some_iff.1 h).1
  clear h
  go_enter Tryz.func17, Tryz.ntmps17
  go_wp2
  refine bodyPost_ret (v := .agg #[.int .i64 33, .string t, .string ⟨#[]⟩, .int .u64 0, .slice none 0 0]) (by simp [results, Tryz.results17, go_sem]) rfl ⟨rfl, (Below.refl _ w).alloc (Nat.le_refl _) _⟩


set_option maxHeartbeats 8000000 in
set_option maxRecDepth 100000 in
theorem nodeStringLiteral (r : Nat) (t : ByteArray) (w : World) (h : w.heap[r]? = some (.cells #[.pointer none, .slice none 0 0, .slice none 0 0, .string t] 99 (0, 0))) :
    Calls Tryz.prog 17 #[.iface 59 (.pointer (some ⟨r, 0, none⟩))] w fun e w' => e = .returned (.agg #[.int .i64 34, .string t, .string ⟨#[]⟩, .int .u64 0, .slice none 0 0]) ∧ Below w.heap.size w w' := by
  have q0 : ∀ W, (Instr.typeAssert (.iface 59 (.pointer (some ⟨r, 0, none⟩))) 75 76 true).run Tryz.prog W = .ok (.tuple #[.pointer none, .bool false]) W := run_assert_other _ _ _ _ _ _ Tryz.underlying76 (by decide) (by kernel_rfl)
  have q1 : ∀ W, (Instr.typeAssert (.iface 59 (.pointer (some ⟨r, 0, none⟩))) 75 81 true).run Tryz.prog W = .ok (.tuple #[.pointer none, .bool false]) W := run_assert_other _ _ _ _ _ _ Tryz.underlying81 (by decide) (by kernel_rfl)
  have q2 : ∀ W, (Instr.typeAssert (.iface 59 (.pointer (some ⟨r, 0, none⟩))) 75 82 true).run Tryz.prog W = .ok (.tuple #[.pointer none, .bool false]) W := run_assert_other _ _ _ _ _ _ Tryz.underlying82 (by decide) (by kernel_rfl)
  have q3 : ∀ W, (Instr.typeAssert (.iface 59 (.pointer (some ⟨r, 0, none⟩))) 75 58 true).run Tryz.prog W = .ok (.tuple #[.pointer none, .bool false]) W := run_assert_other _ _ _ _ _ _ Tryz.underlying58 (by decide) (by kernel_rfl)
  have q4 : ∀ W, (Instr.typeAssert (.iface 59 (.pointer (some ⟨r, 0, none⟩))) 75 100 true).run Tryz.prog W = .ok (.tuple #[.pointer none, .bool false]) W := run_assert_other _ _ _ _ _ _ Tryz.underlying100 (by decide) (by kernel_rfl)
  have q5 : ∀ W, (Instr.typeAssert (.iface 59 (.pointer (some ⟨r, 0, none⟩))) 75 103 true).run Tryz.prog W = .ok (.tuple #[.pointer none, .bool false]) W := run_assert_other _ _ _ _ _ _ Tryz.underlying103 (by decide) (by kernel_rfl)
  have q6 : ∀ W, (Instr.typeAssert (.iface 59 (.pointer (some ⟨r, 0, none⟩))) 75 106 true).run Tryz.prog W = .ok (.tuple #[.pointer none, .bool false]) W := run_assert_other _ _ _ _ _ _ Tryz.underlying106 (by decide) (by kernel_rfl)
  have q7 : ∀ W, (Instr.typeAssert (.iface 59 (.pointer (some ⟨r, 0, none⟩))) 75 111 true).run Tryz.prog W = .ok (.tuple #[.pointer none, .bool false]) W := run_assert_other _ _ _ _ _ _ Tryz.underlying111 (by decide) (by kernel_rfl)
  have q8 : ∀ W, (Instr.typeAssert (.iface 59 (.pointer (some ⟨r, 0, none⟩))) 75 114 true).run Tryz.prog W = .ok (.tuple #[.pointer none, .bool false]) W := run_assert_other _ _ _ _ _ _ Tryz.underlying114 (by decide) (by kernel_rfl)
  have q9 : ∀ W, (Instr.typeAssert (.iface 59 (.pointer (some ⟨r, 0, none⟩))) 75 117 true).run Tryz.prog W = .ok (.tuple #[.pointer none, .bool false]) W := run_assert_other _ _ _ _ _ _ Tryz.underlying117 (by decide) (by kernel_rfl)
  have q10 : ∀ W, (Instr.typeAssert (.iface 59 (.pointer (some ⟨r, 0, none⟩))) 75 126 true).run Tryz.prog W = .ok (.tuple #[.pointer none, .bool false]) W := run_assert_other _ _ _ _ _ _ Tryz.underlying126 (by decide) (by kernel_rfl)
  have q11 : ∀ W, (Instr.typeAssert (.iface 59 (.pointer (some ⟨r, 0, none⟩))) 75 131 true).run Tryz.prog W = .ok (.tuple #[.pointer none, .bool false]) W := run_assert_other _ _ _ _ _ _ Tryz.underlying131 (by decide) (by kernel_rfl)
  have q12 : ∀ W, (Instr.typeAssert (.iface 59 (.pointer (some ⟨r, 0, none⟩))) 75 141 true).run Tryz.prog W = .ok (.tuple #[.pointer none, .bool false]) W := run_assert_other _ _ _ _ _ _ Tryz.underlying141 (by decide) (by kernel_rfl)
  have q13 : ∀ W, (Instr.typeAssert (.iface 59 (.pointer (some ⟨r, 0, none⟩))) 75 145 true).run Tryz.prog W = .ok (.tuple #[.pointer none, .bool false]) W := run_assert_other _ _ _ _ _ _ Tryz.underlying145 (by decide) (by kernel_rfl)
  have q14 : ∀ W, (Instr.typeAssert (.iface 59 (.pointer (some ⟨r, 0, none⟩))) 75 149 true).run Tryz.prog W = .ok (.tuple #[.pointer none, .bool false]) W := run_assert_other _ _ _ _ _ _ Tryz.underlying149 (by decide) (by kernel_rfl)
  have q15 : ∀ W, (Instr.typeAssert (.iface 59 (.pointer (some ⟨r, 0, none⟩))) 75 123 true).run Tryz.prog W = .ok (.tuple #[.pointer none, .bool false]) W := run_assert_other _ _ _ _ _ _ Tryz.underlying123 (by decide) (by kernel_rfl)
  have q16 : ∀ W, (Instr.typeAssert (.iface 59 (.pointer (some ⟨r, 0, none⟩))) 75 154 true).run Tryz.prog W = .ok (.tuple #[.pointer none, .bool false]) W := run_assert_other _ _ _ _ _ _ Tryz.underlying154 (by decide) (by kernel_rfl)
  have q17 : ∀ W, (Instr.typeAssert (.iface 59 (.pointer (some ⟨r, 0, none⟩))) 75 157 true).run Tryz.prog W = .ok (.tuple #[.pointer none, .bool false]) W := run_assert_other _ _ _ _ _ _ Tryz.underlying157 (by decide) (by kernel_rfl)
  have q18 : ∀ W, (Instr.typeAssert (.iface 59 (.pointer (some ⟨r, 0, none⟩))) 75 161 true).run Tryz.prog W = .ok (.tuple #[.pointer none, .bool false]) W := run_assert_other _ _ _ _ _ _ Tryz.underlying161 (by decide) (by kernel_rfl)
  have q19 : ∀ W, (Instr.typeAssert (.iface 59 (.pointer (some ⟨r, 0, none⟩))) 75 167 true).run Tryz.prog W = .ok (.tuple #[.pointer none, .bool false]) W := run_assert_other _ _ _ _ _ _ Tryz.underlying167 (by decide) (by kernel_rfl)
  have q20 : ∀ W, (Instr.typeAssert (.iface 59 (.pointer (some ⟨r, 0, none⟩))) 75 172 true).run Tryz.prog W = .ok (.tuple #[.pointer none, .bool false]) W := run_assert_other _ _ _ _ _ _ Tryz.underlying172 (by decide) (by kernel_rfl)
  have q21 : ∀ W, (Instr.typeAssert (.iface 59 (.pointer (some ⟨r, 0, none⟩))) 75 175 true).run Tryz.prog W = .ok (.tuple #[.pointer none, .bool false]) W := run_assert_other _ _ _ _ _ _ Tryz.underlying175 (by decide) (by kernel_rfl)
  have q22 : ∀ W, (Instr.typeAssert (.iface 59 (.pointer (some ⟨r, 0, none⟩))) 75 179 true).run Tryz.prog W = .ok (.tuple #[.pointer none, .bool false]) W := run_assert_other _ _ _ _ _ _ Tryz.underlying179 (by decide) (by kernel_rfl)
  have q23 : ∀ W, (Instr.typeAssert (.iface 59 (.pointer (some ⟨r, 0, none⟩))) 75 182 true).run Tryz.prog W = .ok (.tuple #[.pointer none, .bool false]) W := run_assert_other _ _ _ _ _ _ Tryz.underlying182 (by decide) (by kernel_rfl)
  have q24 : ∀ W, (Instr.typeAssert (.iface 59 (.pointer (some ⟨r, 0, none⟩))) 75 185 true).run Tryz.prog W = .ok (.tuple #[.pointer none, .bool false]) W := run_assert_other _ _ _ _ _ _ Tryz.underlying185 (by decide) (by kernel_rfl)
  have q25 : ∀ W, (Instr.typeAssert (.iface 59 (.pointer (some ⟨r, 0, none⟩))) 75 188 true).run Tryz.prog W = .ok (.tuple #[.pointer none, .bool false]) W := run_assert_other _ _ _ _ _ _ Tryz.underlying188 (by decide) (by kernel_rfl)
  have q26 : ∀ W, (Instr.typeAssert (.iface 59 (.pointer (some ⟨r, 0, none⟩))) 75 195 true).run Tryz.prog W = .ok (.tuple #[.pointer none, .bool false]) W := run_assert_other _ _ _ _ _ _ Tryz.underlying195 (by decide) (by kernel_rfl)
  have q27 : ∀ W, (Instr.typeAssert (.iface 59 (.pointer (some ⟨r, 0, none⟩))) 75 163 true).run Tryz.prog W = .ok (.tuple #[.pointer none, .bool false]) W := run_assert_other _ _ _ _ _ _ Tryz.underlying163 (by decide) (by kernel_rfl)
  have q28 : ∀ W, (Instr.typeAssert (.iface 59 (.pointer (some ⟨r, 0, none⟩))) 75 200 true).run Tryz.prog W = .ok (.tuple #[.pointer none, .bool false]) W := run_assert_other _ _ _ _ _ _ Tryz.underlying200 (by decide) (by kernel_rfl)
  have q29 : ∀ W, (Instr.typeAssert (.iface 59 (.pointer (some ⟨r, 0, none⟩))) 75 207 true).run Tryz.prog W = .ok (.tuple #[.pointer none, .bool false]) W := run_assert_other _ _ _ _ _ _ Tryz.underlying207 (by decide) (by kernel_rfl)
  have q30 : ∀ W, (Instr.typeAssert (.iface 59 (.pointer (some ⟨r, 0, none⟩))) 75 209 true).run Tryz.prog W = .ok (.tuple #[.pointer none, .bool false]) W := run_assert_other _ _ _ _ _ _ Tryz.underlying209 (by decide) (by kernel_rfl)
  have q31 : ∀ W, (Instr.typeAssert (.iface 59 (.pointer (some ⟨r, 0, none⟩))) 75 44 true).run Tryz.prog W = .ok (.tuple #[.pointer none, .bool false]) W := run_assert_other _ _ _ _ _ _ Tryz.underlying44 (by decide) (by kernel_rfl)
  have q32 : ∀ W, (Instr.typeAssert (.iface 59 (.pointer (some ⟨r, 0, none⟩))) 75 59 true).run Tryz.prog W = .ok (.tuple #[.pointer (some ⟨r, 0, none⟩), .bool true]) W := run_assert_same _ _ _ _ Tryz.underlying59
  have c3 : w.cell? ⟨r, 3, none⟩ = some (.string t) := by rw [Lib.cell_of_heap h]; rfl
  have hr : r < w.heap.size := (Array.getElem?_eq_some_iff.1 h).1
  clear h
  go_enter Tryz.func17, Tryz.ntmps17
  go_wp2
  refine bodyPost_ret (v := .agg #[.int .i64 34, .string t, .string ⟨#[]⟩, .int .u64 0, .slice none 0 0]) (by simp [results, Tryz.results17, go_sem]) rfl ⟨rfl, (Below.refl _ w).alloc (Nat.le_refl _) _⟩


set_option maxHeartbeats 8000000 in
set_option maxRecDepth 100000 in
theorem nodeUnsignedIntegerLiteral (r : Nat) (u : Nat) (w : World) (h : w.heap[r]? = some (.cells #[.pointer none, .slice none 0 0, .slice none 0 0, .int .u64 u] 219 (0, 0))) :
    Calls Tryz.prog 17 #[.iface 217 (.pointer (some ⟨r, 0, none⟩))] w fun e w' => e = .returned (.agg #[.int .i64 37, .string ⟨#[]⟩, .string ⟨#[]⟩, .int .u64 u, .slice none 0 0]) ∧ Below w.heap.size w w' := by
  have q0 : ∀ W, (Instr.typeAssert (.iface 217 (.pointer (some ⟨r, 0, none⟩))) 75 76 true).run Tryz.prog W = .ok (.tuple #[.pointer none, .bool false]) W := run_assert_other _ _ _ _ _ _ Tryz.underlying76 (by decide) (by kernel_rfl)
  have q1 : ∀ W, (Instr.typeAssert (.iface 217 (.pointer (some ⟨r, 0, none⟩))) 75 81 true).run Tryz.prog W = .ok (.tuple #[.pointer none, .bool false]) W := run_assert_other _ _ _ _ _ _ Tryz.underlying81 (by decide) (by kernel_rfl)
  have q2 : ∀ W, (Instr.typeAssert (.iface 217 (.pointer (some ⟨r, 0, none⟩))) 75 82 true).run Tryz.prog W = .ok (.tuple #[.pointer none, .bool false]) W := run_assert_other _ _ _ _ _ _ Tryz.underlying82 (by decide) (by kernel_rfl)
  have q3 : ∀ W, (Instr.typeAssert (.iface 217 (.pointer (some ⟨r, 0, none⟩))) 75 58 true).run Tryz.prog W = .ok (.tuple #[.pointer none, .bool false]) W := run_assert_other _ _ _ _ _ _ Tryz.underlying58 (by decide) (by kernel_rfl)
  have q4 : ∀ W, (Instr.typeAssert (.iface 217 (.pointer (some ⟨r, 0, none⟩))) 75 100 true).run Tryz.prog W = .ok (.tuple #[.pointer none, .bool false]) W := run_assert_other _ _ _ _ _ _ Tryz.underlying100 (by decide) (by kernel_rfl)
  have q5 : ∀ W, (Instr.typeAssert (.iface 217 (.pointer (some ⟨r, 0, none⟩))) 75 103 true).run Tryz.prog W = .ok (.tuple #[.pointer none, .bool false]) W := run_assert_other _ _ _ _ _ _ Tryz.underlying103 (by decide) (by kernel_rfl)
  have q6 : ∀ W, (Instr.typeAssert (.iface 217 (.pointer (some ⟨r, 0, none⟩))) 75 106 true).run Tryz.prog W = .ok (.tuple #[.pointer none, .bool false]) W := run_assert_other _ _ _ _ _ _ Tryz.underlying106 (by decide) (by kernel_rfl)
  have q7 : ∀ W, (Instr.typeAssert (.iface 217 (.pointer (some ⟨r, 0, none⟩))) 75 111 true).run Tryz.prog W = .ok (.tuple #[.pointer none, .bool false]) W := run_assert_other _ _ _ _ _ _ Tryz.underlying111 (by decide) (by kernel_rfl)
  have q8 : ∀ W, (Instr.typeAssert (.iface 217 (.pointer (some ⟨r, 0, none⟩))) 75 114 true).run Tryz.prog W = .ok (.tuple #[.pointer none, .bool false]) W := run_assert_other _ _ _ _ _ _ Tryz.underlying114 (by decide) (by kernel_rfl)
  have q9 : ∀ W, (Instr.typeAssert (.iface 217 (.pointer (some ⟨r, 0, none⟩))) 75 117 true).run Tryz.prog W = .ok (.tuple #[.pointer none, .bool false]) W := run_assert_other _ _ _ _ _ _ Tryz.underlying117 (by decide) (by kernel_rfl)
  have q10 : ∀ W, (Instr.typeAssert (.iface 217 (.pointer (some ⟨r, 0, none⟩))) 75 126 true).run Tryz.prog W = .ok (.tuple #[.pointer none, .bool false]) W := run_assert_other _ _ _ _ _ _ Tryz.underlying126 (by decide) (by kernel_rfl)
  have q11 : ∀ W, (Instr.typeAssert (.iface 217 (.pointer (some ⟨r, 0, none⟩))) 75 131 true).run Tryz.prog W = .ok (.tuple #[.pointer none, .bool false]) W := run_assert_other _ _ _ _ _ _ Tryz.underlying131 (by decide) (by kernel_rfl)
  have q12 : ∀ W, (Instr.typeAssert (.iface 217 (.pointer (some ⟨r, 0, none⟩))) 75 141 true).run Tryz.prog W = .ok (.tuple #[.pointer none, .bool false]) W := run_assert_other _ _ _ _ _ _ Tryz.underlying141 (by decide) (by kernel_rfl)
  have q13 : ∀ W, (Instr.typeAssert (.iface 217 (.pointer (some ⟨r, 0, none⟩))) 75 145 true).run Tryz.prog W = .ok (.tuple #[.pointer none, .bool false]) W := run_assert_other _ _ _ _ _ _ Tryz.underlying145 (by decide) (by kernel_rfl)
  have q14 : ∀ W, (Instr.typeAssert (.iface 217 (.pointer (some ⟨r, 0, none⟩))) 75 149 true).run Tryz.prog W = .ok (.tuple #[.pointer none, .bool false]) W := run_assert_other _ _ _ _ _ _ Tryz.underlying149 (by decide) (by kernel_rfl)
  have q15 : ∀ W, (Instr.typeAssert (.iface 217 (.pointer (some ⟨r, 0, none⟩))) 75 123 true).run Tryz.prog W = .ok (.tuple #[.pointer none, .bool false]) W := run_assert_other _ _ _ _ _ _ Tryz.underlying123 (by decide) (by kernel_rfl)
  have q16 : ∀ W, (Instr.typeAssert (.iface 217 (.pointer (some ⟨r, 0, none⟩))) 75 154 true).run Tryz.prog W = .ok (.tuple #[.pointer none, .bool false]) W := run_assert_other _ _ _ _ _ _ Tryz.underlying154 (by decide) (by kernel_rfl)
  have q17 : ∀ W, (Instr.typeAssert (.iface 217 (.pointer (some ⟨r, 0, none⟩))) 75 157 true).run Tryz.prog W = .ok (.tuple #[.pointer none, .bool false]) W := run_assert_other _ _ _ _ _ _ Tryz.underlying157 (by decide) (by kernel_rfl)
  have q18 : ∀ W, (Instr.typeAssert (.iface 217 (.pointer (some ⟨r, 0, none⟩))) 75 161 true).run Tryz.prog W = .ok (.tuple #[.pointer none, .bool false]) W := run_assert_other _ _ _ _ _ _ Tryz.underlying161 (by decide) (by kernel_rfl)
  have q19 : ∀ W, (Instr.typeAssert (.iface 217 (.pointer (some ⟨r, 0, none⟩))) 75 167 true).run Tryz.prog W = .ok (.tuple #[.pointer none, .bool false]) W := run_assert_other _ _ _ _ _ _ Tryz.underlying167 (by decide) (by kernel_rfl)
  have q20 : ∀ W, (Instr.typeAssert (.iface 217 (.pointer (some ⟨r, 0, none⟩))) 75 172 true).run Tryz.prog W = .ok (.tuple #[.pointer none, .bool false]) W := run_assert_other _ _ _ _ _ _ Tryz.underlying172 (by decide) (by kernel_rfl)
  have q21 : ∀ W, (Instr.typeAssert (.iface 217 (.pointer (some ⟨r, 0, none⟩))) 75 175 true).run Tryz.prog W = .ok (.tuple #[.pointer none, .bool false]) W := run_assert_other _ _ _ _ _ _ Tryz.underlying175 (by decide) (by kernel_rfl)
  have q22 : ∀ W, (Instr.typeAssert (.iface 217 (.pointer (some ⟨r, 0, none⟩))) 75 179 true).run Tryz.prog W = .ok (.tuple #[.pointer none, .bool false]) W := run_assert_other _ _ _ _ _ _ Tryz.underlying179 (by decide) (by kernel_rfl)
  have q23 : ∀ W, (Instr.typeAssert (.iface 217 (.pointer (some ⟨r, 0, none⟩))) 75 182 true).run Tryz.prog W = .ok (.tuple #[.pointer none, .bool false]) W := run_assert_other _ _ _ _ _ _ Tryz.underlying182 (by decide) (by kernel_rfl)
  have q24 : ∀ W, (Instr.typeAssert (.iface 217 (.pointer (some ⟨r, 0, none⟩))) 75 185 true).run Tryz.prog W = .ok (.tuple #[.pointer none, .bool false]) W := run_assert_other _ _ _ _ _ _ Tryz.underlying185 (by decide) (by kernel_rfl)
  have q25 : ∀ W, (Instr.typeAssert (.iface 217 (.pointer (some ⟨r, 0, none⟩))) 75 188 true).run Tryz.prog W = .ok (.tuple #[.pointer none, .bool false]) W := run_assert_other _ _ _ _ _ _ Tryz.underlying188 (by decide) (by kernel_rfl)
  have q26 : ∀ W, (Instr.typeAssert (.iface 217 (.pointer (some ⟨r, 0, none⟩))) 75 195 true).run Tryz.prog W = .ok (.tuple #[.pointer none, .bool false]) W := run_assert_other _ _ _ _ _ _ Tryz.underlying195 (by decide) (by kernel_rfl)
  have q27 : ∀ W, (Instr.typeAssert (.iface 217 (.pointer (some ⟨r, 0, none⟩))) 75 163 true).run Tryz.prog W = .ok (.tuple #[.pointer none, .bool false]) W := run_assert_other _ _ _ _ _ _ Tryz.underlying163 (by decide) (by kernel_rfl)
  have q28 : ∀ W, (Instr.typeAssert (.iface 217 (.pointer (some ⟨r, 0, none⟩))) 75 200 true).run Tryz.prog W = .ok (.tuple #[.pointer none, .bool false]) W := run_assert_other _ _ _ _ _ _ Tryz.underlying200 (by decide) (by kernel_rfl)
  have q29 : ∀ W, (Instr.typeAssert (.iface 217 (.pointer (some ⟨r, 0, none⟩))) 75 207 true).run Tryz.prog W = .ok (.tuple #[.pointer none, .bool false]) W := run_assert_other _ _ _ _ _ _ Tryz.underlying207 (by decide) (by kernel_rfl)
  have q30 : ∀ W, (Instr.typeAssert (.iface 217 (.pointer (some ⟨r, 0, none⟩))) 75 209 true).run Tryz.prog W = .ok (.tuple #[.pointer none, .bool false]) W := run_assert_other _ _ _ _ _ _ Tryz.underlying209 (by decide) (by kernel_rfl)
  have q31 : ∀ W, (Instr.typeAssert (.iface 217 (.pointer (some ⟨r, 0, none⟩))) 75 44 true).run Tryz.prog W = .ok (.tuple #[.pointer none, .bool false]) W := run_assert_other _ _ _ _ _ _ Tryz.underlying44 (by decide) (by kernel_rfl)
  have q32 : ∀ W, (Instr.typeAssert (.iface 217 (.pointer (some ⟨r, 0, none⟩))) 75 59 true).run Tryz.prog W = .ok (.tuple #[.pointer none, .bool false]) W := run_assert_other _ _ _ _ _ _ Tryz.underlying59 (by decide) (by kernel_rfl)
  have q33 : ∀ W, (Instr.typeAssert (.iface 217 (.pointer (some ⟨r, 0, none⟩))) 75 211 true).run Tryz.prog W = .ok (.tuple #[.pointer none, .bool false]) W := run_assert_other _ _ _ _ _ _ Tryz.underlying211 (by decide) (by kernel_rfl)
  have q34 : ∀ W, (Instr.typeAssert (.iface 217 (.pointer (some ⟨r, 0, none⟩))) 75 214 true).run Tryz.prog W = .ok (.tuple #[.pointer none, .bool false]) W := run_assert_other _ _ _ _ _ _ Tryz.underlying214 (by decide) (by kernel_rfl)
  have q35 : ∀ W, (Instr.typeAssert (.iface 217 (.pointer (some ⟨r, 0, none⟩))) 75 217 true).run Tryz.prog W = .ok (.tuple #[.pointer (some ⟨r, 0, none⟩), .bool true]) W := run_assert_same _ _ _ _ Tryz.underlying217
  have c3 : w.cell? ⟨r, 3, none⟩ = some (.int .u64 u) := by rw [Lib.cell_of_heap h]; rfl
  have hr : r < w.heap.size := (Array.getElem?_eq_some_iff.1 h).1
  clear h
  go_enter Tryz.func17, Tryz.ntmps17
  go_wp2
  refine bodyPost_ret (v := .agg #[.int .i64 37, .string ⟨#[]⟩, .string ⟨#[]⟩, .int .u64 u, .slice none 0 0]) (by simp [results, Tryz.results17, go_sem]) rfl ⟨rfl, (Below.refl _ w).alloc (Nat.le_refl _) _⟩


set_option maxHeartbeats 8000000 in
set_option maxRecDepth 100000 in
theorem nodeFloatLiteral (r : Nat) (u : Nat) (w : World) (h : w.heap[r]? = some (.cells #[.pointer none, .slice none 0 0, .slice none 0 0, .float .f64 u] 224 (0, 0))) :
    Calls Tryz.prog 17 #[.iface 220 (.pointer (some ⟨r, 0, none⟩))] w fun e w' => e = .returned (.agg #[.int .i64 38, .string ⟨#[]⟩, .string ⟨#[]⟩, .int .u64 u, .slice none 0 0]) ∧ Below w.heap.size w w' := by
  have q0 : ∀ W, (Instr.typeAssert (.iface 220 (.pointer (some ⟨r, 0, none⟩))) 75 76 true).run Tryz.prog W = .ok (.tuple #[.pointer none, .bool false]) W := run_assert_other _ _ _ _ _ _ Tryz.underlying76 (by decide) (by kernel_rfl)
  have q1 : ∀ W, (Instr.typeAssert (.iface 220 (.pointer (some ⟨r, 0, none⟩))) 75 81 true).run Tryz.prog W = .ok (.tuple #[.pointer none, .bool false]) W := run_assert_other _ _ _ _ _ _ Tryz.underlying81 (by decide) (by kernel_rfl)
  have q2 : ∀ W, (Instr.typeAssert (.iface 220 (.pointer (some ⟨r, 0, none⟩))) 75 82 true).run Tryz.prog W = .ok (.tuple #[.pointer none, .bool false]) W := run_assert_other _ _ _ _ _ _ Tryz.underlying82 (by decide) (by kernel_rfl)
  have q3 : ∀ W, (Instr.typeAssert (.iface 220 (.pointer (some ⟨r, 0, none⟩))) 75 58 true).run Tryz.prog W = .ok (.tuple #[.pointer none, .bool false]) W := run_assert_other _ _ _ _ _ _ Tryz.underlying58 (by decide) (by kernel_rfl)
  have q4 : ∀ W, (Instr.typeAssert (.iface 220 (.pointer (some ⟨r, 0, none⟩))) 75 100 true).run Tryz.prog W = .ok (.tuple #[.pointer none, .bool false]) W := run_assert_other _ _ _ _ _ _ Tryz.underlying100 (by decide) (by kernel_rfl)
  have q5 : ∀ W, (Instr.typeAssert (.iface 220 (.pointer (some ⟨r, 0, none⟩))) 75 103 true).run Tryz.prog W = .ok (.tuple #[.pointer none, .bool false]) W := run_assert_other _ _ _ _ _ _ Tryz.underlying103 (by decide) (by kernel_rfl)
  have q6 : ∀ W, (Instr.typeAssert (.iface 220 (.pointer (some ⟨r, 0, none⟩))) 75 106 true).run Tryz.prog W = .ok (.tuple #[.pointer none, .bool false]) W := run_assert_other _ _ _ _ _ _ Tryz.underlying106 (by decide) (by kernel_rfl)
  have q7 : ∀ W, (Instr.typeAssert (.iface 220 (.pointer (some ⟨r, 0, none⟩))) 75 111 true).run Tryz.prog W = .ok (.tuple #[.pointer none, .bool false]) W := run_assert_other _ _ _ _ _ _ Tryz.underlying111 (by decide) (by kernel_rfl)
  have q8 : ∀ W, (Instr.typeAssert (.iface 220 (.pointer (some ⟨r, 0, none⟩))) 75 114 true).run Tryz.prog W = .ok (.tuple #[.pointer none, .bool false]) W := run_assert_other _ _ _ _ _ _ Tryz.underlying114 (by decide) (by kernel_rfl)
  have q9 : ∀ W, (Instr.typeAssert (.iface 220 (.pointer (some ⟨r, 0, none⟩))) 75 117 true).run Tryz.prog W = .ok (.tuple #[.pointer none, .bool false]) W := run_assert_other _ _ _ _ _ _ Tryz.underlying117 (by decide) (by kernel_rfl)
  have q10 : ∀ W, (Instr.typeAssert (.iface 220 (.pointer (some ⟨r, 0, none⟩))) 75 126 true).run Tryz.prog W = .ok (.tuple #[.pointer none, .bool false]) W := run_assert_other _ _ _ _ _ _ Tryz.underlying126 (by decide) (by kernel_rfl)
  have q11 : ∀ W, (Instr.typeAssert (.iface 220 (.pointer (some ⟨r, 0, none⟩))) 75 131 true).run Tryz.prog W = .ok (.tuple #[.pointer none, .bool false]) W := run_assert_other _ _ _ _ _ _ Tryz.underlying131 (by decide) (by kernel_rfl)
  have q12 : ∀ W, (Instr.typeAssert (.iface 220 (.pointer (some ⟨r, 0, none⟩))) 75 141 true).run Tryz.prog W = .ok (.tuple #[.pointer none, .bool false]) W := run_assert_other _ _ _ _ _ _ Tryz.underlying141 (by decide) (by kernel_rfl)
  have q13 : ∀ W, (Instr.typeAssert (.iface 220 (.pointer (some ⟨r, 0, none⟩))) 75 145 true).run Tryz.prog W = .ok (.tuple #[.pointer none, .bool false]) W := run_assert_other _ _ _ _ _ _ Tryz.underlying145 (by decide) (by kernel_rfl)
  have q14 : ∀ W, (Instr.typeAssert (.iface 220 (.pointer (some ⟨r, 0, none⟩))) 75 149 true).run Tryz.prog W = .ok (.tuple #[.pointer none, .bool false]) W := run_assert_other _ _ _ _ _ _ Tryz.underlying149 (by decide) (by kernel_rfl)
  have q15 : ∀ W, (Instr.typeAssert (.iface 220 (.pointer (some ⟨r, 0, none⟩))) 75 123 true).run Tryz.prog W = .ok (.tuple #[.pointer none, .bool false]) W := run_assert_other _ _ _ _ _ _ Tryz.underlying123 (by decide) (by kernel_rfl)
  have q16 : ∀ W, (Instr.typeAssert (.iface 220 (.pointer (some ⟨r, 0, none⟩))) 75 154 true).run Tryz.prog W = .ok (.tuple #[.pointer none, .bool false]) W := run_assert_other _ _ _ _ _ _ Tryz.underlying154 (by decide) (by kernel_rfl)
  have q17 : ∀ W, (Instr.typeAssert (.iface 220 (.pointer (some ⟨r, 0, none⟩))) 75 157 true).run Tryz.prog W = .ok (.tuple #[.pointer none, .bool false]) W := run_assert_other _ _ _ _ _ _ Tryz.underlying157 (by decide) (by kernel_rfl)
  have q18 : ∀ W, (Instr.typeAssert (.iface 220 (.pointer (some ⟨r, 0, none⟩))) 75 161 true).run Tryz.prog W = .ok (.tuple #[.pointer none, .bool false]) W := run_assert_other _ _ _ _ _ _ Tryz.underlying161 (by decide) (by kernel_rfl)
  have q19 : ∀ W, (Instr.typeAssert (.iface 220 (.pointer (some ⟨r, 0, none⟩))) 75 167 true).run Tryz.prog W = .ok (.tuple #[.pointer none, .bool false]) W := run_assert_other _ _ _ _ _ _ Tryz.underlying167 (by decide) (by kernel_rfl)
  have q20 : ∀ W, (Instr.typeAssert (.iface 220 (.pointer (some ⟨r, 0, none⟩))) 75 172 true).run Tryz.prog W = .ok (.tuple #[.pointer none, .bool false]) W := run_assert_other _ _ _ _ _ _ Tryz.underlying172 (by decide) (by kernel_rfl)
  have q21 : ∀ W, (Instr.typeAssert (.iface 220 (.pointer (some ⟨r, 0, none⟩))) 75 175 true).run Tryz.prog W = .ok (.tuple #[.pointer none, .bool false]) W := run_assert_other _ _ _ _ _ _ Tryz.underlying175 (by decide) (by kernel_rfl)
  have q22 : ∀ W, (Instr.typeAssert (.iface 220 (.pointer (some ⟨r, 0, none⟩))) 75 179 true).run Tryz.prog W = .ok (.tuple #[.pointer none, .bool false]) W := run_assert_other _ _ _ _ _ _ Tryz.underlying179 (by decide) (by kernel_rfl)
  have q23 : ∀ W, (Instr.typeAssert (.iface 220 (.pointer (some ⟨r, 0, none⟩))) 75 182 true).run Tryz.prog W = .ok (.tuple #[.pointer none, .bool false]) W := run_assert_other _ _ _ _ _ _ Tryz.underlying182 (by decide) (by kernel_rfl)
  have q24 : ∀ W, (Instr.typeAssert (.iface 220 (.pointer (some ⟨r, 0, none⟩))) 75 185 true).run Tryz.prog W = .ok (.tuple #[.pointer none, .bool false]) W := run_assert_other _ _ _ _ _ _ Tryz.underlying185 (by decide) (by kernel_rfl)
  have q25 : ∀ W, (Instr.typeAssert (.iface 220 (.pointer (some ⟨r, 0, none⟩))) 75 188 true).run Tryz.prog W = .ok (.tuple #[.pointer none, .bool false]) W := run_assert_other _ _ _ _ _ _ Tryz.underlying188 (by decide) (by kernel_rfl)
  have q26 : ∀ W, (Instr.typeAssert (.iface 220 (.pointer (some ⟨r, 0, none⟩))) 75 195 true).run Tryz.prog W = .ok (.tuple #[.pointer none, .bool false]) W := run_assert_other _ _ _ _ _ _ Tryz.underlying195 (by decide) (by kernel_rfl)
  have q27 : ∀ W, (Instr.typeAssert (.iface 220 (.pointer (some ⟨r, 0, none⟩))) 75 163 true).run Tryz.prog W = .ok (.tuple #[.pointer none, .bool false]) W := run_assert_other _ _ _ _ _ _ Tryz.underlying163 (by decide) (by kernel_rfl)
  have q28 : ∀ W, (Instr.typeAssert (.iface 220 (.pointer (some ⟨r, 0, none⟩))) 75 200 true).run Tryz.prog W = .ok (.tuple #[.pointer none, .bool false]) W := run_assert_other _ _ _ _ _ _ Tryz.underlying200 (by decide) (by kernel_rfl)
  have q29 : ∀ W, (Instr.typeAssert (.iface 220 (.pointer (some ⟨r, 0, none⟩))) 75 207 true).run Tryz.prog W = .ok (.tuple #[.pointer none, .bool false]) W := run_assert_other _ _ _ _ _ _ Tryz.underlying207 (by decide) (by kernel_rfl)
  have q30 : ∀ W, (Instr.typeAssert (.iface 220 (.pointer (some ⟨r, 0, none⟩))) 75 209 true).run Tryz.prog W = .ok (.tuple #[.pointer none, .bool false]) W := run_assert_other _ _ _ _ _ _ Tryz.underlying209 (by decide) (by kernel_rfl)
  have q31 : ∀ W, (Instr.typeAssert (.iface 220 (.pointer (some ⟨r, 0, none⟩))) 75 44 true).run Tryz.prog W = .ok (.tuple #[.pointer none, .bool false]) W := run_assert_other _ _ _ _ _ _ Tryz.underlying44 (by decide) (by kernel_rfl)
  have q32 : ∀ W, (Instr.typeAssert (.iface 220 (.pointer (some ⟨r, 0, none⟩))) 75 59 true).run Tryz.prog W = .ok (.tuple #[.pointer none, .bool false]) W := run_assert_other _ _ _ _ _ _ Tryz.underlying59 (by decide) (by kernel_rfl)
  have q33 : ∀ W, (Instr.typeAssert (.iface 220 (.pointer (some ⟨r, 0, none⟩))) 75 211 true).run Tryz.prog W = .ok (.tuple #[.pointer none, .bool false]) W := run_assert_other _ _ _ _ _ _ Tryz.underlying211 (by decide) (by kernel_rfl)
  have q34 : ∀ W, (Instr.typeAssert (.iface 220 (.pointer (some ⟨r, 0, none⟩))) 75 214 true).run Tryz.prog W = .ok (.tuple #[.pointer none, .bool false]) W := run_assert_other _ _ _ _ _ _ Tryz.underlying214 (by decide) (by kernel_rfl)
  have q35 : ∀ W, (Instr.typeAssert (.iface 220 (.pointer (some ⟨r, 0, none⟩))) 75 217 true).run Tryz.prog W = .ok (.tuple #[.pointer none, .bool false]) W := run_assert_other _ _ _ _ _ _ Tryz.underlying217 (by decide) (by kernel_rfl)
  have q36 : ∀ W, (Instr.typeAssert (.iface 220 (.pointer (some ⟨r, 0, none⟩))) 75 220 true).run Tryz.prog W = .ok (.tuple #[.pointer (some ⟨r, 0, none⟩), .bool true]) W := run_assert_same _ _ _ _ Tryz.underlying220
  have c3 : w.cell? ⟨r, 3, none⟩ = some (.float .f64 u) := by rw [Lib.cell_of_heap h]; rfl
  have hr : r < w.heap.size := (Array.getElem?_eq_some_iff.1 h).1
  have hx : ∀ W, (callFunc 47 #[.float .f64 u]).run Tryz.prog W = .ok (.value (.int .u64 (u : Int))) W := fun W =>
    run_callFunc_extern (e := Extern.MathFloatBits.float64bits) Tryz.func47 (by kernel_rfl) (by kernel_rfl) (by kernel_rfl) (by kernel_rfl) _ W
  clear h
  go_enter Tryz.func17, Tryz.ntmps17
  go_wp2
  refine bodyPost_ret (v := .agg #[.int .i64 38, .string ⟨#[]⟩, .string ⟨#[]⟩, .int .u64 u, .slice none 0 0]) (by simp [results, Tryz.results17, go_sem]) rfl ⟨rfl, (Below.refl _ w).alloc (Nat.le_refl _) _⟩


end Go.Proofs.YtdillheepidncaaGreatDoor
