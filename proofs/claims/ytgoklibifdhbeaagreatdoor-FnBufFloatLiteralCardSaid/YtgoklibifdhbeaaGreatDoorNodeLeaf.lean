/- impl.node over nodes of one text or number. -/
import Derived.Test.YtgoklibifdhbeaaGreatDoorGetNode
import Derived.Laws.Externs
namespace Go.Proofs.YtgoklibifdhbeaaGreatDoor
open Go Go.RowKit
set_option linter.unusedVariables false
set_option linter.unusedSimpArgs false

theorem run_assert_other {P : Program} (t xT asserted e : TypeId) (v z : Value) (hu : P.underlying asserted = some (.pointer e)) (hne : t ≠ asserted) (hz : (P.info? asserted).map (·.zero) = some (some z)) (W : World) :
    (Instr.typeAssert (.iface t v) xT asserted true).run P W = .ok (.tuple #[z, .bool false]) W := by
  obtain ⟨j, hj, hz'⟩ := Option.map_eq_some_iff.1 hz
  simp [Instr.typeAssert, run_underlying hu, hne, zeroValue, hj, hz', typeInfo]

theorem run_assert_same {P : Program} (t xT e : TypeId) (v : Value) (hu : P.underlying t = some (.pointer e)) (W : World) :
    (Instr.typeAssert (.iface t v) xT t true).run P W = .ok (.tuple #[v, .bool true]) W := by
  simp [Instr.typeAssert, run_underlying hu]


set_option maxHeartbeats 8000000 in
set_option maxRecDepth 100000 in
theorem nodeBadStatement (r : Nat) (t : ByteArray) (w : World) (h : w.heap[r]? = some (.cells #[.pointer none, .slice none 0 0, .slice none 0 0, .string t] 45 (0, 0))) :
    Calls Tryz.prog 21 #[.iface 38 (.pointer (some ⟨r, 0, none⟩))] w fun e w' => e = .returned (.agg #[.int .i64 7, .string t, .string ⟨#[]⟩, .int .u64 0, .slice none 0 0]) ∧ Below w.heap.size w w' := by
  have q0 : ∀ W, (Instr.typeAssert (.iface 38 (.pointer (some ⟨r, 0, none⟩))) 85 86 true).run Tryz.prog W = .ok (.tuple #[.pointer none, .bool false]) W := run_assert_other _ _ _ _ _ _ Tryz.underlying86 (by decide) (by kernel_rfl)
  have q1 : ∀ W, (Instr.typeAssert (.iface 38 (.pointer (some ⟨r, 0, none⟩))) 85 91 true).run Tryz.prog W = .ok (.tuple #[.pointer none, .bool false]) W := run_assert_other _ _ _ _ _ _ Tryz.underlying91 (by decide) (by kernel_rfl)
  have q2 : ∀ W, (Instr.typeAssert (.iface 38 (.pointer (some ⟨r, 0, none⟩))) 85 92 true).run Tryz.prog W = .ok (.tuple #[.pointer none, .bool false]) W := run_assert_other _ _ _ _ _ _ Tryz.underlying92 (by decide) (by kernel_rfl)
  have q3 : ∀ W, (Instr.typeAssert (.iface 38 (.pointer (some ⟨r, 0, none⟩))) 85 101 true).run Tryz.prog W = .ok (.tuple #[.pointer none, .bool false]) W := run_assert_other _ _ _ _ _ _ Tryz.underlying101 (by decide) (by kernel_rfl)
  have q4 : ∀ W, (Instr.typeAssert (.iface 38 (.pointer (some ⟨r, 0, none⟩))) 85 109 true).run Tryz.prog W = .ok (.tuple #[.pointer none, .bool false]) W := run_assert_other _ _ _ _ _ _ Tryz.underlying109 (by decide) (by kernel_rfl)
  have q5 : ∀ W, (Instr.typeAssert (.iface 38 (.pointer (some ⟨r, 0, none⟩))) 85 38 true).run Tryz.prog W = .ok (.tuple #[.pointer (some ⟨r, 0, none⟩), .bool true]) W := run_assert_same _ _ _ _ Tryz.underlying38
  have c3 : w.cell? ⟨r, 3, none⟩ = some (.string t) := by rw [Lib.cell_of_heap h]; rfl
  have hr : r < w.heap.size := (Array.getElem?_eq_some_iff.1 h).1
  clear h
  go_enter Tryz.func21, Tryz.ntmps21
  go_wp2
  refine bodyPost_ret (v := .agg #[.int .i64 7, .string t, .string ⟨#[]⟩, .int .u64 0, .slice none 0 0]) (by simp [results, Tryz.results21, go_sem]) rfl ⟨rfl, (Below.refl _ w).alloc (Nat.le_refl _) _⟩


set_option maxHeartbeats 8000000 in
set_option maxRecDepth 100000 in
theorem nodeIdentifier (r : Nat) (t : ByteArray) (w : World) (h : w.heap[r]? = some (.cells #[.pointer none, .slice none 0 0, .slice none 0 0, .string t] 65 (0, 0))) :
    Calls Tryz.prog 21 #[.iface 63 (.pointer (some ⟨r, 0, none⟩))] w fun e w' => e = .returned (.agg #[.int .i64 33, .string t, .string ⟨#[]⟩, .int .u64 0, .slice none 0 0]) ∧ Below w.heap.size w w' := by
  have q0 : ∀ W, (Instr.typeAssert (.iface 63 (.pointer (some ⟨r, 0, none⟩))) 85 86 true).run Tryz.prog W = .ok (.tuple #[.pointer none, .bool false]) W := run_assert_other _ _ _ _ _ _ Tryz.underlying86 (by decide) (by kernel_rfl)
  have q1 : ∀ W, (Instr.typeAssert (.iface 63 (.pointer (some ⟨r, 0, none⟩))) 85 91 true).run Tryz.prog W = .ok (.tuple #[.pointer none, .bool false]) W := run_assert_other _ _ _ _ _ _ Tryz.underlying91 (by decide) (by kernel_rfl)
  have q2 : ∀ W, (Instr.typeAssert (.iface 63 (.pointer (some ⟨r, 0, none⟩))) 85 92 true).run Tryz.prog W = .ok (.tuple #[.pointer none, .bool false]) W := run_assert_other _ _ _ _ _ _ Tryz.underlying92 (by decide) (by kernel_rfl)
  have q3 : ∀ W, (Instr.typeAssert (.iface 63 (.pointer (some ⟨r, 0, none⟩))) 85 101 true).run Tryz.prog W = .ok (.tuple #[.pointer none, .bool false]) W := run_assert_other _ _ _ _ _ _ Tryz.underlying101 (by decide) (by kernel_rfl)
  have q4 : ∀ W, (Instr.typeAssert (.iface 63 (.pointer (some ⟨r, 0, none⟩))) 85 109 true).run Tryz.prog W = .ok (.tuple #[.pointer none, .bool false]) W := run_assert_other _ _ _ _ _ _ Tryz.underlying109 (by decide) (by kernel_rfl)
  have q5 : ∀ W, (Instr.typeAssert (.iface 63 (.pointer (some ⟨r, 0, none⟩))) 85 38 true).run Tryz.prog W = .ok (.tuple #[.pointer none, .bool false]) W := run_assert_other _ _ _ _ _ _ Tryz.underlying38 (by decide) (by kernel_rfl)
  have q6 : ∀ W, (Instr.typeAssert (.iface 63 (.pointer (some ⟨r, 0, none⟩))) 85 112 true).run Tryz.prog W = .ok (.tuple #[.pointer none, .bool false]) W := run_assert_other _ _ _ _ _ _ Tryz.underlying112 (by decide) (by kernel_rfl)
  have q7 : ∀ W, (Instr.typeAssert (.iface 63 (.pointer (some ⟨r, 0, none⟩))) 85 117 true).run Tryz.prog W = .ok (.tuple #[.pointer none, .bool false]) W := run_assert_other _ _ _ _ _ _ Tryz.underlying117 (by decide) (by kernel_rfl)
  have q8 : ∀ W, (Instr.typeAssert (.iface 63 (.pointer (some ⟨r, 0, none⟩))) 85 120 true).run Tryz.prog W = .ok (.tuple #[.pointer none, .bool false]) W := run_assert_other _ _ _ _ _ _ Tryz.underlying120 (by decide) (by kernel_rfl)
  have q9 : ∀ W, (Instr.typeAssert (.iface 63 (.pointer (some ⟨r, 0, none⟩))) 85 123 true).run Tryz.prog W = .ok (.tuple #[.pointer none, .bool false]) W := run_assert_other _ _ _ _ _ _ Tryz.underlying123 (by decide) (by kernel_rfl)
  have q10 : ∀ W, (Instr.typeAssert (.iface 63 (.pointer (some ⟨r, 0, none⟩))) 85 132 true).run Tryz.prog W = .ok (.tuple #[.pointer none, .bool false]) W := run_assert_other _ _ _ _ _ _ Tryz.underlying132 (by decide) (by kernel_rfl)
  have q11 : ∀ W, (Instr.typeAssert (.iface 63 (.pointer (some ⟨r, 0, none⟩))) 85 137 true).run Tryz.prog W = .ok (.tuple #[.pointer none, .bool false]) W := run_assert_other _ _ _ _ _ _ Tryz.underlying137 (by decide) (by kernel_rfl)
  have q12 : ∀ W, (Instr.typeAssert (.iface 63 (.pointer (some ⟨r, 0, none⟩))) 85 147 true).run Tryz.prog W = .ok (.tuple #[.pointer none, .bool false]) W := run_assert_other _ _ _ _ _ _ Tryz.underlying147 (by decide) (by kernel_rfl)
  have q13 : ∀ W, (Instr.typeAssert (.iface 63 (.pointer (some ⟨r, 0, none⟩))) 85 151 true).run Tryz.prog W = .ok (.tuple #[.pointer none, .bool false]) W := run_assert_other _ _ _ _ _ _ Tryz.underlying151 (by decide) (by kernel_rfl)
  have q14 : ∀ W, (Instr.typeAssert (.iface 63 (.pointer (some ⟨r, 0, none⟩))) 85 155 true).run Tryz.prog W = .ok (.tuple #[.pointer none, .bool false]) W := run_assert_other _ _ _ _ _ _ Tryz.underlying155 (by decide) (by kernel_rfl)
  have q15 : ∀ W, (Instr.typeAssert (.iface 63 (.pointer (some ⟨r, 0, none⟩))) 85 129 true).run Tryz.prog W = .ok (.tuple #[.pointer none, .bool false]) W := run_assert_other _ _ _ _ _ _ Tryz.underlying129 (by decide) (by kernel_rfl)
  have q16 : ∀ W, (Instr.typeAssert (.iface 63 (.pointer (some ⟨r, 0, none⟩))) 85 160 true).run Tryz.prog W = .ok (.tuple #[.pointer none, .bool false]) W := run_assert_other _ _ _ _ _ _ Tryz.underlying160 (by decide) (by kernel_rfl)
  have q17 : ∀ W, (Instr.typeAssert (.iface 63 (.pointer (some ⟨r, 0, none⟩))) 85 163 true).run Tryz.prog W = .ok (.tuple #[.pointer none, .bool false]) W := run_assert_other _ _ _ _ _ _ Tryz.underlying163 (by decide) (by kernel_rfl)
  have q18 : ∀ W, (Instr.typeAssert (.iface 63 (.pointer (some ⟨r, 0, none⟩))) 85 167 true).run Tryz.prog W = .ok (.tuple #[.pointer none, .bool false]) W := run_assert_other _ _ _ _ _ _ Tryz.underlying167 (by decide) (by kernel_rfl)
  have q19 : ∀ W, (Instr.typeAssert (.iface 63 (.pointer (some ⟨r, 0, none⟩))) 85 173 true).run Tryz.prog W = .ok (.tuple #[.pointer none, .bool false]) W := run_assert_other _ _ _ _ _ _ Tryz.underlying173 (by decide) (by kernel_rfl)
  have q20 : ∀ W, (Instr.typeAssert (.iface 63 (.pointer (some ⟨r, 0, none⟩))) 85 178 true).run Tryz.prog W = .ok (.tuple #[.pointer none, .bool false]) W := run_assert_other _ _ _ _ _ _ Tryz.underlying178 (by decide) (by kernel_rfl)
  have q21 : ∀ W, (Instr.typeAssert (.iface 63 (.pointer (some ⟨r, 0, none⟩))) 85 181 true).run Tryz.prog W = .ok (.tuple #[.pointer none, .bool false]) W := run_assert_other _ _ _ _ _ _ Tryz.underlying181 (by decide) (by kernel_rfl)
  have q22 : ∀ W, (Instr.typeAssert (.iface 63 (.pointer (some ⟨r, 0, none⟩))) 85 185 true).run Tryz.prog W = .ok (.tuple #[.pointer none, .bool false]) W := run_assert_other _ _ _ _ _ _ Tryz.underlying185 (by decide) (by kernel_rfl)
  have q23 : ∀ W, (Instr.typeAssert (.iface 63 (.pointer (some ⟨r, 0, none⟩))) 85 188 true).run Tryz.prog W = .ok (.tuple #[.pointer none, .bool false]) W := run_assert_other _ _ _ _ _ _ Tryz.underlying188 (by decide) (by kernel_rfl)
  have q24 : ∀ W, (Instr.typeAssert (.iface 63 (.pointer (some ⟨r, 0, none⟩))) 85 191 true).run Tryz.prog W = .ok (.tuple #[.pointer none, .bool false]) W := run_assert_other _ _ _ _ _ _ Tryz.underlying191 (by decide) (by kernel_rfl)
  have q25 : ∀ W, (Instr.typeAssert (.iface 63 (.pointer (some ⟨r, 0, none⟩))) 85 194 true).run Tryz.prog W = .ok (.tuple #[.pointer none, .bool false]) W := run_assert_other _ _ _ _ _ _ Tryz.underlying194 (by decide) (by kernel_rfl)
  have q26 : ∀ W, (Instr.typeAssert (.iface 63 (.pointer (some ⟨r, 0, none⟩))) 85 201 true).run Tryz.prog W = .ok (.tuple #[.pointer none, .bool false]) W := run_assert_other _ _ _ _ _ _ Tryz.underlying201 (by decide) (by kernel_rfl)
  have q27 : ∀ W, (Instr.typeAssert (.iface 63 (.pointer (some ⟨r, 0, none⟩))) 85 169 true).run Tryz.prog W = .ok (.tuple #[.pointer none, .bool false]) W := run_assert_other _ _ _ _ _ _ Tryz.underlying169 (by decide) (by kernel_rfl)
  have q28 : ∀ W, (Instr.typeAssert (.iface 63 (.pointer (some ⟨r, 0, none⟩))) 85 206 true).run Tryz.prog W = .ok (.tuple #[.pointer none, .bool false]) W := run_assert_other _ _ _ _ _ _ Tryz.underlying206 (by decide) (by kernel_rfl)
  have q29 : ∀ W, (Instr.typeAssert (.iface 63 (.pointer (some ⟨r, 0, none⟩))) 85 213 true).run Tryz.prog W = .ok (.tuple #[.pointer none, .bool false]) W := run_assert_other _ _ _ _ _ _ Tryz.underlying213 (by decide) (by kernel_rfl)
  have q30 : ∀ W, (Instr.typeAssert (.iface 63 (.pointer (some ⟨r, 0, none⟩))) 85 215 true).run Tryz.prog W = .ok (.tuple #[.pointer none, .bool false]) W := run_assert_other _ _ _ _ _ _ Tryz.underlying215 (by decide) (by kernel_rfl)
  have q31 : ∀ W, (Instr.typeAssert (.iface 63 (.pointer (some ⟨r, 0, none⟩))) 85 63 true).run Tryz.prog W = .ok (.tuple #[.pointer (some ⟨r, 0, none⟩), .bool true]) W := run_assert_same _ _ _ _ Tryz.underlying63
  have c3 : w.cell? ⟨r, 3, none⟩ = some (.string t) := by rw [Lib.cell_of_heap h]; rfl
  have hr : r < w.heap.size := (Array.getElem?_eq_some_iff.1 h).1
  clear h
  go_enter Tryz.func21, Tryz.ntmps21
  go_wp2
  refine bodyPost_ret (v := .agg #[.int .i64 33, .string t, .string ⟨#[]⟩, .int .u64 0, .slice none 0 0]) (by simp [results, Tryz.results21, go_sem]) rfl ⟨rfl, (Below.refl _ w).alloc (Nat.le_refl _) _⟩


set_option maxHeartbeats 8000000 in
set_option maxRecDepth 100000 in
theorem nodeStringLiteral (r : Nat) (t : ByteArray) (w : World) (h : w.heap[r]? = some (.cells #[.pointer none, .slice none 0 0, .slice none 0 0, .string t] 59 (0, 0))) :
    Calls Tryz.prog 21 #[.iface 57 (.pointer (some ⟨r, 0, none⟩))] w fun e w' => e = .returned (.agg #[.int .i64 34, .string t, .string ⟨#[]⟩, .int .u64 0, .slice none 0 0]) ∧ Below w.heap.size w w' := by
  have q0 : ∀ W, (Instr.typeAssert (.iface 57 (.pointer (some ⟨r, 0, none⟩))) 85 86 true).run Tryz.prog W = .ok (.tuple #[.pointer none, .bool false]) W := run_assert_other _ _ _ _ _ _ Tryz.underlying86 (by decide) (by kernel_rfl)
  have q1 : ∀ W, (Instr.typeAssert (.iface 57 (.pointer (some ⟨r, 0, none⟩))) 85 91 true).run Tryz.prog W = .ok (.tuple #[.pointer none, .bool false]) W := run_assert_other _ _ _ _ _ _ Tryz.underlying91 (by decide) (by kernel_rfl)
  have q2 : ∀ W, (Instr.typeAssert (.iface 57 (.pointer (some ⟨r, 0, none⟩))) 85 92 true).run Tryz.prog W = .ok (.tuple #[.pointer none, .bool false]) W := run_assert_other _ _ _ _ _ _ Tryz.underlying92 (by decide) (by kernel_rfl)
  have q3 : ∀ W, (Instr.typeAssert (.iface 57 (.pointer (some ⟨r, 0, none⟩))) 85 101 true).run Tryz.prog W = .ok (.tuple #[.pointer none, .bool false]) W := run_assert_other _ _ _ _ _ _ Tryz.underlying101 (by decide) (by kernel_rfl)
  have q4 : ∀ W, (Instr.typeAssert (.iface 57 (.pointer (some ⟨r, 0, none⟩))) 85 109 true).run Tryz.prog W = .ok (.tuple #[.pointer none, .bool false]) W := run_assert_other _ _ _ _ _ _ Tryz.underlying109 (by decide) (by kernel_rfl)
  have q5 : ∀ W, (Instr.typeAssert (.iface 57 (.pointer (some ⟨r, 0, none⟩))) 85 38 true).run Tryz.prog W = .ok (.tuple #[.pointer none, .bool false]) W := run_assert_other _ _ _ _ _ _ Tryz.underlying38 (by decide) (by kernel_rfl)
  have q6 : ∀ W, (Instr.typeAssert (.iface 57 (.pointer (some ⟨r, 0, none⟩))) 85 112 true).run Tryz.prog W = .ok (.tuple #[.pointer none, .bool false]) W := run_assert_other _ _ _ _ _ _ Tryz.underlying112 (by decide) (by kernel_rfl)
  have q7 : ∀ W, (Instr.typeAssert (.iface 57 (.pointer (some ⟨r, 0, none⟩))) 85 117 true).run Tryz.prog W = .ok (.tuple #[.pointer none, .bool false]) W := run_assert_other _ _ _ _ _ _ Tryz.underlying117 (by decide) (by kernel_rfl)
  have q8 : ∀ W, (Instr.typeAssert (.iface 57 (.pointer (some ⟨r, 0, none⟩))) 85 120 true).run Tryz.prog W = .ok (.tuple #[.pointer none, .bool false]) W := run_assert_other _ _ _ _ _ _ Tryz.underlying120 (by decide) (by kernel_rfl)
  have q9 : ∀ W, (Instr.typeAssert (.iface 57 (.pointer (some ⟨r, 0, none⟩))) 85 123 true).run Tryz.prog W = .ok (.tuple #[.pointer none, .bool false]) W := run_assert_other _ _ _ _ _ _ Tryz.underlying123 (by decide) (by kernel_rfl)
  have q10 : ∀ W, (Instr.typeAssert (.iface 57 (.pointer (some ⟨r, 0, none⟩))) 85 132 true).run Tryz.prog W = .ok (.tuple #[.pointer none, .bool false]) W := run_assert_other _ _ _ _ _ _ Tryz.underlying132 (by decide) (by kernel_rfl)
  have q11 : ∀ W, (Instr.typeAssert (.iface 57 (.pointer (some ⟨r, 0, none⟩))) 85 137 true).run Tryz.prog W = .ok (.tuple #[.pointer none, .bool false]) W := run_assert_other _ _ _ _ _ _ Tryz.underlying137 (by decide) (by kernel_rfl)
  have q12 : ∀ W, (Instr.typeAssert (.iface 57 (.pointer (some ⟨r, 0, none⟩))) 85 147 true).run Tryz.prog W = .ok (.tuple #[.pointer none, .bool false]) W := run_assert_other _ _ _ _ _ _ Tryz.underlying147 (by decide) (by kernel_rfl)
  have q13 : ∀ W, (Instr.typeAssert (.iface 57 (.pointer (some ⟨r, 0, none⟩))) 85 151 true).run Tryz.prog W = .ok (.tuple #[.pointer none, .bool false]) W := run_assert_other _ _ _ _ _ _ Tryz.underlying151 (by decide) (by kernel_rfl)
  have q14 : ∀ W, (Instr.typeAssert (.iface 57 (.pointer (some ⟨r, 0, none⟩))) 85 155 true).run Tryz.prog W = .ok (.tuple #[.pointer none, .bool false]) W := run_assert_other _ _ _ _ _ _ Tryz.underlying155 (by decide) (by kernel_rfl)
  have q15 : ∀ W, (Instr.typeAssert (.iface 57 (.pointer (some ⟨r, 0, none⟩))) 85 129 true).run Tryz.prog W = .ok (.tuple #[.pointer none, .bool false]) W := run_assert_other _ _ _ _ _ _ Tryz.underlying129 (by decide) (by kernel_rfl)
  have q16 : ∀ W, (Instr.typeAssert (.iface 57 (.pointer (some ⟨r, 0, none⟩))) 85 160 true).run Tryz.prog W = .ok (.tuple #[.pointer none, .bool false]) W := run_assert_other _ _ _ _ _ _ Tryz.underlying160 (by decide) (by kernel_rfl)
  have q17 : ∀ W, (Instr.typeAssert (.iface 57 (.pointer (some ⟨r, 0, none⟩))) 85 163 true).run Tryz.prog W = .ok (.tuple #[.pointer none, .bool false]) W := run_assert_other _ _ _ _ _ _ Tryz.underlying163 (by decide) (by kernel_rfl)
  have q18 : ∀ W, (Instr.typeAssert (.iface 57 (.pointer (some ⟨r, 0, none⟩))) 85 167 true).run Tryz.prog W = .ok (.tuple #[.pointer none, .bool false]) W := run_assert_other _ _ _ _ _ _ Tryz.underlying167 (by decide) (by kernel_rfl)
  have q19 : ∀ W, (Instr.typeAssert (.iface 57 (.pointer (some ⟨r, 0, none⟩))) 85 173 true).run Tryz.prog W = .ok (.tuple #[.pointer none, .bool false]) W := run_assert_other _ _ _ _ _ _ Tryz.underlying173 (by decide) (by kernel_rfl)
  have q20 : ∀ W, (Instr.typeAssert (.iface 57 (.pointer (some ⟨r, 0, none⟩))) 85 178 true).run Tryz.prog W = .ok (.tuple #[.pointer none, .bool false]) W := run_assert_other _ _ _ _ _ _ Tryz.underlying178 (by decide) (by kernel_rfl)
  have q21 : ∀ W, (Instr.typeAssert (.iface 57 (.pointer (some ⟨r, 0, none⟩))) 85 181 true).run Tryz.prog W = .ok (.tuple #[.pointer none, .bool false]) W := run_assert_other _ _ _ _ _ _ Tryz.underlying181 (by decide) (by kernel_rfl)
  have q22 : ∀ W, (Instr.typeAssert (.iface 57 (.pointer (some ⟨r, 0, none⟩))) 85 185 true).run Tryz.prog W = .ok (.tuple #[.pointer none, .bool false]) W := run_assert_other _ _ _ _ _ _ Tryz.underlying185 (by decide) (by kernel_rfl)
  have q23 : ∀ W, (Instr.typeAssert (.iface 57 (.pointer (some ⟨r, 0, none⟩))) 85 188 true).run Tryz.prog W = .ok (.tuple #[.pointer none, .bool false]) W := run_assert_other _ _ _ _ _ _ Tryz.underlying188 (by decide) (by kernel_rfl)
  have q24 : ∀ W, (Instr.typeAssert (.iface 57 (.pointer (some ⟨r, 0, none⟩))) 85 191 true).run Tryz.prog W = .ok (.tuple #[.pointer none, .bool false]) W := run_assert_other _ _ _ _ _ _ Tryz.underlying191 (by decide) (by kernel_rfl)
  have q25 : ∀ W, (Instr.typeAssert (.iface 57 (.pointer (some ⟨r, 0, none⟩))) 85 194 true).run Tryz.prog W = .ok (.tuple #[.pointer none, .bool false]) W := run_assert_other _ _ _ _ _ _ Tryz.underlying194 (by decide) (by kernel_rfl)
  have q26 : ∀ W, (Instr.typeAssert (.iface 57 (.pointer (some ⟨r, 0, none⟩))) 85 201 true).run Tryz.prog W = .ok (.tuple #[.pointer none, .bool false]) W := run_assert_other _ _ _ _ _ _ Tryz.underlying201 (by decide) (by kernel_rfl)
  have q27 : ∀ W, (Instr.typeAssert (.iface 57 (.pointer (some ⟨r, 0, none⟩))) 85 169 true).run Tryz.prog W = .ok (.tuple #[.pointer none, .bool false]) W := run_assert_other _ _ _ _ _ _ Tryz.underlying169 (by decide) (by kernel_rfl)
  have q28 : ∀ W, (Instr.typeAssert (.iface 57 (.pointer (some ⟨r, 0, none⟩))) 85 206 true).run Tryz.prog W = .ok (.tuple #[.pointer none, .bool false]) W := run_assert_other _ _ _ _ _ _ Tryz.underlying206 (by decide) (by kernel_rfl)
  have q29 : ∀ W, (Instr.typeAssert (.iface 57 (.pointer (some ⟨r, 0, none⟩))) 85 213 true).run Tryz.prog W = .ok (.tuple #[.pointer none, .bool false]) W := run_assert_other _ _ _ _ _ _ Tryz.underlying213 (by decide) (by kernel_rfl)
  have q30 : ∀ W, (Instr.typeAssert (.iface 57 (.pointer (some ⟨r, 0, none⟩))) 85 215 true).run Tryz.prog W = .ok (.tuple #[.pointer none, .bool false]) W := run_assert_other _ _ _ _ _ _ Tryz.underlying215 (by decide) (by kernel_rfl)
  have q31 : ∀ W, (Instr.typeAssert (.iface 57 (.pointer (some ⟨r, 0, none⟩))) 85 63 true).run Tryz.prog W = .ok (.tuple #[.pointer none, .bool false]) W := run_assert_other _ _ _ _ _ _ Tryz.underlying63 (by decide) (by kernel_rfl)
  have q32 : ∀ W, (Instr.typeAssert (.iface 57 (.pointer (some ⟨r, 0, none⟩))) 85 57 true).run Tryz.prog W = .ok (.tuple #[.pointer (some ⟨r, 0, none⟩), .bool true]) W := run_assert_same _ _ _ _ Tryz.underlying57
  have c3 : w.cell? ⟨r, 3, none⟩ = some (.string t) := by rw [Lib.cell_of_heap h]; rfl
  have hr : r < w.heap.size := (Array.getElem?_eq_some_iff.1 h).1
  clear h
  go_enter Tryz.func21, Tryz.ntmps21
  go_wp2
  refine bodyPost_ret (v := .agg #[.int .i64 34, .string t, .string ⟨#[]⟩, .int .u64 0, .slice none 0 0]) (by simp [results, Tryz.results21, go_sem]) rfl ⟨rfl, (Below.refl _ w).alloc (Nat.le_refl _) _⟩


set_option maxHeartbeats 8000000 in
set_option maxRecDepth 100000 in
theorem nodeUnsignedIntegerLiteral (r : Nat) (u : Nat) (w : World) (h : w.heap[r]? = some (.cells #[.pointer none, .slice none 0 0, .slice none 0 0, .int .u64 u] 71 (0, 0))) :
    Calls Tryz.prog 21 #[.iface 69 (.pointer (some ⟨r, 0, none⟩))] w fun e w' => e = .returned (.agg #[.int .i64 37, .string ⟨#[]⟩, .string ⟨#[]⟩, .int .u64 u, .slice none 0 0]) ∧ Below w.heap.size w w' := by
  have q0 : ∀ W, (Instr.typeAssert (.iface 69 (.pointer (some ⟨r, 0, none⟩))) 85 86 true).run Tryz.prog W = .ok (.tuple #[.pointer none, .bool false]) W := run_assert_other _ _ _ _ _ _ Tryz.underlying86 (by decide) (by kernel_rfl)
  have q1 : ∀ W, (Instr.typeAssert (.iface 69 (.pointer (some ⟨r, 0, none⟩))) 85 91 true).run Tryz.prog W = .ok (.tuple #[.pointer none, .bool false]) W := run_assert_other _ _ _ _ _ _ Tryz.underlying91 (by decide) (by kernel_rfl)
  have q2 : ∀ W, (Instr.typeAssert (.iface 69 (.pointer (some ⟨r, 0, none⟩))) 85 92 true).run Tryz.prog W = .ok (.tuple #[.pointer none, .bool false]) W := run_assert_other _ _ _ _ _ _ Tryz.underlying92 (by decide) (by kernel_rfl)
  have q3 : ∀ W, (Instr.typeAssert (.iface 69 (.pointer (some ⟨r, 0, none⟩))) 85 101 true).run Tryz.prog W = .ok (.tuple #[.pointer none, .bool false]) W := run_assert_other _ _ _ _ _ _ Tryz.underlying101 (by decide) (by kernel_rfl)
  have q4 : ∀ W, (Instr.typeAssert (.iface 69 (.pointer (some ⟨r, 0, none⟩))) 85 109 true).run Tryz.prog W = .ok (.tuple #[.pointer none, .bool false]) W := run_assert_other _ _ _ _ _ _ Tryz.underlying109 (by decide) (by kernel_rfl)
  have q5 : ∀ W, (Instr.typeAssert (.iface 69 (.pointer (some ⟨r, 0, none⟩))) 85 38 true).run Tryz.prog W = .ok (.tuple #[.pointer none, .bool false]) W := run_assert_other _ _ _ _ _ _ Tryz.underlying38 (by decide) (by kernel_rfl)
  have q6 : ∀ W, (Instr.typeAssert (.iface 69 (.pointer (some ⟨r, 0, none⟩))) 85 112 true).run Tryz.prog W = .ok (.tuple #[.pointer none, .bool false]) W := run_assert_other _ _ _ _ _ _ Tryz.underlying112 (by decide) (by kernel_rfl)
  have q7 : ∀ W, (Instr.typeAssert (.iface 69 (.pointer (some ⟨r, 0, none⟩))) 85 117 true).run Tryz.prog W = .ok (.tuple #[.pointer none, .bool false]) W := run_assert_other _ _ _ _ _ _ Tryz.underlying117 (by decide) (by kernel_rfl)
  have q8 : ∀ W, (Instr.typeAssert (.iface 69 (.pointer (some ⟨r, 0, none⟩))) 85 120 true).run Tryz.prog W = .ok (.tuple #[.pointer none, .bool false]) W := run_assert_other _ _ _ _ _ _ Tryz.underlying120 (by decide) (by kernel_rfl)
  have q9 : ∀ W, (Instr.typeAssert (.iface 69 (.pointer (some ⟨r, 0, none⟩))) 85 123 true).run Tryz.prog W = .ok (.tuple #[.pointer none, .bool false]) W := run_assert_other _ _ _ _ _ _ Tryz.underlying123 (by decide) (by kernel_rfl)
  have q10 : ∀ W, (Instr.typeAssert (.iface 69 (.pointer (some ⟨r, 0, none⟩))) 85 132 true).run Tryz.prog W = .ok (.tuple #[.pointer none, .bool false]) W := run_assert_other _ _ _ _ _ _ Tryz.underlying132 (by decide) (by kernel_rfl)
  have q11 : ∀ W, (Instr.typeAssert (.iface 69 (.pointer (some ⟨r, 0, none⟩))) 85 137 true).run Tryz.prog W = .ok (.tuple #[.pointer none, .bool false]) W := run_assert_other _ _ _ _ _ _ Tryz.underlying137 (by decide) (by kernel_rfl)
  have q12 : ∀ W, (Instr.typeAssert (.iface 69 (.pointer (some ⟨r, 0, none⟩))) 85 147 true).run Tryz.prog W = .ok (.tuple #[.pointer none, .bool false]) W := run_assert_other _ _ _ _ _ _ Tryz.underlying147 (by decide) (by kernel_rfl)
  have q13 : ∀ W, (Instr.typeAssert (.iface 69 (.pointer (some ⟨r, 0, none⟩))) 85 151 true).run Tryz.prog W = .ok (.tuple #[.pointer none, .bool false]) W := run_assert_other _ _ _ _ _ _ Tryz.underlying151 (by decide) (by kernel_rfl)
  have q14 : ∀ W, (Instr.typeAssert (.iface 69 (.pointer (some ⟨r, 0, none⟩))) 85 155 true).run Tryz.prog W = .ok (.tuple #[.pointer none, .bool false]) W := run_assert_other _ _ _ _ _ _ Tryz.underlying155 (by decide) (by kernel_rfl)
  have q15 : ∀ W, (Instr.typeAssert (.iface 69 (.pointer (some ⟨r, 0, none⟩))) 85 129 true).run Tryz.prog W = .ok (.tuple #[.pointer none, .bool false]) W := run_assert_other _ _ _ _ _ _ Tryz.underlying129 (by decide) (by kernel_rfl)
  have q16 : ∀ W, (Instr.typeAssert (.iface 69 (.pointer (some ⟨r, 0, none⟩))) 85 160 true).run Tryz.prog W = .ok (.tuple #[.pointer none, .bool false]) W := run_assert_other _ _ _ _ _ _ Tryz.underlying160 (by decide) (by kernel_rfl)
  have q17 : ∀ W, (Instr.typeAssert (.iface 69 (.pointer (some ⟨r, 0, none⟩))) 85 163 true).run Tryz.prog W = .ok (.tuple #[.pointer none, .bool false]) W := run_assert_other _ _ _ _ _ _ Tryz.underlying163 (by decide) (by kernel_rfl)
  have q18 : ∀ W, (Instr.typeAssert (.iface 69 (.pointer (some ⟨r, 0, none⟩))) 85 167 true).run Tryz.prog W = .ok (.tuple #[.pointer none, .bool false]) W := run_assert_other _ _ _ _ _ _ Tryz.underlying167 (by decide) (by kernel_rfl)
  have q19 : ∀ W, (Instr.typeAssert (.iface 69 (.pointer (some ⟨r, 0, none⟩))) 85 173 true).run Tryz.prog W = .ok (.tuple #[.pointer none, .bool false]) W := run_assert_other _ _ _ _ _ _ Tryz.underlying173 (by decide) (by kernel_rfl)
  have q20 : ∀ W, (Instr.typeAssert (.iface 69 (.pointer (some ⟨r, 0, none⟩))) 85 178 true).run Tryz.prog W = .ok (.tuple #[.pointer none, .bool false]) W := run_assert_other _ _ _ _ _ _ Tryz.underlying178 (by decide) (by kernel_rfl)
  have q21 : ∀ W, (Instr.typeAssert (.iface 69 (.pointer (some ⟨r, 0, none⟩))) 85 181 true).run Tryz.prog W = .ok (.tuple #[.pointer none, .bool false]) W := run_assert_other _ _ _ _ _ _ Tryz.underlying181 (by decide) (by kernel_rfl)
  have q22 : ∀ W, (Instr.typeAssert (.iface 69 (.pointer (some ⟨r, 0, none⟩))) 85 185 true).run Tryz.prog W = .ok (.tuple #[.pointer none, .bool false]) W := run_assert_other _ _ _ _ _ _ Tryz.underlying185 (by decide) (by kernel_rfl)
  have q23 : ∀ W, (Instr.typeAssert (.iface 69 (.pointer (some ⟨r, 0, none⟩))) 85 188 true).run Tryz.prog W = .ok (.tuple #[.pointer none, .bool false]) W := run_assert_other _ _ _ _ _ _ Tryz.underlying188 (by decide) (by kernel_rfl)
  have q24 : ∀ W, (Instr.typeAssert (.iface 69 (.pointer (some ⟨r, 0, none⟩))) 85 191 true).run Tryz.prog W = .ok (.tuple #[.pointer none, .bool false]) W := run_assert_other _ _ _ _ _ _ Tryz.underlying191 (by decide) (by kernel_rfl)
  have q25 : ∀ W, (Instr.typeAssert (.iface 69 (.pointer (some ⟨r, 0, none⟩))) 85 194 true).run Tryz.prog W = .ok (.tuple #[.pointer none, .bool false]) W := run_assert_other _ _ _ _ _ _ Tryz.underlying194 (by decide) (by kernel_rfl)
  have q26 : ∀ W, (Instr.typeAssert (.iface 69 (.pointer (some ⟨r, 0, none⟩))) 85 201 true).run Tryz.prog W = .ok (.tuple #[.pointer none, .bool false]) W := run_assert_other _ _ _ _ _ _ Tryz.underlying201 (by decide) (by kernel_rfl)
  have q27 : ∀ W, (Instr.typeAssert (.iface 69 (.pointer (some ⟨r, 0, none⟩))) 85 169 true).run Tryz.prog W = .ok (.tuple #[.pointer none, .bool false]) W := run_assert_other _ _ _ _ _ _ Tryz.underlying169 (by decide) (by kernel_rfl)
  have q28 : ∀ W, (Instr.typeAssert (.iface 69 (.pointer (some ⟨r, 0, none⟩))) 85 206 true).run Tryz.prog W = .ok (.tuple #[.pointer none, .bool false]) W := run_assert_other _ _ _ _ _ _ Tryz.underlying206 (by decide) (by kernel_rfl)
  have q29 : ∀ W, (Instr.typeAssert (.iface 69 (.pointer (some ⟨r, 0, none⟩))) 85 213 true).run Tryz.prog W = .ok (.tuple #[.pointer none, .bool false]) W := run_assert_other _ _ _ _ _ _ Tryz.underlying213 (by decide) (by kernel_rfl)
  have q30 : ∀ W, (Instr.typeAssert (.iface 69 (.pointer (some ⟨r, 0, none⟩))) 85 215 true).run Tryz.prog W = .ok (.tuple #[.pointer none, .bool false]) W := run_assert_other _ _ _ _ _ _ Tryz.underlying215 (by decide) (by kernel_rfl)
  have q31 : ∀ W, (Instr.typeAssert (.iface 69 (.pointer (some ⟨r, 0, none⟩))) 85 63 true).run Tryz.prog W = .ok (.tuple #[.pointer none, .bool false]) W := run_assert_other _ _ _ _ _ _ Tryz.underlying63 (by decide) (by kernel_rfl)
  have q32 : ∀ W, (Instr.typeAssert (.iface 69 (.pointer (some ⟨r, 0, none⟩))) 85 57 true).run Tryz.prog W = .ok (.tuple #[.pointer none, .bool false]) W := run_assert_other _ _ _ _ _ _ Tryz.underlying57 (by decide) (by kernel_rfl)
  have q33 : ∀ W, (Instr.typeAssert (.iface 69 (.pointer (some ⟨r, 0, none⟩))) 85 217 true).run Tryz.prog W = .ok (.tuple #[.pointer none, .bool false]) W := run_assert_other _ _ _ _ _ _ Tryz.underlying217 (by decide) (by kernel_rfl)
  have q34 : ∀ W, (Instr.typeAssert (.iface 69 (.pointer (some ⟨r, 0, none⟩))) 85 220 true).run Tryz.prog W = .ok (.tuple #[.pointer none, .bool false]) W := run_assert_other _ _ _ _ _ _ Tryz.underlying220 (by decide) (by kernel_rfl)
  have q35 : ∀ W, (Instr.typeAssert (.iface 69 (.pointer (some ⟨r, 0, none⟩))) 85 69 true).run Tryz.prog W = .ok (.tuple #[.pointer (some ⟨r, 0, none⟩), .bool true]) W := run_assert_same _ _ _ _ Tryz.underlying69
  have c3 : w.cell? ⟨r, 3, none⟩ = some (.int .u64 u) := by rw [Lib.cell_of_heap h]; rfl
  have hr : r < w.heap.size := (Array.getElem?_eq_some_iff.1 h).1
  clear h
  go_enter Tryz.func21, Tryz.ntmps21
  go_wp2
  refine bodyPost_ret (v := .agg #[.int .i64 37, .string ⟨#[]⟩, .string ⟨#[]⟩, .int .u64 u, .slice none 0 0]) (by simp [results, Tryz.results21, go_sem]) rfl ⟨rfl, (Below.refl _ w).alloc (Nat.le_refl _) _⟩


set_option maxHeartbeats 8000000 in
set_option maxRecDepth 100000 in
theorem nodeFloatLiteral (r : Nat) (u : Nat) (w : World) (h : w.heap[r]? = some (.cells #[.pointer none, .slice none 0 0, .slice none 0 0, .float .f64 u] 78 (0, 0))) :
    Calls Tryz.prog 21 #[.iface 75 (.pointer (some ⟨r, 0, none⟩))] w fun e w' => e = .returned (.agg #[.int .i64 38, .string ⟨#[]⟩, .string ⟨#[]⟩, .int .u64 u, .slice none 0 0]) ∧ Below w.heap.size w w' := by
  have q0 : ∀ W, (Instr.typeAssert (.iface 75 (.pointer (some ⟨r, 0, none⟩))) 85 86 true).run Tryz.prog W = .ok (.tuple #[.pointer none, .bool false]) W := run_assert_other _ _ _ _ _ _ Tryz.underlying86 (by decide) (by kernel_rfl)
  have q1 : ∀ W, (Instr.typeAssert (.iface 75 (.pointer (some ⟨r, 0, none⟩))) 85 91 true).run Tryz.prog W = .ok (.tuple #[.pointer none, .bool false]) W := run_assert_other _ _ _ _ _ _ Tryz.underlying91 (by decide) (by kernel_rfl)
  have q2 : ∀ W, (Instr.typeAssert (.iface 75 (.pointer (some ⟨r, 0, none⟩))) 85 92 true).run Tryz.prog W = .ok (.tuple #[.pointer none, .bool false]) W := run_assert_other _ _ _ _ _ _ Tryz.underlying92 (by decide) (by kernel_rfl)
  have q3 : ∀ W, (Instr.typeAssert (.iface 75 (.pointer (some ⟨r, 0, none⟩))) 85 101 true).run Tryz.prog W = .ok (.tuple #[.pointer none, .bool false]) W := run_assert_other _ _ _ _ _ _ Tryz.underlying101 (by decide) (by kernel_rfl)
  have q4 : ∀ W, (Instr.typeAssert (.iface 75 (.pointer (some ⟨r, 0, none⟩))) 85 109 true).run Tryz.prog W = .ok (.tuple #[.pointer none, .bool false]) W := run_assert_other _ _ _ _ _ _ Tryz.underlying109 (by decide) (by kernel_rfl)
  have q5 : ∀ W, (Instr.typeAssert (.iface 75 (.pointer (some ⟨r, 0, none⟩))) 85 38 true).run Tryz.prog W = .ok (.tuple #[.pointer none, .bool false]) W := run_assert_other _ _ _ _ _ _ Tryz.underlying38 (by decide) (by kernel_rfl)
  have q6 : ∀ W, (Instr.typeAssert (.iface 75 (.pointer (some ⟨r, 0, none⟩))) 85 112 true).run Tryz.prog W = .ok (.tuple #[.pointer none, .bool false]) W := run_assert_other _ _ _ _ _ _ Tryz.underlying112 (by decide) (by kernel_rfl)
  have q7 : ∀ W, (Instr.typeAssert (.iface 75 (.pointer (some ⟨r, 0, none⟩))) 85 117 true).run Tryz.prog W = .ok (.tuple #[.pointer none, .bool false]) W := run_assert_other _ _ _ _ _ _ Tryz.underlying117 (by decide) (by kernel_rfl)
  have q8 : ∀ W, (Instr.typeAssert (.iface 75 (.pointer (some ⟨r, 0, none⟩))) 85 120 true).run Tryz.prog W = .ok (.tuple #[.pointer none, .bool false]) W := run_assert_other _ _ _ _ _ _ Tryz.underlying120 (by decide) (by kernel_rfl)
  have q9 : ∀ W, (Instr.typeAssert (.iface 75 (.pointer (some ⟨r, 0, none⟩))) 85 123 true).run Tryz.prog W = .ok (.tuple #[.pointer none, .bool false]) W := run_assert_other _ _ _ _ _ _ Tryz.underlying123 (by decide) (by kernel_rfl)
  have q10 : ∀ W, (Instr.typeAssert (.iface 75 (.pointer (some ⟨r, 0, none⟩))) 85 132 true).run Tryz.prog W = .ok (.tuple #[.pointer none, .bool false]) W := run_assert_other _ _ _ _ _ _ Tryz.underlying132 (by decide) (by kernel_rfl)
  have q11 : ∀ W, (Instr.typeAssert (.iface 75 (.pointer (some ⟨r, 0, none⟩))) 85 137 true).run Tryz.prog W = .ok (.tuple #[.pointer none, .bool false]) W := run_assert_other _ _ _ _ _ _ Tryz.underlying137 (by decide) (by kernel_rfl)
  have q12 : ∀ W, (Instr.typeAssert (.iface 75 (.pointer (some ⟨r, 0, none⟩))) 85 147 true).run Tryz.prog W = .ok (.tuple #[.pointer none, .bool false]) W := run_assert_other _ _ _ _ _ _ Tryz.underlying147 (by decide) (by kernel_rfl)
  have q13 : ∀ W, (Instr.typeAssert (.iface 75 (.pointer (some ⟨r, 0, none⟩))) 85 151 true).run Tryz.prog W = .ok (.tuple #[.pointer none, .bool false]) W := run_assert_other _ _ _ _ _ _ Tryz.underlying151 (by decide) (by kernel_rfl)
  have q14 : ∀ W, (Instr.typeAssert (.iface 75 (.pointer (some ⟨r, 0, none⟩))) 85 155 true).run Tryz.prog W = .ok (.tuple #[.pointer none, .bool false]) W := run_assert_other _ _ _ _ _ _ Tryz.underlying155 (by decide) (by kernel_rfl)
  have q15 : ∀ W, (Instr.typeAssert (.iface 75 (.pointer (some ⟨r, 0, none⟩))) 85 129 true).run Tryz.prog W = .ok (.tuple #[.pointer none, .bool false]) W := run_assert_other _ _ _ _ _ _ Tryz.underlying129 (by decide) (by kernel_rfl)
  have q16 : ∀ W, (Instr.typeAssert (.iface 75 (.pointer (some ⟨r, 0, none⟩))) 85 160 true).run Tryz.prog W = .ok (.tuple #[.pointer none, .bool false]) W := run_assert_other _ _ _ _ _ _ Tryz.underlying160 (by decide) (by kernel_rfl)
  have q17 : ∀ W, (Instr.typeAssert (.iface 75 (.pointer (some ⟨r, 0, none⟩))) 85 163 true).run Tryz.prog W = .ok (.tuple #[.pointer none, .bool false]) W := run_assert_other _ _ _ _ _ _ Tryz.underlying163 (by decide) (by kernel_rfl)
  have q18 : ∀ W, (Instr.typeAssert (.iface 75 (.pointer (some ⟨r, 0, none⟩))) 85 167 true).run Tryz.prog W = .ok (.tuple #[.pointer none, .bool false]) W := run_assert_other _ _ _ _ _ _ Tryz.underlying167 (by decide) (by kernel_rfl)
  have q19 : ∀ W, (Instr.typeAssert (.iface 75 (.pointer (some ⟨r, 0, none⟩))) 85 173 true).run Tryz.prog W = .ok (.tuple #[.pointer none, .bool false]) W := run_assert_other _ _ _ _ _ _ Tryz.underlying173 (by decide) (by kernel_rfl)
  have q20 : ∀ W, (Instr.typeAssert (.iface 75 (.pointer (some ⟨r, 0, none⟩))) 85 178 true).run Tryz.prog W = .ok (.tuple #[.pointer none, .bool false]) W := run_assert_other _ _ _ _ _ _ Tryz.underlying178 (by decide) (by kernel_rfl)
  have q21 : ∀ W, (Instr.typeAssert (.iface 75 (.pointer (some ⟨r, 0, none⟩))) 85 181 true).run Tryz.prog W = .ok (.tuple #[.pointer none, .bool false]) W := run_assert_other _ _ _ _ _ _ Tryz.underlying181 (by decide) (by kernel_rfl)
  have q22 : ∀ W, (Instr.typeAssert (.iface 75 (.pointer (some ⟨r, 0, none⟩))) 85 185 true).run Tryz.prog W = .ok (.tuple #[.pointer none, .bool false]) W := run_assert_other _ _ _ _ _ _ Tryz.underlying185 (by decide) (by kernel_rfl)
  have q23 : ∀ W, (Instr.typeAssert (.iface 75 (.pointer (some ⟨r, 0, none⟩))) 85 188 true).run Tryz.prog W = .ok (.tuple #[.pointer none, .bool false]) W := run_assert_other _ _ _ _ _ _ Tryz.underlying188 (by decide) (by kernel_rfl)
  have q24 : ∀ W, (Instr.typeAssert (.iface 75 (.pointer (some ⟨r, 0, none⟩))) 85 191 true).run Tryz.prog W = .ok (.tuple #[.pointer none, .bool false]) W := run_assert_other _ _ _ _ _ _ Tryz.underlying191 (by decide) (by kernel_rfl)
  have q25 : ∀ W, (Instr.typeAssert (.iface 75 (.pointer (some ⟨r, 0, none⟩))) 85 194 true).run Tryz.prog W = .ok (.tuple #[.pointer none, .bool false]) W := run_assert_other _ _ _ _ _ _ Tryz.underlying194 (by decide) (by kernel_rfl)
  have q26 : ∀ W, (Instr.typeAssert (.iface 75 (.pointer (some ⟨r, 0, none⟩))) 85 201 true).run Tryz.prog W = .ok (.tuple #[.pointer none, .bool false]) W := run_assert_other _ _ _ _ _ _ Tryz.underlying201 (by decide) (by kernel_rfl)
  have q27 : ∀ W, (Instr.typeAssert (.iface 75 (.pointer (some ⟨r, 0, none⟩))) 85 169 true).run Tryz.prog W = .ok (.tuple #[.pointer none, .bool false]) W := run_assert_other _ _ _ _ _ _ Tryz.underlying169 (by decide) (by kernel_rfl)
  have q28 : ∀ W, (Instr.typeAssert (.iface 75 (.pointer (some ⟨r, 0, none⟩))) 85 206 true).run Tryz.prog W = .ok (.tuple #[.pointer none, .bool false]) W := run_assert_other _ _ _ _ _ _ Tryz.underlying206 (by decide) (by kernel_rfl)
  have q29 : ∀ W, (Instr.typeAssert (.iface 75 (.pointer (some ⟨r, 0, none⟩))) 85 213 true).run Tryz.prog W = .ok (.tuple #[.pointer none, .bool false]) W := run_assert_other _ _ _ _ _ _ Tryz.underlying213 (by decide) (by kernel_rfl)
  have q30 : ∀ W, (Instr.typeAssert (.iface 75 (.pointer (some ⟨r, 0, none⟩))) 85 215 true).run Tryz.prog W = .ok (.tuple #[.pointer none, .bool false]) W := run_assert_other _ _ _ _ _ _ Tryz.underlying215 (by decide) (by kernel_rfl)
  have q31 : ∀ W, (Instr.typeAssert (.iface 75 (.pointer (some ⟨r, 0, none⟩))) 85 63 true).run Tryz.prog W = .ok (.tuple #[.pointer none, .bool false]) W := run_assert_other _ _ _ _ _ _ Tryz.underlying63 (by decide) (by kernel_rfl)
  have q32 : ∀ W, (Instr.typeAssert (.iface 75 (.pointer (some ⟨r, 0, none⟩))) 85 57 true).run Tryz.prog W = .ok (.tuple #[.pointer none, .bool false]) W := run_assert_other _ _ _ _ _ _ Tryz.underlying57 (by decide) (by kernel_rfl)
  have q33 : ∀ W, (Instr.typeAssert (.iface 75 (.pointer (some ⟨r, 0, none⟩))) 85 217 true).run Tryz.prog W = .ok (.tuple #[.pointer none, .bool false]) W := run_assert_other _ _ _ _ _ _ Tryz.underlying217 (by decide) (by kernel_rfl)
  have q34 : ∀ W, (Instr.typeAssert (.iface 75 (.pointer (some ⟨r, 0, none⟩))) 85 220 true).run Tryz.prog W = .ok (.tuple #[.pointer none, .bool false]) W := run_assert_other _ _ _ _ _ _ Tryz.underlying220 (by decide) (by kernel_rfl)
  have q35 : ∀ W, (Instr.typeAssert (.iface 75 (.pointer (some ⟨r, 0, none⟩))) 85 69 true).run Tryz.prog W = .ok (.tuple #[.pointer none, .bool false]) W := run_assert_other _ _ _ _ _ _ Tryz.underlying69 (by decide) (by kernel_rfl)
  have q36 : ∀ W, (Instr.typeAssert (.iface 75 (.pointer (some ⟨r, 0, none⟩))) 85 75 true).run Tryz.prog W = .ok (.tuple #[.pointer (some ⟨r, 0, none⟩), .bool true]) W := run_assert_same _ _ _ _ Tryz.underlying75
  have c3 : w.cell? ⟨r, 3, none⟩ = some (.float .f64 u) := by rw [Lib.cell_of_heap h]; rfl
  have hr : r < w.heap.size := (Array.getElem?_eq_some_iff.1 h).1
  have hx : ∀ W, (callFunc 55 #[.float .f64 u]).run Tryz.prog W = .ok (.value (.int .u64 (u : Int))) W := fun W =>
    run_callFunc_extern (e := Extern.MathFloatBits.float64bits) Tryz.func55 (by kernel_rfl) (by kernel_rfl) (by kernel_rfl) (by kernel_rfl) _ W
  clear h
  go_enter Tryz.func21, Tryz.ntmps21
  go_wp2
  refine bodyPost_ret (v := .agg #[.int .i64 38, .string ⟨#[]⟩, .string ⟨#[]⟩, .int .u64 u, .slice none 0 0]) (by simp [results, Tryz.results21, go_sem]) rfl ⟨rfl, (Below.refl _ w).alloc (Nat.le_refl _) _⟩


end Go.Proofs.YtgoklibifdhbeaaGreatDoor
