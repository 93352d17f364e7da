/- impl.node over nodes of one text or number. -/
import Derived.Test.YtgceklahjdbipaaGreatDoorGet
import Derived.Laws.Externs
namespace Go.Proofs.YtgceklahjdbipaaGreatDoor
open Go Go.RowKit
set_option linter.unusedVariables false
set_option linter.unusedSimpArgs false

theorem run_assert_other {P : Program} (t xT asserted e : TypeId) (v z : Value) (hu : P.underlying asserted = some (.pointer e)) (hne : t ≠ asserted) (hz : (P.info? asserted).map (·.zero) = some (some z)) (W : World) :
    (Instr.typeAssert (.iface t v) xT asserted true).run P W = .ok (.tuple #[z, .bool false]) W := by
  obtain ⟨j, hj, hz'⟩ := Option.map_eq_some_iff.1 hz
  simp [Instr.typeAssert, run_underlying hu, hne, zeroValue, hj, hz', typeInfo]

theorem run_assert_same {P : Program} (t xT e : TypeId) (v : Value) (hu : P.underlying t = some (.pointer e)) (W : World) :
    (Instr.typeAssert (.iface t v) xT t true).run P W = .ok (.tuple #[v, .bool true]) W := by
  simp [Instr.typeAssert, run_underlying hu]


set_option maxHeartbeats 8000000 in
set_option maxRecDepth 100000 in
theorem nodeBadStatement (r : Nat) (t : ByteArray) (w : World) (h : w.heap[r]? = some (.cells #[.pointer none, .slice none 0 0, .slice none 0 0, .string t] 117 (0, 0))) :
    Calls Tryz.prog 19 #[.iface 115 (.pointer (some ⟨r, 0, none⟩))] w fun e w' => e = .returned (.agg #[.int .i64 7, .string t, .string ⟨#[]⟩, .int .u64 0, .slice none 0 0]) ∧ Below w.heap.size w w' := by
  have q0 : ∀ W, (Instr.typeAssert (.iface 115 (.pointer (some ⟨r, 0, none⟩))) 83 84 true).run Tryz.prog W = .ok (.tuple #[.pointer none, .bool false]) W := run_assert_other _ _ _ _ _ _ Tryz.underlying84 (by decide) (by kernel_rfl)
  have q1 : ∀ W, (Instr.typeAssert (.iface 115 (.pointer (some ⟨r, 0, none⟩))) 83 89 true).run Tryz.prog W = .ok (.tuple #[.pointer none, .bool false]) W := run_assert_other _ _ _ _ _ _ Tryz.underlying89 (by decide) (by kernel_rfl)
  have q2 : ∀ W, (Instr.typeAssert (.iface 115 (.pointer (some ⟨r, 0, none⟩))) 83 90 true).run Tryz.prog W = .ok (.tuple #[.pointer none, .bool false]) W := run_assert_other _ _ _ _ _ _ Tryz.underlying90 (by decide) (by kernel_rfl)
  have q3 : ∀ W, (Instr.typeAssert (.iface 115 (.pointer (some ⟨r, 0, none⟩))) 83 99 true).run Tryz.prog W = .ok (.tuple #[.pointer none, .bool false]) W := run_assert_other _ _ _ _ _ _ Tryz.underlying99 (by decide) (by kernel_rfl)
  have q4 : ∀ W, (Instr.typeAssert (.iface 115 (.pointer (some ⟨r, 0, none⟩))) 83 112 true).run Tryz.prog W = .ok (.tuple #[.pointer none, .bool false]) W := run_assert_other _ _ _ _ _ _ Tryz.underlying112 (by decide) (by kernel_rfl)
  have q5 : ∀ W, (Instr.typeAssert (.iface 115 (.pointer (some ⟨r, 0, none⟩))) 83 115 true).run Tryz.prog W = .ok (.tuple #[.pointer (some ⟨r, 0, none⟩), .bool true]) W := run_assert_same _ _ _ _ Tryz.underlying115
  have c3 : w.cell? ⟨r, 3, none⟩ = some (.string t) := by rw [Lib.cell_of_heap h]; rfl
  have hr : r < w.heap.size := (Array.getElem?_eq_some_iff.1 h).1
  clear h
  go_enter Tryz.func19, Tryz.ntmps19
  go_wp2
  refine bodyPost_ret (v := .agg #[.int .i64 7, .string t, .string ⟨#[]⟩, .int .u64 0, .slice none 0 0]) (by simp [results, Tryz.results19, go_sem]) rfl ⟨rfl, (Below.refl _ w).alloc (Nat.le_refl _) _⟩


set_option maxHeartbeats 8000000 in
set_option maxRecDepth 100000 in
theorem nodeIdentifier (r : Nat) (t : ByteArray) (w : World) (h : w.heap[r]? = some (.cells #[.pointer none, .slice none 0 0, .slice none 0 0, .string t] 105 (0, 0))) :
    Calls Tryz.prog 19 #[.iface 60 (.pointer (some ⟨r, 0, none⟩))] w fun e w' => e = .returned (.agg #[.int .i64 33, .string t, .string ⟨#[]⟩, .int .u64 0, .slice none 0 0]) ∧ Below w.heap.size w w' := by
  have q0 : ∀ W, (Instr.typeAssert (.iface 60 (.pointer (some ⟨r, 0, none⟩))) 83 84 true).run Tryz.prog W = .ok (.tuple #[.pointer none, .bool false]) W := run_assert_other _ _ _ _ _ _ Tryz.underlying84 (by decide) (by kernel_rfl)
  have q1 : ∀ W, (Instr.typeAssert (.iface 60 (.pointer (some ⟨r, 0, none⟩))) 83 89 true).run Tryz.prog W = .ok (.tuple #[.pointer none, .bool false]) W := run_assert_other _ _ _ _ _ _ Tryz.underlying89 (by decide) (by kernel_rfl)
  have q2 : ∀ W, (Instr.typeAssert (.iface 60 (.pointer (some ⟨r, 0, none⟩))) 83 90 true).run Tryz.prog W = .ok (.tuple #[.pointer none, .bool false]) W := run_assert_other _ _ _ _ _ _ Tryz.underlying90 (by decide) (by kernel_rfl)
  have q3 : ∀ W, (Instr.typeAssert (.iface 60 (.pointer (some ⟨r, 0, none⟩))) 83 99 true).run Tryz.prog W = .ok (.tuple #[.pointer none, .bool false]) W := run_assert_other _ _ _ _ _ _ Tryz.underlying99 (by decide) (by kernel_rfl)
  have q4 : ∀ W, (Instr.typeAssert (.iface 60 (.pointer (some ⟨r, 0, none⟩))) 83 112 true).run Tryz.prog W = .ok (.tuple #[.pointer none, .bool false]) W := run_assert_other _ _ _ _ _ _ Tryz.underlying112 (by decide) (by kernel_rfl)
  have q5 : ∀ W, (Instr.typeAssert (.iface 60 (.pointer (some ⟨r, 0, none⟩))) 83 115 true).run Tryz.prog W = .ok (.tuple #[.pointer none, .bool false]) W := run_assert_other _ _ _ _ _ _ Tryz.underlying115 (by decide) (by kernel_rfl)
  have q6 : ∀ W, (Instr.typeAssert (.iface 60 (.pointer (some ⟨r, 0, none⟩))) 83 118 true).run Tryz.prog W = .ok (.tuple #[.pointer none, .bool false]) W := run_assert_other _ _ _ _ _ _ Tryz.underlying118 (by decide) (by kernel_rfl)
  have q7 : ∀ W, (Instr.typeAssert (.iface 60 (.pointer (some ⟨r, 0, none⟩))) 83 123 true).run Tryz.prog W = .ok (.tuple #[.pointer none, .bool false]) W := run_assert_other _ _ _ _ _ _ Tryz.underlying123 (by decide) (by kernel_rfl)
  have q8 : ∀ W, (Instr.typeAssert (.iface 60 (.pointer (some ⟨r, 0, none⟩))) 83 126 true).run Tryz.prog W = .ok (.tuple #[.pointer none, .bool false]) W := run_assert_other _ _ _ _ _ _ Tryz.underlying126 (by decide) (by kernel_rfl)
  have q9 : ∀ W, (Instr.typeAssert (.iface 60 (.pointer (some ⟨r, 0, none⟩))) 83 129 true).run Tryz.prog W = .ok (.tuple #[.pointer none, .bool false]) W := run_assert_other _ _ _ _ _ _ Tryz.underlying129 (by decide) (by kernel_rfl)
  have q10 : ∀ W, (Instr.typeAssert (.iface 60 (.pointer (some ⟨r, 0, none⟩))) 83 138 true).run Tryz.prog W = .ok (.tuple #[.pointer none, .bool false]) W := run_assert_other _ _ _ _ _ _ Tryz.underlying138 (by decide) (by kernel_rfl)
  have q11 : ∀ W, (Instr.typeAssert (.iface 60 (.pointer (some ⟨r, 0, none⟩))) 83 143 true).run Tryz.prog W = .ok (.tuple #[.pointer none, .bool false]) W := run_assert_other _ _ _ _ _ _ Tryz.underlying143 (by decide) (by kernel_rfl)
  have q12 : ∀ W, (Instr.typeAssert (.iface 60 (.pointer (some ⟨r, 0, none⟩))) 83 147 true).run Tryz.prog W = .ok (.tuple #[.pointer none, .bool false]) W := run_assert_other _ _ _ _ _ _ Tryz.underlying147 (by decide) (by kernel_rfl)
  have q13 : ∀ W, (Instr.typeAssert (.iface 60 (.pointer (some ⟨r, 0, none⟩))) 83 151 true).run Tryz.prog W = .ok (.tuple #[.pointer none, .bool false]) W := run_assert_other _ _ _ _ _ _ Tryz.underlying151 (by decide) (by kernel_rfl)
  have q14 : ∀ W, (Instr.typeAssert (.iface 60 (.pointer (some ⟨r, 0, none⟩))) 83 155 true).run Tryz.prog W = .ok (.tuple #[.pointer none, .bool false]) W := run_assert_other _ _ _ _ _ _ Tryz.underlying155 (by decide) (by kernel_rfl)
  have q15 : ∀ W, (Instr.typeAssert (.iface 60 (.pointer (some ⟨r, 0, none⟩))) 83 135 true).run Tryz.prog W = .ok (.tuple #[.pointer none, .bool false]) W := run_assert_other _ _ _ _ _ _ Tryz.underlying135 (by decide) (by kernel_rfl)
  have q16 : ∀ W, (Instr.typeAssert (.iface 60 (.pointer (some ⟨r, 0, none⟩))) 83 160 true).run Tryz.prog W = .ok (.tuple #[.pointer none, .bool false]) W := run_assert_other _ _ _ _ _ _ Tryz.underlying160 (by decide) (by kernel_rfl)
  have q17 : ∀ W, (Instr.typeAssert (.iface 60 (.pointer (some ⟨r, 0, none⟩))) 83 163 true).run Tryz.prog W = .ok (.tuple #[.pointer none, .bool false]) W := run_assert_other _ _ _ _ _ _ Tryz.underlying163 (by decide) (by kernel_rfl)
  have q18 : ∀ W, (Instr.typeAssert (.iface 60 (.pointer (some ⟨r, 0, none⟩))) 83 167 true).run Tryz.prog W = .ok (.tuple #[.pointer none, .bool false]) W := run_assert_other _ _ _ _ _ _ Tryz.underlying167 (by decide) (by kernel_rfl)
  have q19 : ∀ W, (Instr.typeAssert (.iface 60 (.pointer (some ⟨r, 0, none⟩))) 83 173 true).run Tryz.prog W = .ok (.tuple #[.pointer none, .bool false]) W := run_assert_other _ _ _ _ _ _ Tryz.underlying173 (by decide) (by kernel_rfl)
  have q20 : ∀ W, (Instr.typeAssert (.iface 60 (.pointer (some ⟨r, 0, none⟩))) 83 178 true).run Tryz.prog W = .ok (.tuple #[.pointer none, .bool false]) W := run_assert_other _ _ _ _ _ _ Tryz.underlying178 (by decide) (by kernel_rfl)
  have q21 : ∀ W, (Instr.typeAssert (.iface 60 (.pointer (some ⟨r, 0, none⟩))) 83 181 true).run Tryz.prog W = .ok (.tuple #[.pointer none, .bool false]) W := run_assert_other _ _ _ _ _ _ Tryz.underlying181 (by decide) (by kernel_rfl)
  have q22 : ∀ W, (Instr.typeAssert (.iface 60 (.pointer (some ⟨r, 0, none⟩))) 83 185 true).run Tryz.prog W = .ok (.tuple #[.pointer none, .bool false]) W := run_assert_other _ _ _ _ _ _ Tryz.underlying185 (by decide) (by kernel_rfl)
  have q23 : ∀ W, (Instr.typeAssert (.iface 60 (.pointer (some ⟨r, 0, none⟩))) 83 188 true).run Tryz.prog W = .ok (.tuple #[.pointer none, .bool false]) W := run_assert_other _ _ _ _ _ _ Tryz.underlying188 (by decide) (by kernel_rfl)
  have q24 : ∀ W, (Instr.typeAssert (.iface 60 (.pointer (some ⟨r, 0, none⟩))) 83 191 true).run Tryz.prog W = .ok (.tuple #[.pointer none, .bool false]) W := run_assert_other _ _ _ _ _ _ Tryz.underlying191 (by decide) (by kernel_rfl)
  have q25 : ∀ W, (Instr.typeAssert (.iface 60 (.pointer (some ⟨r, 0, none⟩))) 83 194 true).run Tryz.prog W = .ok (.tuple #[.pointer none, .bool false]) W := run_assert_other _ _ _ _ _ _ Tryz.underlying194 (by decide) (by kernel_rfl)
  have q26 : ∀ W, (Instr.typeAssert (.iface 60 (.pointer (some ⟨r, 0, none⟩))) 83 201 true).run Tryz.prog W = .ok (.tuple #[.pointer none, .bool false]) W := run_assert_other _ _ _ _ _ _ Tryz.underlying201 (by decide) (by kernel_rfl)
  have q27 : ∀ W, (Instr.typeAssert (.iface 60 (.pointer (some ⟨r, 0, none⟩))) 83 169 true).run Tryz.prog W = .ok (.tuple #[.pointer none, .bool false]) W := run_assert_other _ _ _ _ _ _ Tryz.underlying169 (by decide) (by kernel_rfl)
  have q28 : ∀ W, (Instr.typeAssert (.iface 60 (.pointer (some ⟨r, 0, none⟩))) 83 206 true).run Tryz.prog W = .ok (.tuple #[.pointer none, .bool false]) W := run_assert_other _ _ _ _ _ _ Tryz.underlying206 (by decide) (by kernel_rfl)
  have q29 : ∀ W, (Instr.typeAssert (.iface 60 (.pointer (some ⟨r, 0, none⟩))) 83 213 true).run Tryz.prog W = .ok (.tuple #[.pointer none, .bool false]) W := run_assert_other _ _ _ _ _ _ Tryz.underlying213 (by decide) (by kernel_rfl)
  have q30 : ∀ W, (Instr.typeAssert (.iface 60 (.pointer (some ⟨r, 0, none⟩))) 83 215 true).run Tryz.prog W = .ok (.tuple #[.pointer none, .bool false]) W := run_assert_other _ _ _ _ _ _ Tryz.underlying215 (by decide) (by kernel_rfl)
  have q31 : ∀ W, (Instr.typeAssert (.iface 60 (.pointer (some ⟨r, 0, none⟩))) 83 60 true).run Tryz.prog W = .ok (.tuple #[.pointer (some ⟨r, 0, none⟩), .bool true]) W := run_assert_same _ _ _ _ Tryz.underlying60
  have c3 : w.cell? ⟨r, 3, none⟩ = some (.string t) := by rw [Lib.cell_of_heap h]; rfl
  have hr : r < w.heap.size := (Array.getElem?_eq_some_iff.1 h).1
  clear h
  go_enter Tryz.func19, Tryz.ntmps19
  go_wp2
  refine bodyPost_ret (v := .agg #[.int .i64 33, .string t, .string ⟨#[]⟩, .int .u64 0, .slice none 0 0]) (by simp [results, Tryz.results19, go_sem]) rfl ⟨rfl, (Below.refl _ w).alloc (Nat.le_refl _) _⟩


set_option maxHeartbeats 8000000 in
set_option maxRecDepth 100000 in
theorem nodeStringLiteral (r : Nat) (t : ByteArray) (w : World) (h : w.heap[r]? = some (.cells #[.pointer none, .slice none 0 0, .slice none 0 0, .string t] 111 (0, 0))) :
    Calls Tryz.prog 19 #[.iface 106 (.pointer (some ⟨r, 0, none⟩))] w fun e w' => e = .returned (.agg #[.int .i64 34, .string t, .string ⟨#[]⟩, .int .u64 0, .slice none 0 0]) ∧ Below w.heap.size w w' := by
  have q0 : ∀ W, (Instr.typeAssert (.iface 106 (.pointer (some ⟨r, 0, none⟩))) 83 84 true).run Tryz.prog W = .ok (.tuple #[.pointer none, .bool false]) W := run_assert_other _ _ _ _ _ _ Tryz.underlying84 (by decide) (by kernel_rfl)
  have q1 : ∀ W, (Instr.typeAssert (.iface 106 (.pointer (some ⟨r, 0, none⟩))) 83 89 true).run Tryz.prog W = .ok (.tuple #[.pointer none, .bool false]) W := run_assert_other _ _ _ _ _ _ Tryz.underlying89 (by decide) (by kernel_rfl)
  have q2 : ∀ W, (Instr.typeAssert (.iface 106 (.pointer (some ⟨r, 0, none⟩))) 83 90 true).run Tryz.prog W = .ok (.tuple #[.pointer none, .bool false]) W := run_assert_other _ _ _ _ _ _ Tryz.underlying90 (by decide) (by kernel_rfl)
  have q3 : ∀ W, (Instr.typeAssert (.iface 106 (.pointer (some ⟨r, 0, none⟩))) 83 99 true).run Tryz.prog W = .ok (.tuple #[.pointer none, .bool false]) W := run_assert_other _ _ _ _ _ _ Tryz.underlying99 (by decide) (by kernel_rfl)
  have q4 : ∀ W, (Instr.typeAssert (.iface 106 (.pointer (some ⟨r, 0, none⟩))) 83 112 true).run Tryz.prog W = .ok (.tuple #[.pointer none, .bool false]) W := run_assert_other _ _ _ _ _ _ Tryz.underlying112 (by decide) (by kernel_rfl)
  have q5 : ∀ W, (Instr.typeAssert (.iface 106 (.pointer (some ⟨r, 0, none⟩))) 83 115 true).run Tryz.prog W = .ok (.tuple #[.pointer none, .bool false]) W := run_assert_other _ _ _ _ _ _ Tryz.underlying115 (by decide) (by kernel_rfl)
  have q6 : ∀ W, (Instr.typeAssert (.iface 106 (.pointer (some ⟨r, 0, none⟩))) 83 118 true).run Tryz.prog W = .ok (.tuple #[.pointer none, .bool false]) W := run_assert_other _ _ _ _ _ _ Tryz.underlying118 (by decide) (by kernel_rfl)
  have q7 : ∀ W, (Instr.typeAssert (.iface 106 (.pointer (some ⟨r, 0, none⟩))) 83 123 true).run Tryz.prog W = .ok (.tuple #[.pointer none, .bool false]) W := run_assert_other _ _ _ _ _ _ Tryz.underlying123 (by decide) (by kernel_rfl)
  have q8 : ∀ W, (Instr.typeAssert (.iface 106 (.pointer (some ⟨r, 0, none⟩))) 83 126 true).run Tryz.prog W = .ok (.tuple #[.pointer none, .bool false]) W := run_assert_other _ _ _ _ _ _ Tryz.underlying126 (by decide) (by kernel_rfl)
  have q9 : ∀ W, (Instr.typeAssert (.iface 106 (.pointer (some ⟨r, 0, none⟩))) 83 129 true).run Tryz.prog W = .ok (.tuple #[.pointer none, .bool false]) W := run_assert_other _ _ _ _ _ _ Tryz.underlying129 (by decide) (by kernel_rfl)
  have q10 : ∀ W, (Instr.typeAssert (.iface 106 (.pointer (some ⟨r, 0, none⟩))) 83 138 true).run Tryz.prog W = .ok (.tuple #[.pointer none, .bool false]) W := run_assert_other _ _ _ _ _ _ Tryz.underlying138 (by decide) (by kernel_rfl)
  have q11 : ∀ W, (Instr.typeAssert (.iface 106 (.pointer (some ⟨r, 0, none⟩))) 83 143 true).run Tryz.prog W = .ok (.tuple #[.pointer none, .bool false]) W := run_assert_other _ _ _ _ _ _ Tryz.underlying143 (by decide) (by kernel_rfl)
  have q12 : ∀ W, (Instr.typeAssert (.iface 106 (.pointer (some ⟨r, 0, none⟩))) 83 147 true).run Tryz.prog W = .ok (.tuple #[.pointer none, .bool false]) W := run_assert_other _ _ _ _ _ _ Tryz.underlying147 (by decide) (by kernel_rfl)
  have q13 : ∀ W, (Instr.typeAssert (.iface 106 (.pointer (some ⟨r, 0, none⟩))) 83 151 true).run Tryz.prog W = .ok (.tuple #[.pointer none, .bool false]) W := run_assert_other _ _ _ _ _ _ Tryz.underlying151 (by decide) (by kernel_rfl)
  have q14 : ∀ W, (Instr.typeAssert (.iface 106 (.pointer (some ⟨r, 0, none⟩))) 83 155 true).run Tryz.prog W = .ok (.tuple #[.pointer none, .bool false]) W := run_assert_other _ _ _ _ _ _ Tryz.underlying155 (by decide) (by kernel_rfl)
  have q15 : ∀ W, (Instr.typeAssert (.iface 106 (.pointer (some ⟨r, 0, none⟩))) 83 135 true).run Tryz.prog W = .ok (.tuple #[.pointer none, .bool false]) W := run_assert_other _ _ _ _ _ _ Tryz.underlying135 (by decide) (by kernel_rfl)
  have q16 : ∀ W, (Instr.typeAssert (.iface 106 (.pointer (some ⟨r, 0, none⟩))) 83 160 true).run Tryz.prog W = .ok (.tuple #[.pointer none, .bool false]) W := run_assert_other _ _ _ _ _ _ Tryz.underlying160 (by decide) (by kernel_rfl)
  have q17 : ∀ W, (Instr.typeAssert (.iface 106 (.pointer (some ⟨r, 0, none⟩))) 83 163 true).run Tryz.prog W = .ok (.tuple #[.pointer none, .bool false]) W := run_assert_other _ _ _ _ _ _ Tryz.underlying163 (by decide) (by kernel_rfl)
  have q18 : ∀ W, (Instr.typeAssert (.iface 106 (.pointer (some ⟨r, 0, none⟩))) 83 167 true).run Tryz.prog W = .ok (.tuple #[.pointer none, .bool false]) W := run_assert_other _ _ _ _ _ _ Tryz.underlying167 (by decide) (by kernel_rfl)
  have q19 : ∀ W, (Instr.typeAssert (.iface 106 (.pointer (some ⟨r, 0, none⟩))) 83 173 true).run Tryz.prog W = .ok (.tuple #[.pointer none, .bool false]) W := run_assert_other _ _ _ _ _ _ Tryz.underlying173 (by decide) (by kernel_rfl)
  have q20 : ∀ W, (Instr.typeAssert (.iface 106 (.pointer (some ⟨r, 0, none⟩))) 83 178 true).run Tryz.prog W = .ok (.tuple #[.pointer none, .bool false]) W := run_assert_other _ _ _ _ _ _ Tryz.underlying178 (by decide) (by kernel_rfl)
  have q21 : ∀ W, (Instr.typeAssert (.iface 106 (.pointer (some ⟨r, 0, none⟩))) 83 181 true).run Tryz.prog W = .ok (.tuple #[.pointer none, .bool false]) W := run_assert_other _ _ _ _ _ _ Tryz.underlying181 (by decide) (by kernel_rfl)
  have q22 : ∀ W, (Instr.typeAssert (.iface 106 (.pointer (some ⟨r, 0, none⟩))) 83 185 true).run Tryz.prog W = .ok (.tuple #[.pointer none, .bool false]) W := run_assert_other _ _ _ _ _ _ Tryz.underlying185 (by decide) (by kernel_rfl)
  have q23 : ∀ W, (Instr.typeAssert (.iface 106 (.pointer (some ⟨r, 0, none⟩))) 83 188 true).run Tryz.prog W = .ok (.tuple #[.pointer none, .bool false]) W := run_assert_other _ _ _ _ _ _ Tryz.underlying188 (by decide) (by kernel_rfl)
  have q24 : ∀ W, (Instr.typeAssert (.iface 106 (.pointer (some ⟨r, 0, none⟩))) 83 191 true).run Tryz.prog W = .ok (.tuple #[.pointer none, .bool false]) W := run_assert_other _ _ _ _ _ _ Tryz.underlying191 (by decide) (by kernel_rfl)
  have q25 : ∀ W, (Instr.typeAssert (.iface 106 (.pointer (some ⟨r, 0, none⟩))) 83 194 true).run Tryz.prog W = .ok (.tuple #[.pointer none, .bool false]) W := run_assert_other _ _ _ _ _ _ Tryz.underlying194 (by decide) (by kernel_rfl)
  have q26 : ∀ W, (Instr.typeAssert (.iface 106 (.pointer (some ⟨r, 0, none⟩))) 83 201 true).run Tryz.prog W = .ok (.tuple #[.pointer none, .bool false]) W := run_assert_other _ _ _ _ _ _ Tryz.underlying201 (by decide) (by kernel_rfl)
  have q27 : ∀ W, (Instr.typeAssert (.iface 106 (.pointer (some ⟨r, 0, none⟩))) 83 169 true).run Tryz.prog W = .ok (.tuple #[.pointer none, .bool false]) W := run_assert_other _ _ _ _ _ _ Tryz.underlying169 (by decide) (by kernel_rfl)
  have q28 : ∀ W, (Instr.typeAssert (.iface 106 (.pointer (some ⟨r, 0, none⟩))) 83 206 true).run Tryz.prog W = .ok (.tuple #[.pointer none, .bool false]) W := run_assert_other _ _ _ _ _ _ Tryz.underlying206 (by decide) (by kernel_rfl)
  have q29 : ∀ W, (Instr.typeAssert (.iface 106 (.pointer (some ⟨r, 0, none⟩))) 83 213 true).run Tryz.prog W = .ok (.tuple #[.pointer none, .bool false]) W := run_assert_other _ _ _ _ _ _ Tryz.underlying213 (by decide) (by kernel_rfl)
  have q30 : ∀ W, (Instr.typeAssert (.iface 106 (.pointer (some ⟨r, 0, none⟩))) 83 215 true).run Tryz.prog W = .ok (.tuple #[.pointer none, .bool false]) W := run_assert_other _ _ _ _ _ _ Tryz.underlying215 (by decide) (by kernel_rfl)
  have q31 : ∀ W, (Instr.typeAssert (.iface 106 (.pointer (some ⟨r, 0, none⟩))) 83 60 true).run Tryz.prog W = .ok (.tuple #[.pointer none, .bool false]) W := run_assert_other _ _ _ _ _ _ Tryz.underlying60 (by decide) (by kernel_rfl)
  have q32 : ∀ W, (Instr.typeAssert (.iface 106 (.pointer (some ⟨r, 0, none⟩))) 83 106 true).run Tryz.prog W = .ok (.tuple #[.pointer (some ⟨r, 0, none⟩), .bool true]) W := run_assert_same _ _ _ _ Tryz.underlying106
  have c3 : w.cell? ⟨r, 3, none⟩ = some (.string t) := by rw [Lib.cell_of_heap h]; rfl
  have hr : r < w.heap.size := (Array.getElem?_eq_some_iff.1 h).1
  clear h
  go_enter Tryz.func19, Tryz.ntmps19
  go_wp2
  refine bodyPost_ret (v := .agg #[.int .i64 34, .string t, .string ⟨#[]⟩, .int .u64 0, .slice none 0 0]) (by simp [results, Tryz.results19, go_sem]) rfl ⟨rfl, (Below.refl _ w).alloc (Nat.le_refl _) _⟩


set_option maxHeartbeats 8000000 in
set_option maxRecDepth 100000 in
theorem nodeUnsignedIntegerLiteral (r : Nat) (u : Nat) (w : World) (h : w.heap[r]? = some (.cells #[.pointer none, .slice none 0 0, .slice none 0 0, .int .u64 u] 225 (0, 0))) :
    Calls Tryz.prog 19 #[.iface 223 (.pointer (some ⟨r, 0, none⟩))] w fun e w' => e = .returned (.agg #[.int .i64 37, .string ⟨#[]⟩, .string ⟨#[]⟩, .int .u64 u, .slice none 0 0]) ∧ Below w.heap.size w w' := by
  have q0 : ∀ W, (Instr.typeAssert (.iface 223 (.pointer (some ⟨r, 0, none⟩))) 83 84 true).run Tryz.prog W = .ok (.tuple #[.pointer none, .bool false]) W := run_assert_other _ _ _ _ _ _ Tryz.underlying84 (by decide) (by kernel_rfl)
  have q1 : ∀ W, (Instr.typeAssert (.iface 223 (.pointer (some ⟨r, 0, none⟩))) 83 89 true).run Tryz.prog W = .ok (.tuple #[.pointer none, .bool false]) W := run_assert_other _ _ _ _ _ _ Tryz.underlying89 (by decide) (by kernel_rfl)
  have q2 : ∀ W, (Instr.typeAssert (.iface 223 (.pointer (some ⟨r, 0, none⟩))) 83 90 true).run Tryz.prog W = .ok (.tuple #[.pointer none, .bool false]) W := run_assert_other _ _ _ _ _ _ Tryz.underlying90 (by decide) (by kernel_rfl)
  have q3 : ∀ W, (Instr.typeAssert (.iface 223 (.pointer (some ⟨r, 0, none⟩))) 83 99 true).run Tryz.prog W = .ok (.tuple #[.pointer none, .bool false]) W := run_assert_other _ _ _ _ _ _ Tryz.underlying99 (by decide) (by kernel_rfl)
  have q4 : ∀ W, (Instr.typeAssert (.iface 223 (.pointer (some ⟨r, 0, none⟩))) 83 112 true).run Tryz.prog W = .ok (.tuple #[.pointer none, .bool false]) W := run_assert_other _ _ _ _ _ _ Tryz.underlying112 (by decide) (by kernel_rfl)
  have q5 : ∀ W, (Instr.typeAssert (.iface 223 (.pointer (some ⟨r, 0, none⟩))) 83 115 true).run Tryz.prog W = .ok (.tuple #[.pointer none, .bool false]) W := run_assert_other _ _ _ _ _ _ Tryz.underlying115 (by decide) (by kernel_rfl)
  have q6 : ∀ W, (Instr.typeAssert (.iface 223 (.pointer (some ⟨r, 0, none⟩))) 83 118 true).run Tryz.prog W = .ok (.tuple #[.pointer none, .bool false]) W := run_assert_other _ _ _ _ _ _ Tryz.underlying118 (by decide) (by kernel_rfl)
  have q7 : ∀ W, (Instr.typeAssert (.iface 223 (.pointer (some ⟨r, 0, none⟩))) 83 123 true).run Tryz.prog W = .ok (.tuple #[.pointer none, .bool false]) W := run_assert_other _ _ _ _ _ _ Tryz.underlying123 (by decide) (by kernel_rfl)
  have q8 : ∀ W, (Instr.typeAssert (.iface 223 (.pointer (some ⟨r, 0, none⟩))) 83 126 true).run Tryz.prog W = .ok (.tuple #[.pointer none, .bool false]) W := run_assert_other _ _ _ _ _ _ Tryz.underlying126 (by decide) (by kernel_rfl)
  have q9 : ∀ W, (Instr.typeAssert (.iface 223 (.pointer (some ⟨r, 0, none⟩))) 83 129 true).run Tryz.prog W = .ok (.tuple #[.pointer none, .bool false]) W := run_assert_other _ _ _ _ _ _ Tryz.underlying129 (by decide) (by kernel_rfl)
  have q10 : ∀ W, (Instr.typeAssert (.iface 223 (.pointer (some ⟨r, 0, none⟩))) 83 138 true).run Tryz.prog W = .ok (.tuple #[.pointer none, .bool false]) W := run_assert_other _ _ _ _ _ _ Tryz.underlying138 (by decide) (by kernel_rfl)
  have q11 : ∀ W, (Instr.typeAssert (.iface 223 (.pointer (some ⟨r, 0, none⟩))) 83 143 true).run Tryz.prog W = .ok (.tuple #[.pointer none, .bool false]) W := run_assert_other _ _ _ _ _ _ Tryz.underlying143 (by decide) (by kernel_rfl)
  have q12 : ∀ W, (Instr.typeAssert (.iface 223 (.pointer (some ⟨r, 0, none⟩))) 83 147 true).run Tryz.prog W = .ok (.tuple #[.pointer none, .bool false]) W := run_assert_other _ _ _ _ _ _ Tryz.underlying147 (by decide) (by kernel_rfl)
  have q13 : ∀ W, (Instr.typeAssert (.iface 223 (.pointer (some ⟨r, 0, none⟩))) 83 151 true).run Tryz.prog W = .ok (.tuple #[.pointer none, .bool false]) W := run_assert_other _ _ _ _ _ _ Tryz.underlying151 (by decide) (by kernel_rfl)
  have q14 : ∀ W, (Instr.typeAssert (.iface 223 (.pointer (some ⟨r, 0, none⟩))) 83 155 true).run Tryz.prog W = .ok (.tuple #[.pointer none, .bool false]) W := run_assert_other _ _ _ _ _ _ Tryz.underlying155 (by decide) (by kernel_rfl)
  have q15 : ∀ W, (Instr.typeAssert (.iface 223 (.pointer (some ⟨r, 0, none⟩))) 83 135 true).run Tryz.prog W = .ok (.tuple #[.pointer none, .bool false]) W := run_assert_other _ _ _ _ _ _ Tryz.underlying135 (by decide) (by kernel_rfl)
  have q16 : ∀ W, (Instr.typeAssert (.iface 223 (.pointer (some ⟨r, 0, none⟩))) 83 160 true).run Tryz.prog W = .ok (.tuple #[.pointer none, .bool false]) W := run_assert_other _ _ _ _ _ _ Tryz.underlying160 (by decide) (by kernel_rfl)
  have q17 : ∀ W, (Instr.typeAssert (.iface 223 (.pointer (some ⟨r, 0, none⟩))) 83 163 true).run Tryz.prog W = .ok (.tuple #[.pointer none, .bool false]) W := run_assert_other _ _ _ _ _ _ Tryz.underlying163 (by decide) (by kernel_rfl)
  have q18 : ∀ W, (Instr.typeAssert (.iface 223 (.pointer (some ⟨r, 0, none⟩))) 83 167 true).run Tryz.prog W = .ok (.tuple #[.pointer none, .bool false]) W := run_assert_other _ _ _ _ _ _ Tryz.underlying167 (by decide) (by kernel_rfl)
  have q19 : ∀ W, (Instr.typeAssert (.iface 223 (.pointer (some ⟨r, 0, none⟩))) 83 173 true).run Tryz.prog W = .ok (.tuple #[.pointer none, .bool false]) W := run_assert_other _ _ _ _ _ _ Tryz.underlying173 (by decide) (by kernel_rfl)
  have q20 : ∀ W, (Instr.typeAssert (.iface 223 (.pointer (some ⟨r, 0, none⟩))) 83 178 true).run Tryz.prog W = .ok (.tuple #[.pointer none, .bool false]) W := run_assert_other _ _ _ _ _ _ Tryz.underlying178 (by decide) (by kernel_rfl)
  have q21 : ∀ W, (Instr.typeAssert (.iface 223 (.pointer (some ⟨r, 0, none⟩))) 83 181 true).run Tryz.prog W = .ok (.tuple #[.pointer none, .bool false]) W := run_assert_other _ _ _ _ _ _ Tryz.underlying181 (by decide) (by kernel_rfl)
  have q22 : ∀ W, (Instr.typeAssert (.iface 223 (.pointer (some ⟨r, 0, none⟩))) 83 185 true).run Tryz.prog W = .ok (.tuple #[.pointer none, .bool false]) W := run_assert_other _ _ _ _ _ _ Tryz.underlying185 (by decide) (by kernel_rfl)
  have q23 : ∀ W, (Instr.typeAssert (.iface 223 (.pointer (some ⟨r, 0, none⟩))) 83 188 true).run Tryz.prog W = .ok (.tuple #[.pointer none, .bool false]) W := run_assert_other _ _ _ _ _ _ Tryz.underlying188 (by decide) (by kernel_rfl)
  have q24 : ∀ W, (Instr.typeAssert (.iface 223 (.pointer (some ⟨r, 0, none⟩))) 83 191 true).run Tryz.prog W = .ok (.tuple #[.pointer none, .bool false]) W := run_assert_other _ _ _ _ _ _ Tryz.underlying191 (by decide) (by kernel_rfl)
  have q25 : ∀ W, (Instr.typeAssert (.iface 223 (.pointer (some ⟨r, 0, none⟩))) 83 194 true).run Tryz.prog W = .ok (.tuple #[.pointer none, .bool false]) W := run_assert_other _ _ _ _ _ _ Tryz.underlying194 (by decide) (by kernel_rfl)
  have q26 : ∀ W, (Instr.typeAssert (.iface 223 (.pointer (some ⟨r, 0, none⟩))) 83 201 true).run Tryz.prog W = .ok (.tuple #[.pointer none, .bool false]) W := run_assert_other _ _ _ _ _ _ Tryz.underlying201 (by decide) (by kernel_rfl)
  have q27 : ∀ W, (Instr.typeAssert (.iface 223 (.pointer (some ⟨r, 0, none⟩))) 83 169 true).run Tryz.prog W = .ok (.tuple #[.pointer none, .bool false]) W := run_assert_other _ _ _ _ _ _ Tryz.underlying169 (by decide) (by kernel_rfl)
  have q28 : ∀ W, (Instr.typeAssert (.iface 223 (.pointer (some ⟨r, 0, none⟩))) 83 206 true).run Tryz.prog W = .ok (.tuple #[.pointer none, .bool false]) W := run_assert_other _ _ _ _ _ _ Tryz.underlying206 (by decide) (by kernel_rfl)
  have q29 : ∀ W, (Instr.typeAssert (.iface 223 (.pointer (some ⟨r, 0, none⟩))) 83 213 true).run Tryz.prog W = .ok (.tuple #[.pointer none, .bool false]) W := run_assert_other _ _ _ _ _ _ Tryz.underlying213 (by decide) (by kernel_rfl)
  have q30 : ∀ W, (Instr.typeAssert (.iface 223 (.pointer (some ⟨r, 0, none⟩))) 83 215 true).run Tryz.prog W = .ok (.tuple #[.pointer none, .bool false]) W := run_assert_other _ _ _ _ _ _ Tryz.underlying215 (by decide) (by kernel_rfl)
  have q31 : ∀ W, (Instr.typeAssert (.iface 223 (.pointer (some ⟨r, 0, none⟩))) 83 60 true).run Tryz.prog W = .ok (.tuple #[.pointer none, .bool false]) W := run_assert_other _ _ _ _ _ _ Tryz.underlying60 (by decide) (by kernel_rfl)
  have q32 : ∀ W, (Instr.typeAssert (.iface 223 (.pointer (some ⟨r, 0, none⟩))) 83 106 true).run Tryz.prog W = .ok (.tuple #[.pointer none, .bool false]) W := run_assert_other _ _ _ _ _ _ Tryz.underlying106 (by decide) (by kernel_rfl)
  have q33 : ∀ W, (Instr.typeAssert (.iface 223 (.pointer (some ⟨r, 0, none⟩))) 83 217 true).run Tryz.prog W = .ok (.tuple #[.pointer none, .bool false]) W := run_assert_other _ _ _ _ _ _ Tryz.underlying217 (by decide) (by kernel_rfl)
  have q34 : ∀ W, (Instr.typeAssert (.iface 223 (.pointer (some ⟨r, 0, none⟩))) 83 220 true).run Tryz.prog W = .ok (.tuple #[.pointer none, .bool false]) W := run_assert_other _ _ _ _ _ _ Tryz.underlying220 (by decide) (by kernel_rfl)
  have q35 : ∀ W, (Instr.typeAssert (.iface 223 (.pointer (some ⟨r, 0, none⟩))) 83 223 true).run Tryz.prog W = .ok (.tuple #[.pointer (some ⟨r, 0, none⟩), .bool true]) W := run_assert_same _ _ _ _ Tryz.underlying223
  have c3 : w.cell? ⟨r, 3, none⟩ = some (.int .u64 u) := by rw [Lib.cell_of_heap h]; rfl
  have hr : r < w.heap.size := (Array.getElem?_eq_some_iff.1 h).1
  clear h
  go_enter Tryz.func19, Tryz.ntmps19
  go_wp2
  refine bodyPost_ret (v := .agg #[.int .i64 37, .string ⟨#[]⟩, .string ⟨#[]⟩, .int .u64 u, .slice none 0 0]) (by simp [results, Tryz.results19, go_sem]) rfl ⟨rfl, (Below.refl _ w).alloc (Nat.le_refl _) _⟩


set_option maxHeartbeats 8000000 in
set_option maxRecDepth 100000 in
theorem nodeFloatLiteral (r : Nat) (u : Nat) (w : World) (h : w.heap[r]? = some (.cells #[.pointer none, .slice none 0 0, .slice none 0 0, .float .f64 u] 230 (0, 0))) :
    Calls Tryz.prog 19 #[.iface 226 (.pointer (some ⟨r, 0, none⟩))] w fun e w' => e = .returned (.agg #[.int .i64 38, .string ⟨#[]⟩, .string ⟨#[]⟩, .int .u64 u, .slice none 0 0]) ∧ Below w.heap.size w w' := by
  have q0 : ∀ W, (Instr.typeAssert (.iface 226 (.pointer (some ⟨r, 0, none⟩))) 83 84 true).run Tryz.prog W = .ok (.tuple #[.pointer none, .bool false]) W := run_assert_other _ _ _ _ _ _ Tryz.underlying84 (by decide) (by kernel_rfl)
  have q1 : ∀ W, (Instr.typeAssert (.iface 226 (.pointer (some ⟨r, 0, none⟩))) 83 89 true).run Tryz.prog W = .ok (.tuple #[.pointer none, .bool false]) W := run_assert_other _ _ _ _ _ _ Tryz.underlying89 (by decide) (by kernel_rfl)
  have q2 : ∀ W, (Instr.typeAssert (.iface 226 (.pointer (some ⟨r, 0, none⟩))) 83 90 true).run Tryz.prog W = .ok (.tuple #[.pointer none, .bool false]) W := run_assert_other _ _ _ _ _ _ Tryz.underlying90 (by decide) (by kernel_rfl)
  have q3 : ∀ W, (Instr.typeAssert (.iface 226 (.pointer (some ⟨r, 0, none⟩))) 83 99 true).run Tryz.prog W = .ok (.tuple #[.pointer none, .bool false]) W := run_assert_other _ _ _ _ _ _ Tryz.underlying99 (by decide) (by kernel_rfl)
  have q4 : ∀ W, (Instr.typeAssert (.iface 226 (.pointer (some ⟨r, 0, none⟩))) 83 112 true).run Tryz.prog W = .ok (.tuple #[.pointer none, .bool false]) W := run_assert_other _ _ _ _ _ _ Tryz.underlying112 (by decide) (by kernel_rfl)
  have q5 : ∀ W, (Instr.typeAssert (.iface 226 (.pointer (some ⟨r, 0, none⟩))) 83 115 true).run Tryz.prog W = .ok (.tuple #[.pointer none, .bool false]) W := run_assert_other _ _ _ _ _ _ Tryz.underlying115 (by decide) (by kernel_rfl)
  have q6 : ∀ W, (Instr.typeAssert (.iface 226 (.pointer (some ⟨r, 0, none⟩))) 83 118 true).run Tryz.prog W = .ok (.tuple #[.pointer none, .bool false]) W := run_assert_other _ _ _ _ _ _ Tryz.underlying118 (by decide) (by kernel_rfl)
  have q7 : ∀ W, (Instr.typeAssert (.iface 226 (.pointer (some ⟨r, 0, none⟩))) 83 123 true).run Tryz.prog W = .ok (.tuple #[.pointer none, .bool false]) W := run_assert_other _ _ _ _ _ _ Tryz.underlying123 (by decide) (by kernel_rfl)
  have q8 : ∀ W, (Instr.typeAssert (.iface 226 (.pointer (some ⟨r, 0, none⟩))) 83 126 true).run Tryz.prog W = .ok (.tuple #[.pointer none, .bool false]) W := run_assert_other _ _ _ _ _ _ Tryz.underlying126 (by decide) (by kernel_rfl)
  have q9 : ∀ W, (Instr.typeAssert (.iface 226 (.pointer (some ⟨r, 0, none⟩))) 83 129 true).run Tryz.prog W = .ok (.tuple #[.pointer none, .bool false]) W := run_assert_other _ _ _ _ _ _ Tryz.underlying129 (by decide) (by kernel_rfl)
  have q10 : ∀ W, (Instr.typeAssert (.iface 226 (.pointer (some ⟨r, 0, none⟩))) 83 138 true).run Tryz.prog W = .ok (.tuple #[.pointer none, .bool false]) W := run_assert_other _ _ _ _ _ _ Tryz.underlying138 (by decide) (by kernel_rfl)
  have q11 : ∀ W, (Instr.typeAssert (.iface 226 (.pointer (some ⟨r, 0, none⟩))) 83 143 true).run Tryz.prog W = .ok (.tuple #[.pointer none, .bool false]) W := run_assert_other _ _ _ _ _ _ Tryz.underlying143 (by decide) (by kernel_rfl)
  have q12 : ∀ W, (Instr.typeAssert (.iface 226 (.pointer (some ⟨r, 0, none⟩))) 83 147 true).run Tryz.prog W = .ok (.tuple #[.pointer none, .bool false]) W := run_assert_other _ _ _ _ _ _ Tryz.underlying147 (by decide) (by kernel_rfl)
  have q13 : ∀ W, (Instr.typeAssert (.iface 226 (.pointer (some ⟨r, 0, none⟩))) 83 151 true).run Tryz.prog W = .ok (.tuple #[.pointer none, .bool false]) W := run_assert_other _ _ _ _ _ _ Tryz.underlying151 (by decide) (by kernel_rfl)
  have q14 : ∀ W, (Instr.typeAssert (.iface 226 (.pointer (some ⟨r, 0, none⟩))) 83 155 true).run Tryz.prog W = .ok (.tuple #[.pointer none, .bool false]) W := run_assert_other _ _ _ _ _ _ Tryz.underlying155 (by decide) (by kernel_rfl)
  have q15 : ∀ W, (Instr.typeAssert (.iface 226 (.pointer (some ⟨r, 0, none⟩))) 83 135 true).run Tryz.prog W = .ok (.tuple #[.pointer none, .bool false]) W := run_assert_other _ _ _ _ _ _ Tryz.underlying135 (by decide) (by kernel_rfl)
  have q16 : ∀ W, (Instr.typeAssert (.iface 226 (.pointer (some ⟨r, 0, none⟩))) 83 160 true).run Tryz.prog W = .ok (.tuple #[.pointer none, .bool false]) W := run_assert_other _ _ _ _ _ _ Tryz.underlying160 (by decide) (by kernel_rfl)
  have q17 : ∀ W, (Instr.typeAssert (.iface 226 (.pointer (some ⟨r, 0, none⟩))) 83 163 true).run Tryz.prog W = .ok (.tuple #[.pointer none, .bool false]) W := run_assert_other _ _ _ _ _ _ Tryz.underlying163 (by decide) (by kernel_rfl)
  have q18 : ∀ W, (Instr.typeAssert (.iface 226 (.pointer (some ⟨r, 0, none⟩))) 83 167 true).run Tryz.prog W = .ok (.tuple #[.pointer none, .bool false]) W := run_assert_other _ _ _ _ _ _ Tryz.underlying167 (by decide) (by kernel_rfl)
  have q19 : ∀ W, (Instr.typeAssert (.iface 226 (.pointer (some ⟨r, 0, none⟩))) 83 173 true).run Tryz.prog W = .ok (.tuple #[.pointer none, .bool false]) W := run_assert_other _ _ _ _ _ _ Tryz.underlying173 (by decide) (by kernel_rfl)
  have q20 : ∀ W, (Instr.typeAssert (.iface 226 (.pointer (some ⟨r, 0, none⟩))) 83 178 true).run Tryz.prog W = .ok (.tuple #[.pointer none, .bool false]) W := run_assert_other _ _ _ _ _ _ Tryz.underlying178 (by decide) (by kernel_rfl)
  have q21 : ∀ W, (Instr.typeAssert (.iface 226 (.pointer (some ⟨r, 0, none⟩))) 83 181 true).run Tryz.prog W = .ok (.tuple #[.pointer none, .bool false]) W := run_assert_other _ _ _ _ _ _ Tryz.underlying181 (by decide) (by kernel_rfl)
  have q22 : ∀ W, (Instr.typeAssert (.iface 226 (.pointer (some ⟨r, 0, none⟩))) 83 185 true).run Tryz.prog W = .ok (.tuple #[.pointer none, .bool false]) W := run_assert_other _ _ _ _ _ _ Tryz.underlying185 (by decide) (by kernel_rfl)
  have q23 : ∀ W, (Instr.typeAssert (.iface 226 (.pointer (some ⟨r, 0, none⟩))) 83 188 true).run Tryz.prog W = .ok (.tuple #[.pointer none, .bool false]) W := run_assert_other _ _ _ _ _ _ Tryz.underlying188 (by decide) (by kernel_rfl)
  have q24 : ∀ W, (Instr.typeAssert (.iface 226 (.pointer (some ⟨r, 0, none⟩))) 83 191 true).run Tryz.prog W = .ok (.tuple #[.pointer none, .bool false]) W := run_assert_other _ _ _ _ _ _ Tryz.underlying191 (by decide) (by kernel_rfl)
  have q25 : ∀ W, (Instr.typeAssert (.iface 226 (.pointer (some ⟨r, 0, none⟩))) 83 194 true).run Tryz.prog W = .ok (.tuple #[.pointer none, .bool false]) W := run_assert_other _ _ _ _ _ _ Tryz.underlying194 (by decide) (by kernel_rfl)
  have q26 : ∀ W, (Instr.typeAssert (.iface 226 (.pointer (some ⟨r, 0, none⟩))) 83 201 true).run Tryz.prog W = .ok (.tuple #[.pointer none, .bool false]) W := run_assert_other _ _ _ _ _ _ Tryz.underlying201 (by decide) (by kernel_rfl)
  have q27 : ∀ W, (Instr.typeAssert (.iface 226 (.pointer (some ⟨r, 0, none⟩))) 83 169 true).run Tryz.prog W = .ok (.tuple #[.pointer none, .bool false]) W := run_assert_other _ _ _ _ _ _ Tryz.underlying169 (by decide) (by kernel_rfl)
  have q28 : ∀ W, (Instr.typeAssert (.iface 226 (.pointer (some ⟨r, 0, none⟩))) 83 206 true).run Tryz.prog W = .ok (.tuple #[.pointer none, .bool false]) W := run_assert_other _ _ _ _ _ _ Tryz.underlying206 (by decide) (by kernel_rfl)
  have q29 : ∀ W, (Instr.typeAssert (.iface 226 (.pointer (some ⟨r, 0, none⟩))) 83 213 true).run Tryz.prog W = .ok (.tuple #[.pointer none, .bool false]) W := run_assert_other _ _ _ _ _ _ Tryz.underlying213 (by decide) (by kernel_rfl)
  have q30 : ∀ W, (Instr.typeAssert (.iface 226 (.pointer (some ⟨r, 0, none⟩))) 83 215 true).run Tryz.prog W = .ok (.tuple #[.pointer none, .bool false]) W := run_assert_other _ _ _ _ _ _ Tryz.underlying215 (by decide) (by kernel_rfl)
  have q31 : ∀ W, (Instr.typeAssert (.iface 226 (.pointer (some ⟨r, 0, none⟩))) 83 60 true).run Tryz.prog W = .ok (.tuple #[.pointer none, .bool false]) W := run_assert_other _ _ _ _ _ _ Tryz.underlying60 (by decide) (by kernel_rfl)
  have q32 : ∀ W, (Instr.typeAssert (.iface 226 (.pointer (some ⟨r, 0, none⟩))) 83 106 true).run Tryz.prog W = .ok (.tuple #[.pointer none, .bool false]) W := run_assert_other _ _ _ _ _ _ Tryz.underlying106 (by decide) (by kernel_rfl)
  have q33 : ∀ W, (Instr.typeAssert (.iface 226 (.pointer (some ⟨r, 0, none⟩))) 83 217 true).run Tryz.prog W = .ok (.tuple #[.pointer none, .bool false]) W := run_assert_other _ _ _ _ _ _ Tryz.underlying217 (by decide) (by kernel_rfl)
  have q34 : ∀ W, (Instr.typeAssert (.iface 226 (.pointer (some ⟨r, 0, none⟩))) 83 220 true).run Tryz.prog W = .ok (.tuple #[.pointer none, .bool false]) W := run_assert_other _ _ _ _ _ _ Tryz.underlying220 (by decide) (by kernel_rfl)
  have q35 : ∀ W, (Instr.typeAssert (.iface 226 (.pointer (some ⟨r, 0, none⟩))) 83 223 true).run Tryz.prog W = .ok (.tuple #[.pointer none, .bool false]) W := run_assert_other _ _ _ _ _ _ Tryz.underlying223 (by decide) (by kernel_rfl)
  have q36 : ∀ W, (Instr.typeAssert (.iface 226 (.pointer (some ⟨r, 0, none⟩))) 83 226 true).run Tryz.prog W = .ok (.tuple #[.pointer (some ⟨r, 0, none⟩), .bool true]) W := run_assert_same _ _ _ _ Tryz.underlying226
  have c3 : w.cell? ⟨r, 3, none⟩ = some (.float .f64 u) := by rw [Lib.cell_of_heap h]; rfl
  have hr : r < w.heap.size := (Array.getElem?_eq_some_iff.1 h).1
  have hx : ∀ W, (callFunc 51 #[.float .f64 u]).run Tryz.prog W = .ok (.value (.int .u64 (u : Int))) W := fun W =>
    run_callFunc_extern (e := Extern.MathFloatBits.float64bits) Tryz.func51 (by kernel_rfl) (by kernel_rfl) (by kernel_rfl) (by kernel_rfl) _ W
  clear h
  go_enter Tryz.func19, Tryz.ntmps19
  go_wp2
  refine bodyPost_ret (v := .agg #[.int .i64 38, .string ⟨#[]⟩, .string ⟨#[]⟩, .int .u64 u, .slice none 0 0]) (by simp [results, Tryz.results19, go_sem]) rfl ⟨rfl, (Below.refl _ w).alloc (Nat.le_refl _) _⟩


end Go.Proofs.YtgceklahjdbipaaGreatDoor
