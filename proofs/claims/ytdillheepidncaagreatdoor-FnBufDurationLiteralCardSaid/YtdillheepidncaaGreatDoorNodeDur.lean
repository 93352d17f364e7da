/- impl.node over durations. -/
import Derived.Test.YtdillheepidncaaGreatDoorNodeLeaf
import Derived.Test.YtdillheepidncaaGreatDoorMagRow
import Derived.Test.YtdillheepidncaaGreatDoorFields
import Derived.Deep.AppendLies
import Derived.Test.YtdillheepidncaaGreatDoorMakerAll
namespace Go.Proofs.YtdillheepidncaaGreatDoor
open Go Go.RowKit
set_option linter.unusedVariables false
set_option linter.unusedSimpArgs false

def MagsPost (l : List (Int × ByteArray)) (w : World) (e : Ending) (w' : World) : Prop :=
  ∃ v, e = .returned v ∧ w'.ownsRow w.heap.size 25 5 v l.length ((l.map wrapM).flatMap magCells) ∧ Below w.heap.size w w'

set_option maxHeartbeats 4000000 in
set_option maxRecDepth 100000 in
theorem magnitudes_any (v : Value) (base : Nat) (l : List (Int × ByteArray)) (hlen : l.length ≤ 1000) (w : World) (hown : w.ownsRow base 267 2 v l.length (l.flatMap durCells)) :
    Calls Tryz.prog 48 #[v] w (MagsPost l w) := by
  obtain ⟨i0, hi, hz0, hz1, hz2⟩ := info_parts node_info
  have hform : ∃ a c, v = .slice a l.length c ∧ (0 < l.length → ∃ g, a = some ⟨g, 0, none⟩ ∧ g < w.heap.size ∧ DurRow w g 0 l) := by
    rcases hown.2 with ⟨rfl, h0⟩ | ⟨g, cap, cur, rfl, _⟩
    · exact ⟨none, 0, by rw [h0], fun h => by omega⟩
    · refine ⟨_, _, rfl, fun _ => ⟨g, rfl, (hown.lt g rfl).2, fun i hi => ?_⟩⟩
      have h0 := hown.cells (g := g) rfl (i * 2 + 0) (.int .i64 l[i].1) (by rw [rows_at 2 durCells durCells_length l i 0 hi (by omega)]; rfl)
      have h1 := hown.cells (g := g) rfl (i * 2 + 1) (.string l[i].2) (by rw [rows_at 2 durCells durCells_length l i 1 hi (by omega)]; rfl)
      rw [add_at] at h0 h1
      refine ⟨?_, ?_⟩
      · rw [Nat.zero_add] at h0 ⊢
        simpa using h0
      · rw [Nat.zero_add] at h1 ⊢
        simpa [Nat.add_assoc] using h1
  obtain ⟨a, c, rfl, hrow⟩ := hform
  have HR := Lib.hid hrow
  have HV0 : Hid (w.ownsRow w.heap.size 25 5 (.slice none 0 0) 0 (((l.take 0).map wrapM).flatMap magCells) ∧ Below w.heap.size w w) := Lib.hid ⟨World.ownsRow_nil _ _ _ _, Below.refl _ _⟩
  clear hown hrow
  go_enter Tryz.func48, Tryz.ntmps48
  go_wp2
  go_loopw [3, 8] (fun vv i wr => ∃ j : Nat, j ≤ l.length ∧ i = .int .i64 j ∧ Hid (wr.ownsRow w.heap.size 25 5 vv j (((l.take j).map wrapM).flatMap magCells) ∧ Below w.heap.size w wr)) (fun _ i _ => l.length - (intOf i).toNat)
  case atStart => exact ⟨0, Nat.zero_le _, rfl, HV0⟩
  case round =>
    obtain ⟨j, hj, rfl, HVL⟩ := hrel
    obtain ⟨hown, hb⟩ := HVL.out
    obtain ⟨a2, c2, rfl⟩ := slice_form hown
    by_cases hlt : j < l.length
    · obtain ⟨g, rfl, hg, hdr⟩ := HR.out (by omega)
      obtain ⟨r0, r1⟩ := hdr j hlt
      have d0 := (hb.cell (p := ⟨g, 0 + j * 2, none⟩) hg).trans r0
      have d1 := (hb.cell (p := ⟨g, 0 + j * 2 + 1, none⟩) hg).trans r1
      rw [Nat.zero_add] at d0 d1
      have HTK : Hid (((l.take (j + 1)).map wrapM).flatMap magCells = ((l.take j).map wrapM).flatMap magCells ++ magCells (wrapM l[j])) := Lib.hid (by
        rw [List.take_succ_eq_append_getElem hlt, List.map_append, List.flatMap_append, List.map_singleton, List.flatMap_singleton])
      generalize l[j] = q at *
      obtain ⟨n, u⟩ := q
      simp only at d0 d1
      have HW : Hid (wrapM (n, u) = (IntKind.u64.wrap n, u)) := Lib.hid rfl
      rw [HW.out] at HTK
      obtain ⟨un, hun⟩ : ∃ un, IntKind.u64.wrap n = un := ⟨_, rfl⟩
      have hu0 : 0 ≤ un ∧ un ≤ 18446744073709551615 := by rw [← hun, IntKind.wrap_u64]; omega
      rw [hun] at HTK
      have hmx : j + 1 ≤ maxLen := by unfold maxLen; omega
      have hbl : (j + 1) * 72 ≤ 140737488355328 := by omega
      have HO := Lib.hid hown
      have HB := Lib.hid hb
      clear hown hb hdr r0 r1 HW
      go_wp2_with (at_builtin; refine wpList_append_own _ rfl _ _ 23 rfl w.heap.size 25 i0 _ 5 72 Tryz.underlying23 hi hz0 hz1 hz2 rfl (by decide) _ _ _ rfl ((HO.out.alloc (.cells #[.int .i64 n, .string u] 267)).alloc _) _ 1 1 [.int .i64 40, .string u, .string ⟨#[]⟩, .int .u64 un, .slice none 0 0] rfl rfl ?c1 ?c2 hmx hbl ?c3 ?_)
      case c1 => exact World.news_of_block (cs := #[.int .i64 40, .string u, .string ⟨#[]⟩, .int .u64 un, .slice none 0 0]) (t := 25) (fr := (0, 0)) (by
        have h := heap_alloc_new (wr.alloc (.cells #[.int .i64 n, .string u] 267)) (.cells #[.int .i64 40, .string u, .string ⟨#[]⟩, .int .u64 un, .slice none 0 0] 25)
        rwa [show (wr.alloc (.cells #[.int .i64 n, .string u] 267)).heap.size = wr.heap.size + 1 by simp] at h)
      case c2 => exact magCells_one (un, u)
      case c3 =>
        have := HB.out.size
        simp
        omega
      intro v' w5 hown' hgrow _
      obtain ⟨a', c', rfl⟩ := slice_form hown'
      have hb5 : Below w.heap.size w w5 := ((HB.out.alloc HB.out.size (.cells #[.int .i64 n, .string u] 267)).alloc (by have := HB.out.size; simp; omega) (.cells #[.int .i64 40, .string u, .string ⟨#[]⟩, .int .u64 un, .slice none 0 0] 25)).grown hgrow (by have := HB.out.size; simp; omega) (fun k e => (HO.out.lt k e).1)
      have HN : Hid (w5.ownsRow w.heap.size 25 5 (.slice a' (j + 1) c') (j + 1) (((l.take (j + 1)).map wrapM).flatMap magCells) ∧ Below w.heap.size w w5) := Lib.hid ⟨by rw [HTK.out, List.map_take]; exact hown', hb5⟩
      clear hown' hgrow hb5
      go_wp2
      go_roundw
      case rel => exact ⟨j + 1, by omega, by go_num, HN⟩
      case measure => simp [intOf]; omega
    · have hfull : j = l.length := by omega
      subst hfull
      rw [List.take_length] at hown
      have HO := Lib.hid hown
      have HB := Lib.hid hb
      clear hown hb
      go_wp2
      go_ret
      exact ⟨_, rfl, HO.out, HB.out⟩


/-- A duration, as a plain node. -/
def SpanPost (l : List (Int × ByteArray)) (w : World) (e : Ending) (w' : World) : Prop :=
  ∃ a c, e = .returned (nodeU 39 ⟨#[]⟩ ⟨#[]⟩ 0 a l.length c) ∧ NodeIn w' (fun k => w.heap.size ≤ k ∧ k < w'.heap.size) (spanT (l.map wrapM)) (nodeU 39 ⟨#[]⟩ ⟨#[]⟩ 0 a l.length c) ∧ Below w.heap.size w w'

set_option maxHeartbeats 8000000 in
set_option maxRecDepth 100000 in
theorem nodeDuration (r base : Nat) (v : Value) (l : List (Int × ByteArray)) (hlen : l.length ≤ 1000) (hl : ∀ x ∈ l, x.2.size ≤ maxLen) (w : World) (h : w.heap[r]? = some (.cells #[.pointer none, .slice none 0 0, .slice none 0 0, v] 68 (0, 0)))
    (hown : w.ownsRow base 267 2 v l.length (l.flatMap durCells)) :
    Calls Tryz.prog 17 #[.iface 65 (.pointer (some ⟨r, 0, none⟩))] w (SpanPost l w) := by
  have q0 : ∀ W, (Instr.typeAssert (.iface 65 (.pointer (some ⟨r, 0, none⟩))) 75 76 true).run Tryz.prog W = .ok (.tuple #[.pointer none, .bool false]) W := run_assert_other _ _ _ _ _ _ Tryz.underlying76 (by decide) (by kernel_rfl)
  have q1 : ∀ W, (Instr.typeAssert (.iface 65 (.pointer (some ⟨r, 0, none⟩))) 75 81 true).run Tryz.prog W = .ok (.tuple #[.pointer none, .bool false]) W := run_assert_other _ _ _ _ _ _ Tryz.underlying81 (by decide) (by kernel_rfl)
  have q2 : ∀ W, (Instr.typeAssert (.iface 65 (.pointer (some ⟨r, 0, none⟩))) 75 82 true).run Tryz.prog W = .ok (.tuple #[.pointer none, .bool false]) W := run_assert_other _ _ _ _ _ _ Tryz.underlying82 (by decide) (by kernel_rfl)
  have q3 : ∀ W, (Instr.typeAssert (.iface 65 (.pointer (some ⟨r, 0, none⟩))) 75 58 true).run Tryz.prog W = .ok (.tuple #[.pointer none, .bool false]) W := run_assert_other _ _ _ _ _ _ Tryz.underlying58 (by decide) (by kernel_rfl)
  have q4 : ∀ W, (Instr.typeAssert (.iface 65 (.pointer (some ⟨r, 0, none⟩))) 75 100 true).run Tryz.prog W = .ok (.tuple #[.pointer none, .bool false]) W := run_assert_other _ _ _ _ _ _ Tryz.underlying100 (by decide) (by kernel_rfl)
  have q5 : ∀ W, (Instr.typeAssert (.iface 65 (.pointer (some ⟨r, 0, none⟩))) 75 103 true).run Tryz.prog W = .ok (.tuple #[.pointer none, .bool false]) W := run_assert_other _ _ _ _ _ _ Tryz.underlying103 (by decide) (by kernel_rfl)
  have q6 : ∀ W, (Instr.typeAssert (.iface 65 (.pointer (some ⟨r, 0, none⟩))) 75 106 true).run Tryz.prog W = .ok (.tuple #[.pointer none, .bool false]) W := run_assert_other _ _ _ _ _ _ Tryz.underlying106 (by decide) (by kernel_rfl)
  have q7 : ∀ W, (Instr.typeAssert (.iface 65 (.pointer (some ⟨r, 0, none⟩))) 75 111 true).run Tryz.prog W = .ok (.tuple #[.pointer none, .bool false]) W := run_assert_other _ _ _ _ _ _ Tryz.underlying111 (by decide) (by kernel_rfl)
  have q8 : ∀ W, (Instr.typeAssert (.iface 65 (.pointer (some ⟨r, 0, none⟩))) 75 114 true).run Tryz.prog W = .ok (.tuple #[.pointer none, .bool false]) W := run_assert_other _ _ _ _ _ _ Tryz.underlying114 (by decide) (by kernel_rfl)
  have q9 : ∀ W, (Instr.typeAssert (.iface 65 (.pointer (some ⟨r, 0, none⟩))) 75 117 true).run Tryz.prog W = .ok (.tuple #[.pointer none, .bool false]) W := run_assert_other _ _ _ _ _ _ Tryz.underlying117 (by decide) (by kernel_rfl)
  have q10 : ∀ W, (Instr.typeAssert (.iface 65 (.pointer (some ⟨r, 0, none⟩))) 75 126 true).run Tryz.prog W = .ok (.tuple #[.pointer none, .bool false]) W := run_assert_other _ _ _ _ _ _ Tryz.underlying126 (by decide) (by kernel_rfl)
  have q11 : ∀ W, (Instr.typeAssert (.iface 65 (.pointer (some ⟨r, 0, none⟩))) 75 131 true).run Tryz.prog W = .ok (.tuple #[.pointer none, .bool false]) W := run_assert_other _ _ _ _ _ _ Tryz.underlying131 (by decide) (by kernel_rfl)
  have q12 : ∀ W, (Instr.typeAssert (.iface 65 (.pointer (some ⟨r, 0, none⟩))) 75 141 true).run Tryz.prog W = .ok (.tuple #[.pointer none, .bool false]) W := run_assert_other _ _ _ _ _ _ Tryz.underlying141 (by decide) (by kernel_rfl)
  have q13 : ∀ W, (Instr.typeAssert (.iface 65 (.pointer (some ⟨r, 0, none⟩))) 75 145 true).run Tryz.prog W = .ok (.tuple #[.pointer none, .bool false]) W := run_assert_other _ _ _ _ _ _ Tryz.underlying145 (by decide) (by kernel_rfl)
  have q14 : ∀ W, (Instr.typeAssert (.iface 65 (.pointer (some ⟨r, 0, none⟩))) 75 149 true).run Tryz.prog W = .ok (.tuple #[.pointer none, .bool false]) W := run_assert_other _ _ _ _ _ _ Tryz.underlying149 (by decide) (by kernel_rfl)
  have q15 : ∀ W, (Instr.typeAssert (.iface 65 (.pointer (some ⟨r, 0, none⟩))) 75 123 true).run Tryz.prog W = .ok (.tuple #[.pointer none, .bool false]) W := run_assert_other _ _ _ _ _ _ Tryz.underlying123 (by decide) (by kernel_rfl)
  have q16 : ∀ W, (Instr.typeAssert (.iface 65 (.pointer (some ⟨r, 0, none⟩))) 75 154 true).run Tryz.prog W = .ok (.tuple #[.pointer none, .bool false]) W := run_assert_other _ _ _ _ _ _ Tryz.underlying154 (by decide) (by kernel_rfl)
  have q17 : ∀ W, (Instr.typeAssert (.iface 65 (.pointer (some ⟨r, 0, none⟩))) 75 157 true).run Tryz.prog W = .ok (.tuple #[.pointer none, .bool false]) W := run_assert_other _ _ _ _ _ _ Tryz.underlying157 (by decide) (by kernel_rfl)
  have q18 : ∀ W, (Instr.typeAssert (.iface 65 (.pointer (some ⟨r, 0, none⟩))) 75 161 true).run Tryz.prog W = .ok (.tuple #[.pointer none, .bool false]) W := run_assert_other _ _ _ _ _ _ Tryz.underlying161 (by decide) (by kernel_rfl)
  have q19 : ∀ W, (Instr.typeAssert (.iface 65 (.pointer (some ⟨r, 0, none⟩))) 75 167 true).run Tryz.prog W = .ok (.tuple #[.pointer none, .bool false]) W := run_assert_other _ _ _ _ _ _ Tryz.underlying167 (by decide) (by kernel_rfl)
  have q20 : ∀ W, (Instr.typeAssert (.iface 65 (.pointer (some ⟨r, 0, none⟩))) 75 172 true).run Tryz.prog W = .ok (.tuple #[.pointer none, .bool false]) W := run_assert_other _ _ _ _ _ _ Tryz.underlying172 (by decide) (by kernel_rfl)
  have q21 : ∀ W, (Instr.typeAssert (.iface 65 (.pointer (some ⟨r, 0, none⟩))) 75 175 true).run Tryz.prog W = .ok (.tuple #[.pointer none, .bool false]) W := run_assert_other _ _ _ _ _ _ Tryz.underlying175 (by decide) (by kernel_rfl)
  have q22 : ∀ W, (Instr.typeAssert (.iface 65 (.pointer (some ⟨r, 0, none⟩))) 75 179 true).run Tryz.prog W = .ok (.tuple #[.pointer none, .bool false]) W := run_assert_other _ _ _ _ _ _ Tryz.underlying179 (by decide) (by kernel_rfl)
  have q23 : ∀ W, (Instr.typeAssert (.iface 65 (.pointer (some ⟨r, 0, none⟩))) 75 182 true).run Tryz.prog W = .ok (.tuple #[.pointer none, .bool false]) W := run_assert_other _ _ _ _ _ _ Tryz.underlying182 (by decide) (by kernel_rfl)
  have q24 : ∀ W, (Instr.typeAssert (.iface 65 (.pointer (some ⟨r, 0, none⟩))) 75 185 true).run Tryz.prog W = .ok (.tuple #[.pointer none, .bool false]) W := run_assert_other _ _ _ _ _ _ Tryz.underlying185 (by decide) (by kernel_rfl)
  have q25 : ∀ W, (Instr.typeAssert (.iface 65 (.pointer (some ⟨r, 0, none⟩))) 75 188 true).run Tryz.prog W = .ok (.tuple #[.pointer none, .bool false]) W := run_assert_other _ _ _ _ _ _ Tryz.underlying188 (by decide) (by kernel_rfl)
  have q26 : ∀ W, (Instr.typeAssert (.iface 65 (.pointer (some ⟨r, 0, none⟩))) 75 195 true).run Tryz.prog W = .ok (.tuple #[.pointer none, .bool false]) W := run_assert_other _ _ _ _ _ _ Tryz.underlying195 (by decide) (by kernel_rfl)
  have q27 : ∀ W, (Instr.typeAssert (.iface 65 (.pointer (some ⟨r, 0, none⟩))) 75 163 true).run Tryz.prog W = .ok (.tuple #[.pointer none, .bool false]) W := run_assert_other _ _ _ _ _ _ Tryz.underlying163 (by decide) (by kernel_rfl)
  have q28 : ∀ W, (Instr.typeAssert (.iface 65 (.pointer (some ⟨r, 0, none⟩))) 75 200 true).run Tryz.prog W = .ok (.tuple #[.pointer none, .bool false]) W := run_assert_other _ _ _ _ _ _ Tryz.underlying200 (by decide) (by kernel_rfl)
  have q29 : ∀ W, (Instr.typeAssert (.iface 65 (.pointer (some ⟨r, 0, none⟩))) 75 207 true).run Tryz.prog W = .ok (.tuple #[.pointer none, .bool false]) W := run_assert_other _ _ _ _ _ _ Tryz.underlying207 (by decide) (by kernel_rfl)
  have q30 : ∀ W, (Instr.typeAssert (.iface 65 (.pointer (some ⟨r, 0, none⟩))) 75 209 true).run Tryz.prog W = .ok (.tuple #[.pointer none, .bool false]) W := run_assert_other _ _ _ _ _ _ Tryz.underlying209 (by decide) (by kernel_rfl)
  have q31 : ∀ W, (Instr.typeAssert (.iface 65 (.pointer (some ⟨r, 0, none⟩))) 75 44 true).run Tryz.prog W = .ok (.tuple #[.pointer none, .bool false]) W := run_assert_other _ _ _ _ _ _ Tryz.underlying44 (by decide) (by kernel_rfl)
  have q32 : ∀ W, (Instr.typeAssert (.iface 65 (.pointer (some ⟨r, 0, none⟩))) 75 59 true).run Tryz.prog W = .ok (.tuple #[.pointer none, .bool false]) W := run_assert_other _ _ _ _ _ _ Tryz.underlying59 (by decide) (by kernel_rfl)
  have q33 : ∀ W, (Instr.typeAssert (.iface 65 (.pointer (some ⟨r, 0, none⟩))) 75 211 true).run Tryz.prog W = .ok (.tuple #[.pointer none, .bool false]) W := run_assert_other _ _ _ _ _ _ Tryz.underlying211 (by decide) (by kernel_rfl)
  have q34 : ∀ W, (Instr.typeAssert (.iface 65 (.pointer (some ⟨r, 0, none⟩))) 75 214 true).run Tryz.prog W = .ok (.tuple #[.pointer none, .bool false]) W := run_assert_other _ _ _ _ _ _ Tryz.underlying214 (by decide) (by kernel_rfl)
  have q35 : ∀ W, (Instr.typeAssert (.iface 65 (.pointer (some ⟨r, 0, none⟩))) 75 217 true).run Tryz.prog W = .ok (.tuple #[.pointer none, .bool false]) W := run_assert_other _ _ _ _ _ _ Tryz.underlying217 (by decide) (by kernel_rfl)
  have q36 : ∀ W, (Instr.typeAssert (.iface 65 (.pointer (some ⟨r, 0, none⟩))) 75 220 true).run Tryz.prog W = .ok (.tuple #[.pointer none, .bool false]) W := run_assert_other _ _ _ _ _ _ Tryz.underlying220 (by decide) (by kernel_rfl)
  have q37 : ∀ W, (Instr.typeAssert (.iface 65 (.pointer (some ⟨r, 0, none⟩))) 75 65 true).run Tryz.prog W = .ok (.tuple #[.pointer (some ⟨r, 0, none⟩), .bool true]) W := run_assert_same _ _ _ _ Tryz.underlying65
  have c3 : w.cell? ⟨r, 3, none⟩ = some v := by rw [Lib.cell_of_heap h]; rfl
  have hr : r < w.heap.size := (Array.getElem?_eq_some_iff.1 h).1
  obtain ⟨va, vc, rfl⟩ := slice_form hown
  have hb0 := (Below.refl w.heap.size w).alloc (Nat.le_refl _) (.cells #[.int .i64 0, .string ⟨#[]⟩, .string ⟨#[]⟩, .int .u64 0, .slice none 0 0] 25)
  have hr0 := heap_alloc_new w (.cells #[.int .i64 0, .string ⟨#[]⟩, .string ⟨#[]⟩, .int .u64 0, .slice none 0 0] 25)
  have HM := Lib.hid (magnitudes_any _ base l hlen _ (hown.alloc (.cells #[.int .i64 0, .string ⟨#[]⟩, .string ⟨#[]⟩, .int .u64 0, .slice none 0 0] 25)))
  have HB0 := Lib.hid hb0
  have HK0 := Lib.hid hr0
  have HMI : Hid (∀ x ∈ l.map wrapM, MagIn x) := Lib.hid fun x hx => by
    obtain ⟨y, hy, rfl⟩ := List.mem_map.1 hx
    exact wrapM_in y (hl y hy)
  have HSPEC : Hid (∀ e w', SpanPost l w e w' → SpanPost l w e w') := Lib.hid fun _ _ h => h
  clear h hown hb0 hr0 hl
  go_enter Tryz.func17, Tryz.ntmps17
  go_wp2_with fail
  ((with_reducible refine HM.out.mono ?_))
  rintro e w2 ⟨v2, rfl, hown2, hb2⟩
  obtain ⟨a, c, rfl⟩ := slice_form hown2
  have hk2 := (hb2.block _ (Array.getElem?_eq_some_iff.1 HK0.out).1).trans HK0.out
  have hnode := node_of_row (l := l.map wrapM) (n := l.length) (by simp) HMI.out hown2
  have z0 : w2.cell? ⟨w.heap.size, 0, none⟩ = some (.int .i64 0) := by rw [Lib.cell_of_heap hk2]; rfl
  have z1 : w2.cell? ⟨w.heap.size, 1, none⟩ = some (.string ⟨#[]⟩) := by rw [Lib.cell_of_heap hk2]; rfl
  have z2 : w2.cell? ⟨w.heap.size, 2, none⟩ = some (.string ⟨#[]⟩) := by rw [Lib.cell_of_heap hk2]; rfl
  have z3 : w2.cell? ⟨w.heap.size, 3, none⟩ = some (.int .u64 0) := by rw [Lib.cell_of_heap hk2]; rfl
  have z4 : w2.cell? ⟨w.heap.size, 4, none⟩ = some (.slice none 0 0) := by rw [Lib.cell_of_heap hk2]; rfl
  have y0 := Lib.frozen_of_heap hk2 0
  have y1 := Lib.frozen_of_heap hk2 1
  have y2 := Lib.frozen_of_heap hk2 2
  have y3 := Lib.frozen_of_heap hk2 3
  have y4 := Lib.frozen_of_heap hk2 4
  have HN := Lib.hid hnode
  have HB2 := Lib.hid (HB0.out.trans (hb2.mono HB0.out.size))
  have hsz0 : (w.alloc (.cells #[.int .i64 0, .string ⟨#[]⟩, .string ⟨#[]⟩, .int .u64 0, .slice none 0 0] 25)).heap.size = w.heap.size + 1 := by simp
  clear hnode hown2 hk2 hb2
  go_wp2
  have hpost : SpanPost l w (.returned (nodeU 39 ⟨#[]⟩ ⟨#[]⟩ 0 a l.length c)) (((((w2.setCell ⟨w.heap.size, 0, none⟩ (.int .i64 39)).setCell ⟨w.heap.size, 1, none⟩ (.string ⟨#[]⟩)).setCell ⟨w.heap.size, 2, none⟩ (.string ⟨#[]⟩)).setCell ⟨w.heap.size, 3, none⟩ (.int .u64 0)).setCell ⟨w.heap.size, 4, none⟩ (.slice a l.length c)) := by
    refine ⟨a, c, rfl, ?_, ?_⟩
    · have hsz : (((((w2.setCell ⟨w.heap.size, 0, none⟩ (.int .i64 39)).setCell ⟨w.heap.size, 1, none⟩ (.string ⟨#[]⟩)).setCell ⟨w.heap.size, 2, none⟩ (.string ⟨#[]⟩)).setCell ⟨w.heap.size, 3, none⟩ (.int .u64 0)).setCell ⟨w.heap.size, 4, none⟩ (.slice a l.length c)).heap.size = w2.heap.size := by simp [World.setCell]
      rw [hsz]
      have hn := HN.out
      rw [hsz0] at hn
      refine NodeIn.mono (B := fun k => w.heap.size + 1 ≤ k ∧ k < w2.heap.size) (fun b hb => ⟨by omega, hb.2⟩) (NodeIn.keep (w := w2) (fun b hb => ?_) hn)
      have hne : b ≠ w.heap.size := by omega
      exact (Below.heap_setCell _ _ _ _ hne).trans ((Below.heap_setCell _ _ _ _ hne).trans ((Below.heap_setCell _ _ _ _ hne).trans ((Below.heap_setCell _ _ _ _ hne).trans (Below.heap_setCell _ _ _ _ hne))))
    · exact ((((HB2.out.setCell (p := ⟨w.heap.size, 0, none⟩) (Nat.le_refl _) _).setCell (p := ⟨w.heap.size, 1, none⟩) (Nat.le_refl _) _).setCell (p := ⟨w.heap.size, 2, none⟩) (Nat.le_refl _) _).setCell (p := ⟨w.heap.size, 3, none⟩) (Nat.le_refl _) _).setCell (p := ⟨w.heap.size, 4, none⟩) (Nat.le_refl _) _
  exact bodyPost_ret (v := nodeU 39 ⟨#[]⟩ ⟨#[]⟩ 0 a l.length c) (by simp [nodeU, results, Tryz.results17, go_sem, z0, z1, z2, z3, z4]) rfl hpost

end Go.Proofs.YtdillheepidncaaGreatDoor
