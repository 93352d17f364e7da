/- impl.node over imports. -/
import Derived.Test.YtdillheepidncaaGreatDoorNodeKid
import Derived.Test.YtdillheepidncaaGreatDoorMakerJoin
namespace Go.Proofs.YtdillheepidncaaGreatDoor
open Go Go.RowKit
set_option linter.unusedVariables false
set_option linter.unusedSimpArgs false

set_option maxHeartbeats 4000000 in
set_option maxRecDepth 100000 in
theorem orNoneStringLiteral_some (r : Nat) (t : ByteArray) (w : World) (h : w.heap[r]? = some (.cells #[.pointer none, .slice none 0 0, .slice none 0 0, .string t] 99 (0, 0))) :
    Calls Tryz.prog 35 #[.pointer (some ⟨r, 0, none⟩)] w fun e w' => e = .returned (.agg #[.int .i64 34, .string t, .string ⟨#[]⟩, .int .u64 0, .slice none 0 0]) ∧ Below w.heap.size w w' := by
  have hb0 := (Below.refl w.heap.size w).alloc (Nat.le_refl _) (.cells #[.int .i64 0, .string ⟨#[]⟩, .string ⟨#[]⟩, .int .u64 0, .slice none 0 0] 25)
  have hr0 := heap_alloc_new w (.cells #[.int .i64 0, .string ⟨#[]⟩, .string ⟨#[]⟩, .int .u64 0, .slice none 0 0] 25)
  have HD := Lib.hid (nodeStringLiteral r t _ ((hb0.block r (Array.getElem?_eq_some_iff.1 h).1).trans h))
  have HB0 := Lib.hid hb0
  have HR0 := Lib.hid hr0
  clear h hb0 hr0
  go_enter Tryz.func35, Tryz.ntmps35
  go_wp2_with fail
  ((with_reducible refine HD.out.mono ?_))
  rintro e w1 ⟨rfl, hb1⟩
  have hr1 : w1.heap[w.heap.size]? = some (.cells #[.int .i64 0, .string ⟨#[]⟩, .string ⟨#[]⟩, .int .u64 0, .slice none 0 0] 25 (0, 0)) := (hb1.block _ (Array.getElem?_eq_some_iff.1 HR0.out).1).trans HR0.out
  have z0 : w1.cell? ⟨w.heap.size, 0, none⟩ = some (.int .i64 0) := by rw [Lib.cell_of_heap hr1]; rfl
  have z1 : w1.cell? ⟨w.heap.size, 1, none⟩ = some (.string ⟨#[]⟩) := by rw [Lib.cell_of_heap hr1]; rfl
  have z2 : w1.cell? ⟨w.heap.size, 2, none⟩ = some (.string ⟨#[]⟩) := by rw [Lib.cell_of_heap hr1]; rfl
  have z3 : w1.cell? ⟨w.heap.size, 3, none⟩ = some (.int .u64 0) := by rw [Lib.cell_of_heap hr1]; rfl
  have z4 : w1.cell? ⟨w.heap.size, 4, none⟩ = some (.slice none 0 0) := by rw [Lib.cell_of_heap hr1]; rfl
  have y0 := Lib.frozen_of_heap hr1 0
  have y1 := Lib.frozen_of_heap hr1 1
  have y2 := Lib.frozen_of_heap hr1 2
  have y3 := Lib.frozen_of_heap hr1 3
  have y4 := Lib.frozen_of_heap hr1 4
  have HB1 := Lib.hid (HB0.out.trans (hb1.mono HB0.out.size))
  have HR1 := Lib.hid hr1
  clear hb1 hr1
  go_wp2
  have u0 := row_setG (row_setG (row_setG (row_setG (row_setG HR1.out 0 (.int .i64 34)) 1 (.string t)) 2 (.string ⟨#[]⟩)) 3 (.int .u64 0)) 4 (.slice none 0 0)
  have u1 := ((((HB1.out.setCell (p := ⟨w.heap.size, 0, none⟩) (Nat.le_refl _) (.int .i64 34)).setCell (p := ⟨w.heap.size, 1, none⟩) (Nat.le_refl _) (.string t)).setCell (p := ⟨w.heap.size, 2, none⟩) (Nat.le_refl _) (.string ⟨#[]⟩)).setCell (p := ⟨w.heap.size, 3, none⟩) (Nat.le_refl _) (.int .u64 0)).setCell (p := ⟨w.heap.size, 4, none⟩) (Nat.le_refl _) (.slice none 0 0)
  generalize ((((w1.setCell ⟨w.heap.size, 0, none⟩ (.int .i64 34)).setCell ⟨w.heap.size, 1, none⟩ (.string t)).setCell ⟨w.heap.size, 2, none⟩ (.string ⟨#[]⟩)).setCell ⟨w.heap.size, 3, none⟩ (.int .u64 0)).setCell ⟨w.heap.size, 4, none⟩ (.slice none 0 0) = F at *
  have q0 : F.cell? ⟨w.heap.size, 0, none⟩ = some (.int .i64 34) := by rw [Lib.cell_of_heap u0]; rfl
  have q1 : F.cell? ⟨w.heap.size, 1, none⟩ = some (.string t) := by rw [Lib.cell_of_heap u0]; rfl
  have q2 : F.cell? ⟨w.heap.size, 2, none⟩ = some (.string ⟨#[]⟩) := by rw [Lib.cell_of_heap u0]; rfl
  have q3 : F.cell? ⟨w.heap.size, 3, none⟩ = some (.int .u64 0) := by rw [Lib.cell_of_heap u0]; rfl
  have q4 : F.cell? ⟨w.heap.size, 4, none⟩ = some (.slice none 0 0) := by rw [Lib.cell_of_heap u0]; rfl
  refine bodyPost_ret (v := .agg #[.int .i64 34, .string t, .string ⟨#[]⟩, .int .u64 0, .slice none 0 0]) (by simp [results, Tryz.results35, go_sem, q0, q1, q2, q3, q4]) rfl ⟨rfl, u1⟩


set_option maxHeartbeats 4000000 in
set_option maxRecDepth 100000 in
theorem orNoneIdentifier_none (w : World) :
    Calls Tryz.prog 34 #[.pointer none] w fun e w' => e = .returned (.agg #[.int .i64 0, .string ⟨#[]⟩, .string ⟨#[]⟩, .int .u64 0, .slice none 0 0]) ∧ Below w.heap.size w w' := by
  have hb0 := (Below.refl w.heap.size w).alloc (Nat.le_refl _) (.cells #[.int .i64 0, .string ⟨#[]⟩, .string ⟨#[]⟩, .int .u64 0, .slice none 0 0] 25)
  have hr0 := heap_alloc_new w (.cells #[.int .i64 0, .string ⟨#[]⟩, .string ⟨#[]⟩, .int .u64 0, .slice none 0 0] 25)
  have z0 : (w.alloc (.cells #[.int .i64 0, .string ⟨#[]⟩, .string ⟨#[]⟩, .int .u64 0, .slice none 0 0] 25)).cell? ⟨w.heap.size, 0, none⟩ = some (.int .i64 0) := by rw [Lib.cell_of_heap hr0]; rfl
  have z1 : (w.alloc (.cells #[.int .i64 0, .string ⟨#[]⟩, .string ⟨#[]⟩, .int .u64 0, .slice none 0 0] 25)).cell? ⟨w.heap.size, 1, none⟩ = some (.string ⟨#[]⟩) := by rw [Lib.cell_of_heap hr0]; rfl
  have z2 : (w.alloc (.cells #[.int .i64 0, .string ⟨#[]⟩, .string ⟨#[]⟩, .int .u64 0, .slice none 0 0] 25)).cell? ⟨w.heap.size, 2, none⟩ = some (.string ⟨#[]⟩) := by rw [Lib.cell_of_heap hr0]; rfl
  have z3 : (w.alloc (.cells #[.int .i64 0, .string ⟨#[]⟩, .string ⟨#[]⟩, .int .u64 0, .slice none 0 0] 25)).cell? ⟨w.heap.size, 3, none⟩ = some (.int .u64 0) := by rw [Lib.cell_of_heap hr0]; rfl
  have z4 : (w.alloc (.cells #[.int .i64 0, .string ⟨#[]⟩, .string ⟨#[]⟩, .int .u64 0, .slice none 0 0] 25)).cell? ⟨w.heap.size, 4, none⟩ = some (.slice none 0 0) := by rw [Lib.cell_of_heap hr0]; rfl
  have HB0 := Lib.hid hb0
  have HR0 := Lib.hid hr0
  clear hb0 hr0
  go_enter Tryz.func34, Tryz.ntmps34
  go_wp2
  all_goals first
    | exact bodyPost_ret (v := .agg #[.int .i64 0, .string ⟨#[]⟩, .string ⟨#[]⟩, .int .u64 0, .slice none 0 0]) (by simp [results, Tryz.results34, go_sem, z0, z1, z2, z3, z4]) rfl ⟨rfl, HB0.out⟩
    | skip


theorem below_more {w w' : World} (h : Below w.heap.size w w') (o : Obj) : Below w.heap.size w (w'.alloc o) := h.alloc h.size o
theorem below_set {w w' : World} (h : Below w.heap.size w w') (i : Nat) (v : Value) : Below w.heap.size w (w'.setCell ⟨w.heap.size, i, none⟩ v) := h.setCell (p := ⟨w.heap.size, i, none⟩) (Nat.le_refl _) v

/-- An import as a plain node. -/
def ImportPost (kx : Int) (tx y : ByteArray) (w : World) (e : Ending) (w' : World) : Prop :=
  ∃ g, e = .returned (.agg #[.int .i64 5, .string ⟨#[]⟩, .string ⟨#[]⟩, .int .u64 0, .slice (some ⟨g, 0, none⟩) 2 2]) ∧ w.heap.size ≤ g ∧ w'.heap[g]? = some (.cells #[.int .i64 kx, .string tx, .string ⟨#[]⟩, .int .u64 0, .slice none 0 0, .int .i64 34, .string y, .string ⟨#[]⟩, .int .u64 0, .slice none 0 0] 25 (0, 0)) ∧ Below w.heap.size w w'

set_option maxHeartbeats 8000000 in
set_option maxRecDepth 100000 in
theorem nodeImport (r g : Nat) (ad : Option Addr) (kx : Int) (tx y : ByteArray) (w : World) (h : w.heap[r]? = some (.cells #[.pointer none, .slice none 0 0, .slice none 0 0, .pointer ad, .pointer (some ⟨g, 0, none⟩)] 61 (0, 0)))
    (hx : ∀ W, Below w.heap.size w W → Calls Tryz.prog 34 #[.pointer ad] W fun e w' => e = .returned (.agg #[.int .i64 kx, .string tx, .string ⟨#[]⟩, .int .u64 0, .slice none 0 0]) ∧ Below W.heap.size W w')
    (hg : w.heap[g]? = some (.cells #[.pointer none, .slice none 0 0, .slice none 0 0, .string y] 99 (0, 0))) :
    Calls Tryz.prog 17 #[.iface 58 (.pointer (some ⟨r, 0, none⟩))] w (ImportPost kx tx y w) := by
  have q0 : ∀ W, (Instr.typeAssert (.iface 58 (.pointer (some ⟨r, 0, none⟩))) 75 76 true).run Tryz.prog W = .ok (.tuple #[.pointer none, .bool false]) W := run_assert_other _ _ _ _ _ _ Tryz.underlying76 (by decide) (by kernel_rfl)
  have q1 : ∀ W, (Instr.typeAssert (.iface 58 (.pointer (some ⟨r, 0, none⟩))) 75 81 true).run Tryz.prog W = .ok (.tuple #[.pointer none, .bool false]) W := run_assert_other _ _ _ _ _ _ Tryz.underlying81 (by decide) (by kernel_rfl)
  have q2 : ∀ W, (Instr.typeAssert (.iface 58 (.pointer (some ⟨r, 0, none⟩))) 75 82 true).run Tryz.prog W = .ok (.tuple #[.pointer none, .bool false]) W := run_assert_other _ _ _ _ _ _ Tryz.underlying82 (by decide) (by kernel_rfl)
  have q3 : ∀ W, (Instr.typeAssert (.iface 58 (.pointer (some ⟨r, 0, none⟩))) 75 58 true).run Tryz.prog W = .ok (.tuple #[.pointer (some ⟨r, 0, none⟩), .bool true]) W := run_assert_same _ _ _ _ Tryz.underlying58
  have hb0 := (Below.refl w.heap.size w).alloc (Nat.le_refl _) (.cells #[.int .i64 0, .string ⟨#[]⟩, .string ⟨#[]⟩, .int .u64 0, .slice none 0 0] 25)
  have hr : r < w.heap.size := (Array.getElem?_eq_some_iff.1 h).1
  have c3 : w.cell? ⟨r, 3, none⟩ = some (.pointer ad) := by rw [Lib.cell_of_heap h]; rfl
  have hr0 := heap_alloc_new w (.cells #[.int .i64 0, .string ⟨#[]⟩, .string ⟨#[]⟩, .int .u64 0, .slice none 0 0] 25)
  obtain ⟨w0, hw0⟩ : ∃ w0, w0 = w.alloc (.cells #[.int .i64 0, .string ⟨#[]⟩, .string ⟨#[]⟩, .int .u64 0, .slice none 0 0] 25) := ⟨_, rfl⟩
  rw [← hw0] at hb0 hr0
  have HO := Lib.hid (hx _ hb0.drew)
  have HB0 := Lib.hid hb0
  have HR0 := Lib.hid hr0
  have h0 := (hb0.block r hr).trans h
  have H0 := Lib.hid h0
  have HG := Lib.hid ((hb0.block g (Array.getElem?_eq_some_iff.1 hg).1).trans hg)
  have HW0 := Lib.hid hw0
  have HSW : Hid (∀ w', Below w.heap.size w w' → w'.cell? ⟨r, 3, none⟩ = some (.pointer ad) ∧ w'.cell? ⟨r, 4, none⟩ = some (.pointer (some ⟨g, 0, none⟩))) := Lib.hid fun w' hb => by
    have hc : ∀ i, w'.cell? ⟨r, i, none⟩ = w.cell? ⟨r, i, none⟩ := fun i => hb.cell (p := ⟨r, i, none⟩) hr
    exact ⟨(hc _).trans (by rw [Lib.cell_of_heap h]; rfl), (hc _).trans (by rw [Lib.cell_of_heap h]; rfl)⟩
  clear h hg hb0 hr0 hx
  go_enter Tryz.func17, Tryz.ntmps17
  go_upto_region 13 with fail
  rw [← HW0.out]
  clear hw0 HW0 c3
  have HS : Hid (∀ w', Below w0.heap.size w0.drew w' → w'.cell? ⟨r, 3, none⟩ = some (.pointer ad) ∧ w'.cell? ⟨r, 4, none⟩ = some (.pointer (some ⟨g, 0, none⟩))) := Lib.hid fun w' hb => by
    have hc : ∀ i, w'.cell? ⟨r, i, none⟩ = w0.cell? ⟨r, i, none⟩ := fun i => hb.cell (p := ⟨r, i, none⟩) (Array.getElem?_eq_some_iff.1 H0.out).1
    exact ⟨(hc _).trans (by rw [Lib.cell_of_heap H0.out]; rfl), (hc _).trans (by rw [Lib.cell_of_heap H0.out]; rfl)⟩
  have HO1 : Hid (∀ w', Below w0.heap.size w0.drew w' → Calls Tryz.prog 35 #[.pointer (some ⟨g, 0, none⟩)] w' fun e w'' => e = .returned (.agg #[.int .i64 34, .string y, .string ⟨#[]⟩, .int .u64 0, .slice none 0 0]) ∧ Below w'.heap.size w' w'') := Lib.hid fun w' hb => orNoneStringLiteral_some g y w' ((hb.block g (Array.getElem?_eq_some_iff.1 HG.out).1).trans HG.out)
  have HZ : Hid (∀ w2, Below w0.heap.size w0.drew w2 → w.heap.size < w2.heap.size ∧ w2.cell? ⟨w.heap.size, 0, none⟩ = some (.int .i64 0) ∧ w2.cell? ⟨w.heap.size, 1, none⟩ = some (.string ⟨#[]⟩) ∧ w2.cell? ⟨w.heap.size, 2, none⟩ = some (.string ⟨#[]⟩) ∧ w2.cell? ⟨w.heap.size, 3, none⟩ = some (.int .u64 0) ∧ w2.cell? ⟨w.heap.size, 4, none⟩ = some (.slice none 0 0) ∧
      w2.frozen? ⟨w.heap.size, 0, none⟩ = false ∧ w2.frozen? ⟨w.heap.size, 1, none⟩ = false ∧ w2.frozen? ⟨w.heap.size, 2, none⟩ = false ∧ w2.frozen? ⟨w.heap.size, 3, none⟩ = false ∧ w2.frozen? ⟨w.heap.size, 4, none⟩ = false) := Lib.hid fun w2 hb2 => by
    have hr2 : w2.heap[w.heap.size]? = some (.cells #[.int .i64 0, .string ⟨#[]⟩, .string ⟨#[]⟩, .int .u64 0, .slice none 0 0] 25 (0, 0)) := (hb2.block _ (Array.getElem?_eq_some_iff.1 HR0.out).1).trans HR0.out
    exact ⟨(Array.getElem?_eq_some_iff.1 hr2).1, by rw [Lib.cell_of_heap hr2]; rfl, by rw [Lib.cell_of_heap hr2]; rfl, by rw [Lib.cell_of_heap hr2]; rfl, by rw [Lib.cell_of_heap hr2]; rfl, by rw [Lib.cell_of_heap hr2]; rfl, Lib.frozen_of_heap hr2 0, Lib.frozen_of_heap hr2 1, Lib.frozen_of_heap hr2 2, Lib.frozen_of_heap hr2 3, Lib.frozen_of_heap hr2 4⟩
  go_region_held3 (fun w' => w'.cell? ⟨r, 3, none⟩ = some (.pointer ad) ∧ w'.cell? ⟨r, 4, none⟩ = some (.pointer (some ⟨g, 0, none⟩))) (first | with_reducible exact HS.out _ (Below.refl _ _) | with_reducible exact HS.out _ hb1d | with_reducible exact HS.out _ hb2 | (with_reducible refine HSW.out _ ?_; repeat (first | with_reducible exact hb2w | with_reducible refine below_set ?_ _ _ | with_reducible refine below_more ?_ _)) | go_keep) (first
    | (go_at_call 34; ((with_reducible refine HO.out.mono ?_)); rintro e w1 ⟨rfl, hb1⟩; have hb1d : Below w0.heap.size w0.drew w1 := hb1)
    | (go_at_call 35; ((with_reducible refine (HO1.out _ hb1d).mono ?_)); rintro e w2 ⟨rfl, hb12⟩; have hb2 : Below w0.heap.size w0.drew w2 := hb1d.trans (hb12.mono hb1d.size); have hb2w : Below w.heap.size w w2 := HB0.out.drew.trans (hb2.mono HB0.out.size); obtain ⟨hlt2, z0, z1, z2, z3, z4, y0, y1, y2, y3, y4⟩ := HZ.out _ hb2))
  have HB2 := Lib.hid (HB0.out.drew.trans (hb2.mono HB0.out.size))
  have hr2 : w2.heap[w.heap.size]? = some (.cells #[.int .i64 0, .string ⟨#[]⟩, .string ⟨#[]⟩, .int .u64 0, .slice none 0 0] 25 (0, 0)) := (hb2.block _ (Array.getElem?_eq_some_iff.1 HR0.out).1).trans HR0.out
  have hlt2 := (Array.getElem?_eq_some_iff.1 hr2).1
  clear hb2 hb12 hb1
  have z0 : w2.cell? ⟨w.heap.size, 0, none⟩ = some (.int .i64 0) := by rw [Lib.cell_of_heap hr2]; rfl
  have z1 : w2.cell? ⟨w.heap.size, 1, none⟩ = some (.string ⟨#[]⟩) := by rw [Lib.cell_of_heap hr2]; rfl
  have z2 : w2.cell? ⟨w.heap.size, 2, none⟩ = some (.string ⟨#[]⟩) := by rw [Lib.cell_of_heap hr2]; rfl
  have z3 : w2.cell? ⟨w.heap.size, 3, none⟩ = some (.int .u64 0) := by rw [Lib.cell_of_heap hr2]; rfl
  have z4 : w2.cell? ⟨w.heap.size, 4, none⟩ = some (.slice none 0 0) := by rw [Lib.cell_of_heap hr2]; rfl
  have y0 := Lib.frozen_of_heap hr2 0
  have y1 := Lib.frozen_of_heap hr2 1
  have y2 := Lib.frozen_of_heap hr2 2
  have y3 := Lib.frozen_of_heap hr2 3
  have y4 := Lib.frozen_of_heap hr2 4
  have HR2 := Lib.hid hr2
  clear hr2
  go_wp2
  have u0 := row_setG (row_setG (row_setG (row_setG (row_setG HR2.out 0 (.int .i64 5)) 1 (.string ⟨#[]⟩)) 2 (.string ⟨#[]⟩)) 3 (.int .u64 0)) 4 (.slice (some ⟨w2.heap.size, 0, none⟩) 2 2)
  have u1 := ((((HB2.out.setCell (p := ⟨w.heap.size, 0, none⟩) (Nat.le_refl _) (.int .i64 5)).setCell (p := ⟨w.heap.size, 1, none⟩) (Nat.le_refl _) (.string ⟨#[]⟩)).setCell (p := ⟨w.heap.size, 2, none⟩) (Nat.le_refl _) (.string ⟨#[]⟩)).setCell (p := ⟨w.heap.size, 3, none⟩) (Nat.le_refl _) (.int .u64 0)).setCell (p := ⟨w.heap.size, 4, none⟩) (Nat.le_refl _) (.slice (some ⟨w2.heap.size, 0, none⟩) 2 2)
  have u2 : (((((w2.setCell ⟨w.heap.size, 0, none⟩ (.int .i64 5)).setCell ⟨w.heap.size, 1, none⟩ (.string ⟨#[]⟩)).setCell ⟨w.heap.size, 2, none⟩ (.string ⟨#[]⟩)).setCell ⟨w.heap.size, 3, none⟩ (.int .u64 0)).setCell ⟨w.heap.size, 4, none⟩ (.slice (some ⟨w2.heap.size, 0, none⟩) 2 2)).heap.size = w2.heap.size := by simp [World.setCell]
  generalize ((((w2.setCell ⟨w.heap.size, 0, none⟩ (.int .i64 5)).setCell ⟨w.heap.size, 1, none⟩ (.string ⟨#[]⟩)).setCell ⟨w.heap.size, 2, none⟩ (.string ⟨#[]⟩)).setCell ⟨w.heap.size, 3, none⟩ (.int .u64 0)).setCell ⟨w.heap.size, 4, none⟩ (.slice (some ⟨w2.heap.size, 0, none⟩) 2 2) = F at *
  have v0 := (Below.heap_alloc F (.cells #[.int .i64 kx, .string tx, .string ⟨#[]⟩, .int .u64 0, .slice none 0 0, .int .i64 34, .string y, .string ⟨#[]⟩, .int .u64 0, .slice none 0 0] 25) _ (Array.getElem?_eq_some_iff.1 u0).1).trans u0
  have v1 := heap_alloc_new F (.cells #[.int .i64 kx, .string tx, .string ⟨#[]⟩, .int .u64 0, .slice none 0 0, .int .i64 34, .string y, .string ⟨#[]⟩, .int .u64 0, .slice none 0 0] 25)
  have v2 := u1.alloc u1.size (.cells #[.int .i64 kx, .string tx, .string ⟨#[]⟩, .int .u64 0, .slice none 0 0, .int .i64 34, .string y, .string ⟨#[]⟩, .int .u64 0, .slice none 0 0] 25)
  rw [u2] at v1
  generalize F.alloc (.cells #[.int .i64 kx, .string tx, .string ⟨#[]⟩, .int .u64 0, .slice none 0 0, .int .i64 34, .string y, .string ⟨#[]⟩, .int .u64 0, .slice none 0 0] 25) = G at *
  have q0 : G.cell? ⟨w.heap.size, 0, none⟩ = some (.int .i64 5) := by rw [Lib.cell_of_heap v0]; rfl
  have q1 : G.cell? ⟨w.heap.size, 1, none⟩ = some (.string ⟨#[]⟩) := by rw [Lib.cell_of_heap v0]; rfl
  have q2 : G.cell? ⟨w.heap.size, 2, none⟩ = some (.string ⟨#[]⟩) := by rw [Lib.cell_of_heap v0]; rfl
  have q3 : G.cell? ⟨w.heap.size, 3, none⟩ = some (.int .u64 0) := by rw [Lib.cell_of_heap v0]; rfl
  have q4 : G.cell? ⟨w.heap.size, 4, none⟩ = some (.slice (some ⟨w2.heap.size, 0, none⟩) 2 2) := by rw [Lib.cell_of_heap v0]; rfl
  refine bodyPost_ret (v := .agg #[.int .i64 5, .string ⟨#[]⟩, .string ⟨#[]⟩, .int .u64 0, .slice (some ⟨w2.heap.size, 0, none⟩) 2 2]) (by simp [results, Tryz.results17, go_sem, q0, q1, q2, q3, q4]) rfl ⟨_, rfl, HB2.out.size, v1, v2⟩


end Go.Proofs.YtdillheepidncaaGreatDoor
