/- ast: durations out of flatbuffers. -/
import Derived.Test.YtdillheepidncaaGreatDoorFromLeaf
import Derived.Test.YtdillheepidncaaGreatDoorGetDur
import Derived.Test.YtdillheepidncaaGreatDoorNodeMag
import Derived.Test.YtdillheepidncaaGreatDoorMagRow
namespace Go.Proofs.YtdillheepidncaaGreatDoor
open Go Go.RowKit
set_option linter.unusedVariables false
set_option linter.unusedSimpArgs false

set_option maxHeartbeats 2000000 in
theorem unitName_any (ix : Nat) (h10 : ix < 10) (t : ByteArray) (hix : unitTexts[ix]'h10 = t) (w : World) :
    Calls Tryz.prog 114 #[.int .i8 ix] w fun e w' => e = .returned (.string t) ∧ w' = w := by
  subst hix
  have hc : ix = 0 ∨ ix = 1 ∨ ix = 2 ∨ ix = 3 ∨ ix = 4 ∨ ix = 5 ∨ ix = 6 ∨ ix = 7 ∨ ix = 8 ∨ ix = 9 := by omega
  rcases hc with rfl | rfl | rfl | rfl | rfl | rfl | rfl | rfl | rfl | rfl
  all_goals
    go_enter Tryz.func114, Tryz.ntmps114
    go_wp2
    go_ret
    exact ⟨rfl, rfl⟩

set_option maxHeartbeats 4000000 in
set_option maxRecDepth 100000 in
theorem fromDuration_any (b g L c p num ix : Nat) (h10 : ix < 10) (t : ByteArray) (hix : unitTexts[ix]'h10 = t) (bs : List UInt8) (hq : MagQ num ix bs p) (w : World) (h : TabAt b g L c p bs w) :
    Calls Tryz.prog 70 #[.agg #[.int .i64 0, .string ⟨#[]⟩], .pointer (some ⟨b, 0, none⟩)] w fun e w' => e = .returned (.agg #[.int .i64 (sgn num), .string t]) ∧ Below w.heap.size w w' := by
  have hend : p + 17 ≤ bs.length := hq.vt.2.2.2.2
  have HN := Lib.hid (fun W (hW : TabAt b g L c p bs W) => numDuration_there b g L c p bs 17 [8, 16] hq.vt (by decide) (by decide) (by decide) 8 rfl (by decide) (by decide) num hq.num (by omega) W hW)
  have HU := Lib.hid (fun W (hW : TabAt b g L c p bs W) => unitDuration_there b g L c p bs 17 [8, 16] hq.vt (by decide) (by decide) (by decide) 16 rfl (by decide) (by decide) ix hq.unit (by omega) (by omega) W hW)
  have HT := Lib.hid (fun W => unitName_any ix h10 t hix W)
  have hs1 : (w.alloc (.cells #[.int .i64 0, .string ⟨#[]⟩] 267)).heap.size = w.heap.size + 1 := alloc_size _ _
  have hb0 := ((Below.refl w.heap.size w).alloc (Nat.le_refl _) (.cells #[.int .i64 0, .string ⟨#[]⟩] 267)).alloc (by rw [hs1]; omega) (.cells #[.int .i64 0, .string ⟨#[]⟩] 267)
  have hr0 : ((w.alloc (.cells #[.int .i64 0, .string ⟨#[]⟩] 267)).alloc (.cells #[.int .i64 0, .string ⟨#[]⟩] 267)).heap[w.heap.size]? = _ := (Below.heap_alloc _ _ _ (by rw [hs1]; omega)).trans (heap_alloc_new w (.cells #[.int .i64 0, .string ⟨#[]⟩] 267))
  have hx0 := heap_alloc_new (w.alloc (.cells #[.int .i64 0, .string ⟨#[]⟩] 267)) (.cells #[.int .i64 0, .string ⟨#[]⟩] 267)
  rw [hs1] at hx0
  have HR0 := Lib.hid (h.below hb0)
  have HB0 := Lib.hid hb0
  have HW0 := Lib.hid hr0
  have HX0 := Lib.hid hx0
  have hbb := h.bl
  have hgg := h.gl
  clear h hq hb0 hr0 hx0 hix hs1
  go_enter Tryz.func70, Tryz.ntmps70
  go_wp2_with fail
  ((with_reducible refine (HN.out _ HR0.out).mono ?_))
  rintro e w1 ⟨rfl, hm1⟩
  have hb1 := reads_below hm1
  have HB1 := Lib.hid (HB0.out.trans (hb1.mono HB0.out.size))
  have hr1 : w1.heap[w.heap.size]? = _ := (hb1.block _ (Array.getElem?_eq_some_iff.1 HW0.out).1).trans HW0.out
  have hx1 : w1.heap[w.heap.size + 1]? = _ := (hb1.block _ (Array.getElem?_eq_some_iff.1 HX0.out).1).trans HX0.out
  have hR1 := HR0.out.below hb1
  have c0 : w1.cell? ⟨w.heap.size, 0, none⟩ = some (.int .i64 0) := by rw [Lib.cell_of_heap hr1]; rfl
  have f0 := Lib.frozen_of_heap hr1 0
  have HW2 := Lib.hid (row_setG hr1 0 (.int .i64 (sgn num)))
  have HX2 := Lib.hid ((Below.heap_setCell w1 ⟨w.heap.size, 0, none⟩ (.int .i64 (sgn num)) _ (by show w.heap.size + 1 ≠ w.heap.size; omega)).trans hx1)
  have HB2 := Lib.hid (HB1.out.setCell (p := ⟨w.heap.size, 0, none⟩) (Nat.le_refl _) (.int .i64 (sgn num)))
  have HR2 := Lib.hid (hR1.set w.heap.size 0 (.int .i64 (sgn num)) (by omega) (by omega))
  clear hm1 hb1 hr1 hR1 hx1
  go_wp2_with fail
  ((with_reducible refine (HU.out _ HR2.out).mono ?_))
  rintro e w3 ⟨rfl, hm3⟩
  have hb3 := reads_below hm3
  have HB3 := Lib.hid (HB2.out.trans (hb3.mono HB2.out.size))
  have hr3 : w3.heap[w.heap.size]? = _ := (hb3.block _ (Array.getElem?_eq_some_iff.1 HW2.out).1).trans HW2.out
  have hx3 : w3.heap[w.heap.size + 1]? = _ := (hb3.block _ (Array.getElem?_eq_some_iff.1 HX2.out).1).trans HX2.out
  have c1 : w3.cell? ⟨w.heap.size, 1, none⟩ = some (.string ⟨#[]⟩) := by rw [Lib.cell_of_heap hr3]; rfl
  have f1 := Lib.frozen_of_heap hr3 1
  have hr4 := row_setG hr3 1 (.string t)
  have hx4 := (Below.heap_setCell w3 ⟨w.heap.size, 1, none⟩ (.string t) _ (by show w.heap.size + 1 ≠ w.heap.size; omega)).trans hx3
  have HB4 := Lib.hid (HB3.out.setCell (p := ⟨w.heap.size, 1, none⟩) (Nat.le_refl _) (.string t))
  have HR4 := Lib.hid hr4
  have HX4 := Lib.hid hx4
  clear hm3 hb3 hr3 hr4 c0 f0 hx3 hx4
  go_wp2_with fail
  ((with_reducible refine (HT.out _).mono ?_))
  rintro e w4 ⟨rfl, rfl⟩
  go_upto_region 3 with fail
  generalize w4.setCell ⟨w.heap.size, 1, none⟩ (.string t) = w5 at *
  have d0 : w5.cell? ⟨w.heap.size, 0, none⟩ = some (.int .i64 (sgn num)) := by rw [Lib.cell_of_heap HR4.out]; rfl
  have d1 : w5.cell? ⟨w.heap.size, 1, none⟩ = some (.string t) := by rw [Lib.cell_of_heap HR4.out]; rfl
  have y0 : w5.cell? ⟨w.heap.size + 1, 0, none⟩ = some (.int .i64 0) := by rw [Lib.cell_of_heap HX4.out]; rfl
  have y1 : w5.cell? ⟨w.heap.size + 1, 1, none⟩ = some (.string ⟨#[]⟩) := by rw [Lib.cell_of_heap HX4.out]; rfl
  have g0 := Lib.frozen_of_heap HX4.out 0
  have g1 := Lib.frozen_of_heap HX4.out 1
  go_wp2
  have u0 := row_setG (row_setG HX4.out 0 (.int .i64 (sgn num))) 1 (.string t)
  have u1 := (HB4.out.setCell (p := ⟨w.heap.size + 1, 0, none⟩) (Nat.le_succ _) (.int .i64 (sgn num))).setCell (p := ⟨w.heap.size + 1, 1, none⟩) (Nat.le_succ _) (.string t)
  generalize (w5.setCell ⟨w.heap.size + 1, 0, none⟩ (.int .i64 (sgn num))).setCell ⟨w.heap.size + 1, 1, none⟩ (.string t) = F at *
  have q0 : F.cell? ⟨w.heap.size + 1, 0, none⟩ = some (.int .i64 (sgn num)) := by rw [Lib.cell_of_heap u0]; rfl
  have q1 : F.cell? ⟨w.heap.size + 1, 1, none⟩ = some (.string t) := by rw [Lib.cell_of_heap u0]; rfl
  refine bodyPost_ret (v := .agg #[.int .i64 (sgn num), .string t]) (by simp [results, Tryz.results70, go_sem, q0, q1]) rfl ⟨rfl, u1⟩

end Go.Proofs.YtdillheepidncaaGreatDoor
