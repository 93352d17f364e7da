/- impl: durations out of buffers. -/
import Derived.Test.YtdillheepidncaaGreatDoorFromSpan
import Derived.Test.YtdillheepidncaaGreatDoorNodeDur
import Derived.Test.YtdillheepidncaaGreatDoorBufEnd
namespace Go.Proofs.YtdillheepidncaaGreatDoor
open Go Go.RowKit
set_option linter.unusedVariables false
set_option linter.unusedSimpArgs false

theorem sgn_back (n : Nat) (h : n < 18446744073709551616) : IntKind.u64.wrap (sgn n) = (n : Int) := by
  unfold sgn
  rw [IntKind.wrap_u64, IntKind.wrap_i64]
  omega

theorem span_tree (l : List MagP) : spanT ((l.map MagP.dur).map wrapM) = .mk 39 ⟨#[]⟩ ⟨#[]⟩ 0 (l.map MagP.tree) := by
  unfold spanT
  rw [List.map_map, List.map_map]
  congr 1
  refine List.map_congr_left fun x _ => ?_
  show magT (IntKind.u64.wrap (sgn x.num), x.unit) = x.tree
  rw [sgn_back x.num x.hn]
  rfl

theorem span_units (l : List MagP) : ∀ x ∈ l.map MagP.dur, x.2.size ≤ maxLen := fun x hx => by
  obtain ⟨y, _, rfl⟩ := List.mem_map.1 hx
  have h : ∀ ix (h : ix < 10), (unitTexts[ix]'h).size ≤ 2 := by decide
  have h1 := h y.ix y.h10
  show y.unit.size ≤ maxLen
  unfold MagP.unit maxLen
  omega

/-- A duration is read. -/
def SpanRes (l : List MagP) (w : World) (e : Ending) (w' : World) : Prop :=
  ∃ a c, e = .returned (.tuple #[.agg #[.int .i64 39, .string ⟨#[]⟩, .string ⟨#[]⟩, .int .u64 0, .slice a l.length c], .bool true]) ∧ NodeIn w' (· < w'.heap.size) (.mk 39 ⟨#[]⟩ ⟨#[]⟩ 0 (l.map MagP.tree)) (nodeU 39 ⟨#[]⟩ ⟨#[]⟩ 0 a l.length c) ∧ Below w.heap.size w w'

theorem span_keep {w w7 w8 : World} {t : List MagP} {a : Option Addr} {c n : Nat} (hlt : w.heap.size + 1 < w7.heap.size) (h : NodeIn w8 (fun k => w7.heap.size ≤ k ∧ k < w8.heap.size) (spanT ((t.map MagP.dur).map wrapM)) (nodeU 39 ⟨#[]⟩ ⟨#[]⟩ 0 a n c)) {v0 v1 v2 v3 v4 v5 : Value} :
    NodeIn ((((((w8.setCell ⟨w.heap.size, 0, none⟩ v0).setCell ⟨w.heap.size, 1, none⟩ v1).setCell ⟨w.heap.size, 2, none⟩ v2).setCell ⟨w.heap.size, 3, none⟩ v3).setCell ⟨w.heap.size, 4, none⟩ v4).setCell ⟨w.heap.size + 1, 0, none⟩ v5)
      (· < ((((((w8.setCell ⟨w.heap.size, 0, none⟩ v0).setCell ⟨w.heap.size, 1, none⟩ v1).setCell ⟨w.heap.size, 2, none⟩ v2).setCell ⟨w.heap.size, 3, none⟩ v3).setCell ⟨w.heap.size, 4, none⟩ v4).setCell ⟨w.heap.size + 1, 0, none⟩ v5).heap.size) (.mk 39 ⟨#[]⟩ ⟨#[]⟩ 0 (t.map MagP.tree)) (nodeU 39 ⟨#[]⟩ ⟨#[]⟩ 0 a n c) := by
  rw [span_tree] at h
  have hsz : ((((((w8.setCell ⟨w.heap.size, 0, none⟩ v0).setCell ⟨w.heap.size, 1, none⟩ v1).setCell ⟨w.heap.size, 2, none⟩ v2).setCell ⟨w.heap.size, 3, none⟩ v3).setCell ⟨w.heap.size, 4, none⟩ v4).setCell ⟨w.heap.size + 1, 0, none⟩ v5).heap.size = w8.heap.size := by simp [World.setCell]
  rw [hsz]
  refine NodeIn.mono (B := fun k => w7.heap.size ≤ k ∧ k < w8.heap.size) (fun b hb => hb.2) (NodeIn.keep (w := w8) (fun b hb => ?_) h)
  rw [Below.heap_setCell _ _ _ _ (by show b ≠ w.heap.size + 1; omega), Below.heap_setCell _ _ _ _ (by show b ≠ w.heap.size; omega), Below.heap_setCell _ _ _ _ (by show b ≠ w.heap.size; omega), Below.heap_setCell _ _ _ _ (by show b ≠ w.heap.size; omega), Below.heap_setCell _ _ _ _ (by show b ≠ w.heap.size; omega), Below.heap_setCell _ _ _ _ (by show b ≠ w.heap.size; omega)]

set_option maxHeartbeats 4000000 in
set_option maxRecDepth 100000 in
theorem bufDurationLiteral_any (g L c q size p0 p1 : Nat) (bs : List UInt8) (hr : rd bs 0 4 = q) (hq : LeafQ bs q size p0 p1) (t : List MagP) (hl1000 : t.length ≤ 1000) (ht : SpanRef t bs (q + p1)) (w : World) (h : RowAt g L c bs w) :
    Calls Tryz.prog 12 #[.slice (some ⟨g, 0, none⟩) L c] w (SpanRes t w) := by
  obtain ⟨i0, hi, hz0, hz1, hz2⟩ := byte_info
  have hb1 := (Below.refl w.heap.size w).alloc (Nat.le_refl _) (.cells #[.int .i64 0, .string ⟨#[]⟩, .string ⟨#[]⟩, .int .u64 0, .slice none 0 0] 25)
  have hb2 := hb1.alloc hb1.size (.cells #[.bool false] 4)
  have hb3 := hb2.alloc hb2.size (.cells #[] 5)
  have hs1 : (w.alloc (.cells #[.int .i64 0, .string ⟨#[]⟩, .string ⟨#[]⟩, .int .u64 0, .slice none 0 0] 25)).heap.size = w.heap.size + 1 := alloc_size _ _
  have hs2 : ((w.alloc (.cells #[.int .i64 0, .string ⟨#[]⟩, .string ⟨#[]⟩, .int .u64 0, .slice none 0 0] 25)).alloc (.cells #[.bool false] 4)).heap.size = w.heap.size + 1 + 1 := by rw [alloc_size, hs1]
  have hown0 := own_empty ((w.alloc (.cells #[.int .i64 0, .string ⟨#[]⟩, .string ⟨#[]⟩, .int .u64 0, .slice none 0 0] 25)).alloc (.cells #[.bool false] 4)) 5 w.heap.size hb2.size
  rw [hs2] at hown0
  have hn0 : (((w.alloc (.cells #[.int .i64 0, .string ⟨#[]⟩, .string ⟨#[]⟩, .int .u64 0, .slice none 0 0] 25)).alloc (.cells #[.bool false] 4)).alloc (.cells #[] 5)).heap[w.heap.size]? = _ :=
    (Below.heap_alloc _ _ _ (by rw [hs2]; omega)).trans ((Below.heap_alloc _ _ _ (by rw [hs1]; omega)).trans (heap_alloc_new w _))
  have hn1 : (((w.alloc (.cells #[.int .i64 0, .string ⟨#[]⟩, .string ⟨#[]⟩, .int .u64 0, .slice none 0 0] 25)).alloc (.cells #[.bool false] 4)).alloc (.cells #[] 5)).heap[w.heap.size + 1]? = some (.cells #[.bool false] 4 (0, 0)) := by
    rw [Below.heap_alloc _ _ _ (by rw [hs2]; omega), ← hs1]
    exact heap_alloc_new _ _
  have hnews : ∀ (j : Nat) u, (Lib.byteCells bs)[j]? = some u → (((w.alloc (.cells #[.int .i64 0, .string ⟨#[]⟩, .string ⟨#[]⟩, .int .u64 0, .slice none 0 0] 25)).alloc (.cells #[.bool false] 4)).alloc (.cells #[] 5)).cell? ((⟨g, 0, none⟩ : Addr).add j) = some u := fun j u hu => by
    have h1 := row_bytes h.row j u hu
    rw [show (⟨g, 0, none⟩ : Addr).add j = ⟨g, j, none⟩ by unfold Addr.add; split <;> simp_all] at h1 ⊢
    exact (hb3.cell (p := ⟨g, j, none⟩) h.gl).trans h1
  have hbig := h.big
  have hlen := h.len
  have hend := hq.vt.2.2.2.2
  have hs4 := hq.s4
  have hL0 : 0 < L := by omega
  have hL4 : 4 ≤ L := by omega
  have hqL : q ≤ L := by omega
  have hmx : 0 + L ≤ maxLen := by unfold maxLen; omega
  have hbl : (0 + L) * 1 ≤ 140737488355328 := by omega
  have HQ := Lib.hid hq
  have HT := Lib.hid ht
  have HB3 := Lib.hid hb3
  have HN0 := Lib.hid hn0
  have HN1 := Lib.hid hn1
  have HR := Lib.hid hr
  have HOW := Lib.hid hown0
  have HNW := Lib.hid hnews
  have HL := Lib.hid hlen
  clear hr hq ht h hb1 hb2 hb3 hs1 hs2 hn0 hn1 hown0 hnews hlen hend hs4
  go_enter_defers Tryz.func12, Tryz.ntmps12
  go_wp2_with (at_builtin; refine wpList_append_own2 rfl _ _ 30 rfl w.heap.size 5 i0 _ 1 1 Tryz.underlying30 hi hz0 hz1 hz2 rfl (by decide) _ _ _ rfl HOW.out ⟨g, 0, none⟩ L c (Lib.byteCells bs) rfl ?c0 HNW.out (byteCells_one bs) hmx hbl ?c3 ?_)
  case c0 => rw [Lib.byteCells_length, HL.out, Nat.mul_one]
  case c3 => exact HB3.out.size
  intro v' w5 hown' hgrow _

  have hb5 := HB3.out.grown hgrow HB3.out.size (fun k e => (HOW.out.lt k e).1)
  have hn5 := (hgrow.block _ (Array.getElem?_eq_some_iff.1 HN0.out).1 (by intro e; have e2 : w.heap.size = w.heap.size + 1 + 1 := Option.some.inj e; omega)).trans HN0.out
  have hm5 := (hgrow.block _ (Array.getElem?_eq_some_iff.1 HN1.out).1 (by intro e; have e2 : w.heap.size + 1 = w.heap.size + 1 + 1 := Option.some.inj e; omega)).trans HN1.out
  obtain ⟨g5, c5, rfl, hg5, hc5, hlt5⟩ := row_form hown' (by omega)
  have hr5 : RowAt g5 L c5 bs w5 := ⟨bytes_row (hown'.cells (g := g5) rfl), HL.out, hc5, hbig, hlt5⟩
  have HG := Lib.hid (rootDurationLiteral g5 L c5 q bs HR.out hqL hL4 w5 hr5)
  have HB5 := Lib.hid hb5
  have HN5 := Lib.hid hn5
  have HM5 := Lib.hid hm5
  clear hown' hgrow hb5 hn5 hm5 hr5 HNW HOW HN0 HN1 HB3
  go_wp2_with fail
  ((with_reducible refine HG.out.mono ?_))
  rintro e w6 ⟨r6, rfl, hr6, ht6, hb6⟩
  have HF := Lib.hid (fromDurationLiteral_any r6 g5 L c5 q size p0 p1 bs HQ.out t hl1000 HT.out w6 ht6)
  have HB6 := Lib.hid (HB5.out.trans (hb6.mono HB5.out.size))
  have HN6 := Lib.hid ((hb6.block _ (Array.getElem?_eq_some_iff.1 HN5.out).1).trans HN5.out)
  have HM6 := Lib.hid ((hb6.block _ (Array.getElem?_eq_some_iff.1 HM5.out).1).trans HM5.out)
  clear hb6 ht6 hr6
  go_wp2_with fail
  ((with_reducible refine HF.out.mono ?_))
  rintro e w7 ⟨r7, V7, rfl, hr7, hrow7, hown7, hb7⟩
  have HD := Lib.hid (nodeDuration r7 w6.heap.size _ (t.map MagP.dur) (by simpa using hl1000) (span_units t) w7 hrow7 hown7)
  have HB7 := Lib.hid (HB6.out.trans (hb7.mono HB6.out.size))
  have HN7 := Lib.hid ((hb7.block _ (Array.getElem?_eq_some_iff.1 HN6.out).1).trans HN6.out)
  have HM7 := Lib.hid ((hb7.block _ (Array.getElem?_eq_some_iff.1 HM6.out).1).trans HM6.out)
  clear hb7 hrow7 hown7 hr7
  go_wp2_with fail
  ((with_reducible refine HD.out.mono ?_))
  rintro e w8 ⟨ak, ck, rfl, hnode8, hb8⟩
  have HNO := Lib.hid hnode8
  have HLT7 : Hid (w.heap.size + 1 < w7.heap.size) := Lib.hid (Array.getElem?_eq_some_iff.1 HM7.out).1
  rw [List.length_map]
  unfold nodeU
  have HB8 := Lib.hid (HB7.out.trans (hb8.mono HB7.out.size))
  have hn8 : w8.heap[w.heap.size]? = some (.cells #[.int .i64 0, .string ⟨#[]⟩, .string ⟨#[]⟩, .int .u64 0, .slice none 0 0] 25 (0, 0)) := (hb8.block _ (Array.getElem?_eq_some_iff.1 HN7.out).1).trans HN7.out
  have hm8 : w8.heap[w.heap.size + 1]? = some (.cells #[.bool false] 4 (0, 0)) := (hb8.block _ (Array.getElem?_eq_some_iff.1 HM7.out).1).trans HM7.out
  have z0 : w8.cell? ⟨w.heap.size, 0, none⟩ = some (.int .i64 0) := by rw [Lib.cell_of_heap hn8]; rfl
  have z1 : w8.cell? ⟨w.heap.size, 1, none⟩ = some (.string ⟨#[]⟩) := by rw [Lib.cell_of_heap hn8]; rfl
  have z2 : w8.cell? ⟨w.heap.size, 2, none⟩ = some (.string ⟨#[]⟩) := by rw [Lib.cell_of_heap hn8]; rfl
  have z3 : w8.cell? ⟨w.heap.size, 3, none⟩ = some (.int .u64 0) := by rw [Lib.cell_of_heap hn8]; rfl
  have z4 : w8.cell? ⟨w.heap.size, 4, none⟩ = some (.slice none 0 0) := by rw [Lib.cell_of_heap hn8]; rfl
  have zz : w8.cell? ⟨w.heap.size + 1, 0, none⟩ = some (.bool false) := by rw [Lib.cell_of_heap hm8]; rfl
  have y0 := Lib.frozen_of_heap hn8 0
  have y1 := Lib.frozen_of_heap hn8 1
  have y2 := Lib.frozen_of_heap hn8 2
  have y3 := Lib.frozen_of_heap hn8 3
  have y4 := Lib.frozen_of_heap hn8 4
  have yy := Lib.frozen_of_heap hm8 0
  have HN8 := Lib.hid hn8
  have HM8 := Lib.hid hm8
  clear hb8 hn8 hm8 hnode8
  go_wp2_with fail
  obtain ⟨u0, u1, u2⟩ := impl_end HB8.out HN8.out HM8.out (.int .i64 39) (.string ⟨#[]⟩) (.string ⟨#[]⟩) (.int .u64 0) (.slice ak t.length ck) (.bool true)
  have u3 := span_keep (t := t) (a := ak) (c := ck) (n := t.length) HLT7.out (by simpa using HNO.out) (v0 := .int .i64 39) (v1 := .string ⟨#[]⟩) (v2 := .string ⟨#[]⟩) (v3 := .int .u64 0) (v4 := .slice ak t.length ck) (v5 := .bool true)
  generalize ((((((w8.setCell ⟨w.heap.size, 0, none⟩ (.int .i64 39)).setCell ⟨w.heap.size, 1, none⟩ (.string ⟨#[]⟩)).setCell ⟨w.heap.size, 2, none⟩ (.string ⟨#[]⟩)).setCell ⟨w.heap.size, 3, none⟩ (.int .u64 0)).setCell ⟨w.heap.size, 4, none⟩ (.slice ak t.length ck)).setCell ⟨w.heap.size + 1, 0, none⟩ (.bool true)) = F at *
  have hpost : SpanRes t w (.returned (.tuple #[.agg #[.int .i64 39, .string ⟨#[]⟩, .string ⟨#[]⟩, .int .u64 0, .slice ak t.length ck], .bool true])) F := ⟨ak, ck, rfl, u3, u2⟩
  have HU2 := Lib.hid hpost
  clear hpost u3
  refine leaves_cons (f := 16) (args := #[.pointer (some ⟨w.heap.size, 0, none⟩), .pointer (some ⟨w.heap.size + 1, 0, none⟩)]) (by simp) (by simp [go_sem]) ?_
  refine (noNode_idle (some ⟨w.heap.size, 0, none⟩) (some ⟨w.heap.size + 1, 0, none⟩) F).mono ?_
  rintro e u' w'' ⟨rfl, rfl, rfl⟩
  have q0 : w''.cell? ⟨w.heap.size, 0, none⟩ = some (.int .i64 39) := by rw [Lib.cell_of_heap u0]; rfl
  have q1 : w''.cell? ⟨w.heap.size, 1, none⟩ = some (.string ⟨#[]⟩) := by rw [Lib.cell_of_heap u0]; rfl
  have q2 : w''.cell? ⟨w.heap.size, 2, none⟩ = some (.string ⟨#[]⟩) := by rw [Lib.cell_of_heap u0]; rfl
  have q3 : w''.cell? ⟨w.heap.size, 3, none⟩ = some (.int .u64 0) := by rw [Lib.cell_of_heap u0]; rfl
  have q4 : w''.cell? ⟨w.heap.size, 4, none⟩ = some (.slice ak t.length ck) := by rw [Lib.cell_of_heap u0]; rfl
  have q5 : w''.cell? ⟨w.heap.size + 1, 0, none⟩ = some (.bool true) := by rw [Lib.cell_of_heap u1]; rfl
  clear u0 u1 u2
  generalize SpanRes t w = PP at HU2
  simp [Leaves, settle, results, Tryz.results12, go_sem, q0, q1, q2, q3, q4, q5]
  exact HU2.out


end Go.Proofs.YtdillheepidncaaGreatDoor
