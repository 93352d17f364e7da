/- ast: durations' literals out of flatbuffers. -/
import Derived.Test.YtdillheepidncaaGreatDoorFromDur
import Derived.Test.YtdillheepidncaaGreatDoorSpanTree
namespace Go.Proofs.YtdillheepidncaaGreatDoor
open Go Go.RowKit
set_option linter.unusedVariables false
set_option linter.unusedSimpArgs false

/-- A magnitude's number and unit, as they are written. -/
structure MagP where
  num : Nat
  ix : Nat
  hn : num < 18446744073709551616
  h10 : ix < 10

def MagP.unit (x : MagP) : ByteArray := unitTexts[x.ix]'x.h10
def MagP.part (x : MagP) : PartQ := ⟨magB x.num x.ix, 100, MagQ x.num x.ix⟩
/-- .. as it is read. -/
def MagP.dur (x : MagP) : Int × ByteArray := (sgn x.num, x.unit)
def MagP.tree (x : MagP) : Tr := .mk 40 x.unit ⟨#[]⟩ x.num []

/-- What refers to magnitudes says. -/
def SpanRef (l : List MagP) (bs : List UInt8) (p : Nat) : Prop := ∃ tv, p ≤ tv ∧ rd bs p 4 = tv - p ∧ VecQ (l.map MagP.part) bs tv

theorem dur_made : (Tryz.prog.info? 267).map (fun i => (i.zero, i.size, i.bytes)) = some (some (.agg #[.int .i64 0, .string ⟨#[]⟩]), 2, 24) := by kernel_rfl

theorem make_durs (N : Nat) (hN : N < 100000) (W : World) : (Instr.makeSlice 66 (.int .i64 N) (.int .i64 N)).run Tryz.prog W = .ok (.slice (some ⟨W.heap.size, 0, none⟩) N N) (W.alloc (.cells (madeCells #[.int .i64 0, .string ⟨#[]⟩] (N * 2)) 267)) := by
  obtain ⟨i0, hi, hz0, hz1, hz2⟩ := info_parts dur_made
  have := run_make W 66 267 i0 _ Tryz.underlying66 hi hz0 .i64 .i64 N N (by omega) (Int.le_refl _) (by rw [hz2]; omega) (by omega)
  rw [this, hz1, Int.toNat_natCast]
  rfl

theorem tab_made_drew {g L c : Nat} {bs : List UInt8} {w : World} (h : RowAt g L c bs w) (m p : Nat) (x0 x1 : Value) (T : TypeId) :
    TabAt w.heap.size g L c p bs (initW ((w.alloc (.cells #[x0, x1] T)).drewN m) w.heap.size (.slice (some ⟨g, 0, none⟩) L c) p) ∧ Below w.heap.size w (initW ((w.alloc (.cells #[x0, x1] T)).drewN m) w.heap.size (.slice (some ⟨g, 0, none⟩) L c) p) := by
  obtain ⟨h1, h2⟩ := tab_made h p x0 x1 T
  exact ⟨⟨h1.c0, h1.c1, h1.row, h1.len, h1.cap, h1.big, h1.gl, h1.bl⟩, ⟨h2.os, h2.tape, h2.output, h2.size, h2.block⟩⟩

/-- A duration's literal while its magnitudes are read. -/
structure SpanIn (w : World) (b g L c p V : Nat) (bs : List UInt8) (l : List MagP) (k : Nat) (W : World) : Prop where
  tab : TabAt b g L c p bs W
  row : W.heap[w.heap.size]? = some (.cells #[.pointer none, .slice none 0 0, .slice none 0 0, .slice (some ⟨V, 0, none⟩) l.length l.length] 68 (0, 0))
  vec : ∃ cur : Array Value, W.heap[V]? = some (.cells cur 267 (0, 0)) ∧ cur.size = l.length * 2 ∧ ∀ i (h : i < l.length), i < k → cur[i * 2]? = some (.int .i64 (sgn l[i].num)) ∧ cur[i * 2 + 1]? = some (.string l[i].unit)
  bel : Below w.heap.size w W
  nb : b < w.heap.size
  ng : g < w.heap.size
  nv : w.heap.size < V

theorem SpanIn.below {w : World} {b g L c p V : Nat} {bs : List UInt8} {l : List MagP} {k : Nat} {W W' : World} (h : SpanIn w b g L c p V bs l k W) (hb : Below W.heap.size W W') : SpanIn w b g L c p V bs l k W' := by
  obtain ⟨cur, v1, v2, v3⟩ := h.vec
  exact ⟨h.tab.below hb, (hb.block _ (Array.getElem?_eq_some_iff.1 h.row).1).trans h.row, ⟨cur, (hb.block _ (Array.getElem?_eq_some_iff.1 v1).1).trans v1, v2, v3⟩, h.bel.trans (hb.mono h.bel.size), h.nb, h.ng, h.nv⟩

theorem SpanIn.cells {w : World} {b g L c p V : Nat} {bs : List UInt8} {l : List MagP} {k : Nat} {W : World} (h : SpanIn w b g L c p V bs l k W) (hk : k < l.length) : ∃ v0 v1, W.cell? ⟨V, k * 2, none⟩ = some v0 ∧ W.cell? ⟨V, k * 2 + 1, none⟩ = some v1 ∧ W.frozen? ⟨V, k * 2, none⟩ = false ∧ W.frozen? ⟨V, k * 2 + 1, none⟩ = false := by
  obtain ⟨cur, v1, v2, v3⟩ := h.vec
  refine ⟨cur[k * 2]'(by omega), cur[k * 2 + 1]'(by omega), ?_, ?_, Lib.frozen_of_heap v1 _, Lib.frozen_of_heap v1 _⟩
  · rw [Lib.cell_of_heap v1]
    exact Array.getElem?_eq_getElem (by omega)
  · rw [Lib.cell_of_heap v1]
    exact Array.getElem?_eq_getElem (by omega)

theorem SpanIn.put {w : World} {b g L c p V : Nat} {bs : List UInt8} {l : List MagP} {k : Nat} {W : World} (h : SpanIn w b g L c p V bs l k W) (hk : k < l.length) :
    SpanIn w b g L c p V bs l (k + 1) ((W.setCell ⟨V, k * 2, none⟩ (.int .i64 (sgn l[k].num))).setCell ⟨V, k * 2 + 1, none⟩ (.string l[k].unit)) := by
  obtain ⟨cur, v1, v2, v3⟩ := h.vec
  have hV := h.nv
  have hnb := h.nb
  have hng := h.ng
  refine ⟨(h.tab.set V _ _ (by omega) (by omega)).set V _ _ (by omega) (by omega), ?_, ?_, (h.bel.setCell (p := ⟨V, k * 2, none⟩) (Nat.le_of_lt hV) _).setCell (p := ⟨V, k * 2 + 1, none⟩) (Nat.le_of_lt hV) _, hnb, hng, hV⟩
  · exact (Below.heap_setCell _ _ _ _ (by show w.heap.size ≠ V; omega)).trans ((Below.heap_setCell _ _ _ _ (by show w.heap.size ≠ V; omega)).trans h.row)
  · refine ⟨_, row_setG (row_setG v1 (k * 2) _) (k * 2 + 1) _, by simp [v2], fun i hi hik => ?_⟩
    simp only [Array.getElem?_setIfInBounds]
    by_cases e : i = k
    · subst e
      constructor
      · rw [if_neg (by omega), if_pos rfl, if_pos (by omega)]
      · rw [if_pos rfl, if_pos (by simp; omega)]
    · obtain ⟨h1, h2⟩ := v3 i hi (by omega)
      constructor
      · rw [if_neg (by omega), if_neg (by omega)]
        exact h1
      · rw [if_neg (by omega), if_neg (by omega)]
        exact h2

theorem SpanIn.own {w : World} {b g L c p V : Nat} {bs : List UInt8} {l : List MagP} {W : World} (h : SpanIn w b g L c p V bs l l.length W) (hl : l.length ≤ 1000) :
    W.ownsRow w.heap.size 267 2 (.slice (some ⟨V, 0, none⟩) l.length l.length) (l.map MagP.dur).length ((l.map MagP.dur).flatMap durCells) := by
  obtain ⟨cur, v1, v2, v3⟩ := h.vec
  have hlen := rows_length 2 durCells durCells_length (l.map MagP.dur)
  have hll : (l.map MagP.dur).length = l.length := List.length_map ..
  rw [hll] at hlen ⊢
  have hxs : cur.toList = (l.map MagP.dur).flatMap durCells := by
    apply List.ext_getElem?
    intro j
    by_cases hj : j < l.length * 2
    · obtain ⟨i, r, hi, hr, rfl⟩ : ∃ i r, i < l.length ∧ r < 2 ∧ j = i * 2 + r := ⟨j / 2, j % 2, by omega, by omega, by omega⟩
      rw [rows_at 2 durCells durCells_length (l.map MagP.dur) i r (by rw [hll]; exact hi) hr, Array.getElem?_toList]
      obtain ⟨h1, h2⟩ := v3 i hi hi
      have e : (l.map MagP.dur)[i]'(by rw [hll]; exact hi) = (sgn l[i].num, l[i].unit) := by simp [MagP.dur]
      rw [e]
      have hr2 : r = 0 ∨ r = 1 := by omega
      rcases hr2 with rfl | rfl
      · exact h1
      · exact h2
    · rw [List.getElem?_eq_none (by rw [Array.length_toList]; omega), List.getElem?_eq_none (by omega)]
  exact ⟨hlen.symm ▸ rfl, .inr ⟨V, l.length, cur, rfl, Nat.le_of_lt h.nv, v1, Nat.le_refl _, by unfold maxLen; omega, v2, by rw [← v2, ← Array.length_toList, List.take_length]; exact hxs⟩⟩

/-- A duration's literal is made. -/
def SpanMade (l : List MagP) (w : World) (e : Ending) (w' : World) : Prop :=
  ∃ (r V : Nat), e = .returned (.pointer (some ⟨r, 0, none⟩)) ∧ w.heap.size ≤ r ∧ w'.heap[r]? = some (.cells #[.pointer none, .slice none 0 0, .slice none 0 0, .slice (some ⟨V, 0, none⟩) l.length l.length] 68 (0, 0)) ∧
    w'.ownsRow w.heap.size 267 2 (.slice (some ⟨V, 0, none⟩) l.length l.length) (l.map MagP.dur).length ((l.map MagP.dur).flatMap durCells) ∧ Below w.heap.size w w'

theorem baseNodeDurationLiteral_any (b g L c p size p0 p1 : Nat) (bs : List UInt8) (hq : LeafQ bs p size p0 p1) (w : World) (h : TabAt b g L c p bs w) :
    Calls Tryz.prog 66 #[.pointer (some ⟨b, 0, none⟩), .pointer none] w (BasePost g L c bs w) := by
  rcases hq.base with h0 | ⟨h1, h2, q, q1, q2, q3, q4⟩
  · refine (baseNodeDurationLiteral_none b g L c p bs size [p0, p1] hq.vt hq.s4 (by show 2 < 1000; omega) (fun _ => h0) w h).mono ?_
    rintro e w' ⟨rfl, hm⟩
    exact ⟨none, rfl, reads_below hm, .inl rfl⟩
  · refine (baseNodeDurationLiteral_there b g L c p bs size [p0, p1] hq.vt hq.s4 (by show 2 < 1000; omega) (by show 0 < 2; omega) p0 rfl h1 h2 q q1 q2 q3 w h).mono ?_
    rintro e w' ⟨r, rfl, hr, ht, hb⟩
    exact ⟨_, rfl, hb, .inr ⟨r, q, rfl, hr, ht, q4⟩⟩

set_option maxHeartbeats 8000000 in
set_option maxRecDepth 100000 in
theorem fromDurationLiteral_any (b g L c p size p0 p1 : Nat) (bs : List UInt8) (hq : LeafQ bs p size p0 p1) (l : List MagP) (hl : l.length ≤ 1000) (ht : SpanRef l bs (p + p1)) (w : World) (h : TabAt b g L c p bs w) :
    Calls Tryz.prog 25 #[.agg #[.pointer none, .slice none 0 0, .slice none 0 0, .slice none 0 0], .pointer (some ⟨b, 0, none⟩)] w (SpanMade l w) := by
  obtain ⟨tv, t1, t2, t3, t4, t5⟩ := ht
  rw [List.length_map] at t3 t4
  have HLN := Lib.hid (fun W (hW : TabAt b g L c p bs W) => valuesLengthDurationLiteral_there b g L c p bs size [p0, p1] hq.vt hq.s4 (by show 2 < 1000; omega) (by show 1 < 2; omega) p1 rfl hq.l1 hq.h1 tv l.length t1 t2 t3 t4 W hW)
  have HV := Lib.hid (fun (j q : Nat) (hj : j < l.length) (h1 : tv + 4 + 4 * j ≤ q) (h2 : rd bs (tv + 4 + 4 * j) 4 = q - (tv + 4 + 4 * j)) (h3 : q + 4 ≤ bs.length) (r : Nat) (x0 x1 : Value) W (hW : TabAt b g L c p bs W) hr0 => valuesDurationLiteral_there b g L c p bs size [p0, p1] hq.vt hq.s4 (by show 2 < 1000; omega) (by show 1 < 2; omega) p1 rfl hq.l1 hq.h1 tv l.length t1 t2 t3 t4 j q hj h1 h2 h3 r x0 x1 W hW hr0)
  have HT5 : Hid (∀ j (hj : j < l.length), ∃ q, rd bs (tv + 4 + 4 * j) 4 = q - (tv + 4 + 4 * j) ∧ tv + 4 + 4 * j ≤ q ∧ q + 4 ≤ bs.length ∧ MagQ l[j].num l[j].ix bs q) := Lib.hid fun j hj => by
    obtain ⟨q, e1, e2, e3, e4⟩ := t5 j (by rw [List.length_map]; exact hj)
    rw [List.getElem_map] at e4
    exact ⟨q, e1, e2, e3, e4⟩
  have hb0 := (Below.refl _ w).alloc (Nat.le_refl _) (.cells #[.pointer none, .slice none 0 0, .slice none 0 0, .slice none 0 0] 68)
  have hr0 := heap_alloc_new w (.cells #[.pointer none, .slice none 0 0, .slice none 0 0, .slice none 0 0] 68)
  have HBN := Lib.hid (fun W (hW : TabAt b g L c p bs W) => baseNodeDurationLiteral_any b g L c p size p0 p1 bs hq W hW)
  have HR0 := Lib.hid (h.below hb0)
  have HB0 := Lib.hid hb0
  have HW0 := Lib.hid hr0
  have hbb := h.bl
  have hgg := h.gl
  clear h hq hb0 hr0 t1 t2 t3 t4 t5
  go_enter Tryz.func25, Tryz.ntmps25
  go_wp2_with fail
  ((with_reducible refine (HBN.out _ HR0.out).mono ?_))
  rintro e w1 ⟨ad, rfl, hb1, had⟩
  have hsz0 : (w.alloc (.cells #[.pointer none, .slice none 0 0, .slice none 0 0, .slice none 0 0] 68)).heap.size = w.heap.size + 1 := by simp
  have HB1 := Lib.hid (HB0.out.trans (hb1.mono HB0.out.size))
  have HR1 := Lib.hid (HR0.out.below hb1)
  have hr1 : w1.heap[w.heap.size]? = _ := (hb1.block _ (Array.getElem?_eq_some_iff.1 HW0.out).1).trans HW0.out
  have HA := Lib.hid (base_any w.heap.size _ _ g L c bs ad w1 (had.imp id fun ⟨r, q', h1, h2, h3, h4⟩ => ⟨r, q', h1, by omega, h3, h4⟩) hr1 rfl (by omega))
  have HW1 := Lib.hid hr1
  clear hb1 had hr1 hsz0
  go_wp2_with fail
  ((with_reducible refine HA.out.mono ?_))
  rintro e w3 ⟨rfl, hb3⟩
  have HB3 := Lib.hid (HB1.out.trans (hb3.mono HB1.out.size))
  have HR3 := Lib.hid (HR1.out.below hb3)
  have HW3 : Hid (w3.heap[w.heap.size]? = some (.cells #[.pointer none, .slice none 0 0, .slice none 0 0, .slice none 0 0] 68 (0, 0))) := Lib.hid ((hb3.block _ (Array.getElem?_eq_some_iff.1 HW1.out).1).trans HW1.out)
  clear hb3
  go_wp2_with fail
  ((with_reducible refine (HLN.out _ HR3.out).mono ?_))
  rintro e w5 ⟨rfl, hm5⟩
  have hb5 := reads_below hm5
  have HB5 := Lib.hid (HB3.out.trans (hb5.mono HB3.out.size))
  have HR5 := Lib.hid (HR3.out.below hb5)
  have hr5 : w5.heap[w.heap.size]? = some (.cells #[.pointer none, .slice none 0 0, .slice none 0 0, .slice none 0 0] 68 (0, 0)) := (hb5.block _ (Array.getElem?_eq_some_iff.1 HW3.out).1).trans HW3.out
  have hlt5 := (Array.getElem?_eq_some_iff.1 hr5).1
  obtain ⟨MC, hMC⟩ : ∃ MC, MC = madeCells #[.int .i64 0, .string ⟨#[]⟩] (l.length * 2) := ⟨_, rfl⟩
  have hmc : MC.size = l.length * 2 := by rw [hMC, size_madeCells]
  have hmk := make_durs l.length (by omega)
  rw [← hMC] at hmk
  have c3 : (w5.alloc (.cells MC 267)).cell? ⟨w.heap.size, 3, none⟩ = some (.slice none 0 0) := by rw [Lib.cell_of_heap ((Below.heap_alloc _ _ _ hlt5).trans hr5)]; rfl
  have f3 := Lib.frozen_of_heap ((Below.heap_alloc w5 (.cells MC 267) _ hlt5).trans hr5) 3
  have hs5 : (w5.setCell ⟨w.heap.size, 3, none⟩ (.slice (some ⟨w5.heap.size, 0, none⟩) l.length l.length)).heap.size = w5.heap.size := by simp [World.setCell]
  have hv6 := heap_alloc_new (w5.setCell ⟨w.heap.size, 3, none⟩ (.slice (some ⟨w5.heap.size, 0, none⟩) l.length l.length)) (.cells MC 267)
  rw [hs5] at hv6
  have hb6 := (Below.refl _ (w5.setCell ⟨w.heap.size, 3, none⟩ (.slice (some ⟨w5.heap.size, 0, none⟩) l.length l.length))).alloc (Nat.le_refl _) (.cells MC 267)
  have HS0 : Hid (SpanIn w b g L c p w5.heap.size bs l 0 ((w5.setCell ⟨w.heap.size, 3, none⟩ (.slice (some ⟨w5.heap.size, 0, none⟩) l.length l.length)).alloc (.cells MC 267))) := Lib.hid
    ⟨(HR5.out.set _ _ _ (by omega) (by omega)).below hb6, (Below.heap_alloc _ _ _ (by rw [hs5]; exact hlt5)).trans (row_setG hr5 3 _), ⟨MC, hv6, hmc, fun i hi hik => absurd hik (Nat.not_lt_zero _)⟩, (HB5.out.setCell (p := ⟨w.heap.size, 3, none⟩) (Nat.le_refl _) _).trans (hb6.mono (by rw [hs5]; exact HB5.out.size)), hbb, hgg, hlt5⟩
  clear hm5 hb5 hr5 hv6 hb6 hMC hmc hs5
  go_upto_region 3 with fail
  clear hmk c3 f3
  generalize hV : w5.heap.size = V at *
  clear hV
  go_wp2
  generalize (w5.setCell ⟨w.heap.size, 3, none⟩ (.slice (some ⟨V, 0, none⟩) l.length l.length)).alloc (.cells MC 267) = w7 at *
  go_loopw [5] (fun i wr => ∃ k : Nat, k ≤ l.length ∧ i = .int .i64 k ∧ Hid (SpanIn w b g L c p V bs l k wr)) (fun i _ => l.length - (intOf i).toNat)
  case atStart => exact ⟨0, Nat.zero_le _, rfl, HS0⟩
  case round =>
    clear HS0
    obtain ⟨k, hk, rfl, HS⟩ := hrel
    go_wp2_with fail
    ((with_reducible refine (HLN.out _ HS.out.tab).mono ?_))
    rintro e w6 ⟨rfl, hm6⟩
    have HS6 := Lib.hid (HS.out.below (reads_below hm6))
    clear hm6
    by_cases hlt : k < l.length
    · obtain ⟨q, e1, e2, e3, e4⟩ := HT5.out k hlt
      have hba := (Below.refl w6.heap.size w6).alloc (Nat.le_refl _) (.cells #[.slice none 0 0, .int .u32 0] 261)
      have HVA := Lib.hid (HV.out k q hlt e2 e1 e3 w6.heap.size _ _ (w6.alloc (.cells #[.slice none 0 0, .int .u32 0] 261)) (HS6.out.tab.below hba) (heap_alloc_new w6 (.cells #[.slice none 0 0, .int .u32 0] 261)))
      have HTM := Lib.hid (fun m => tab_made_drew HS6.out.tab.rowAt m q (.slice none 0 0) (.int .u32 0) 261)
      have HFD := Lib.hid (fun W (hW : TabAt w6.heap.size g L c q bs W) => fromDuration_any w6.heap.size g L c q l[k].num l[k].ix l[k].h10 l[k].unit rfl bs e4 W hW)
      have HPUT := Lib.hid (fun W (hW : SpanIn w b g L c p V bs l k W) => hW.put hlt)
      clear e1 e2 e3 e4 hba
      generalize l[k].num = mn at *
      generalize l[k].unit = mu at *
      go_wp2_with fail
      ((with_reducible refine HVA.out.mono ?_))
      rintro e w7 ⟨rfl, m7, rfl⟩
      obtain ⟨ht7, hb7⟩ := HTM.out m7
      clear HVA HTM
      generalize initW ((w6.alloc (.cells #[.slice none 0 0, .int .u32 0] 261)).drewN m7) w6.heap.size (.slice (some ⟨g, 0, none⟩) L c) q = w7 at *
      have HS7 := Lib.hid (HS6.out.below hb7)
      have HS7d : Hid (SpanIn w b g L c p V bs l k w7.drew) := Lib.hid (HS7.out.below (Below.refl w7.heap.size w7).drew)
      have HT7 := Lib.hid ht7
      have HT7d : Hid (TabAt w6.heap.size g L c q bs w7.drew) := Lib.hid (ht7.drewN 1)
      obtain ⟨v0, v1, x0, x1, z0, z1⟩ := HS7.out.cells hlt
      have c3 : w7.cell? ⟨w.heap.size, 3, none⟩ = some (.slice (some ⟨V, 0, none⟩) l.length l.length) := by rw [Lib.cell_of_heap HS7.out.row]; rfl
      have hk0 : (0 : Int) ≤ k := by omega
      have hk1 : (k : Int) < l.length := by omega
      clear ht7 hb7 HS6 HS
      go_upto_region 9 with fail
      go_region_held3 (fun w' => w'.cell? ⟨w.heap.size, 3, none⟩ = some (.slice (some ⟨V, 0, none⟩) l.length l.length)) (first | exact c39 | exact k39 | go_keep) (first
        | (go_at_call 70; ((with_reducible refine (HFD.out _ HT7d.out).mono ?_)); rintro e w9 ⟨rfl, hb9⟩; have HS9 := Lib.hid (HS7d.out.below hb9); have c39 : w9.cell? ⟨w.heap.size, 3, none⟩ = some (.slice (some ⟨V, 0, none⟩) l.length l.length) := (by rw [Lib.cell_of_heap HS9.out.row]; rfl); have HN := Lib.hid (HPUT.out _ HS9.out); have k39 : ((w9.setCell ⟨V, k * 2, none⟩ (.int .i64 (sgn mn))).setCell ⟨V, k * 2 + 1, none⟩ (.string mu)).cell? ⟨w.heap.size, 3, none⟩ = some (.slice (some ⟨V, 0, none⟩) l.length l.length) := (by rw [Lib.cell_of_heap HN.out.row]; rfl); obtain ⟨v09, v19, x09, x19, z09, z19⟩ := HS9.out.cells hlt)
        | fail "none")
      all_goals
        clear hb9 k39 c39 x09 x19 z09 z19 x0 x1 z0 z1 c3
        go_wp2
        go_roundw
        case rel => exact ⟨k + 1, by omega, by go_num, HN⟩
        case measure => simp [intOf]; omega
    · have hke : k = l.length := by omega
      subst hke
      have HOW := Lib.hid (HS6.out.own hl)
      go_wp2
      go_ret
      exact ⟨_, V, rfl, Nat.le_refl _, HS6.out.row, HOW.out, HS6.out.bel⟩

end Go.Proofs.YtdillheepidncaaGreatDoor
