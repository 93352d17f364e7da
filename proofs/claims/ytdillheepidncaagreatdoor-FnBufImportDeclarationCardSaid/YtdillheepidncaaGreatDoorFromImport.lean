/- ast: imports out of flatbuffers. -/
import Derived.Test.YtdillheepidncaaGreatDoorImportName
namespace Go.Proofs.YtdillheepidncaaGreatDoor
open Go Go.RowKit
set_option linter.unusedVariables false
set_option linter.unusedSimpArgs false

/-- An import with a name or none, and a path. -/
def ImportTree (x : Option ByteArray) (y : ByteArray) (w : World) (e : Ending) (w' : World) : Prop :=
  ∃ (r : Nat) (ad : Option Addr) (g : Nat), e = .returned (.pointer (some ⟨r, 0, none⟩)) ∧ w.heap.size ≤ r ∧ w'.heap[r]? = some (.cells #[.pointer none, .slice none 0 0, .slice none 0 0, .pointer ad, .pointer (some ⟨g, 0, none⟩)] 61 (0, 0)) ∧
    (match x with
    | none => ad = none
    | some x => ∃ gx : Nat, ad = some ⟨gx, 0, none⟩ ∧ w'.heap[gx]? = some (.cells #[.pointer none, .slice none 0 0, .slice none 0 0, .string x] 96 (0, 0))) ∧ w'.heap[g]? = some (.cells #[.pointer none, .slice none 0 0, .slice none 0 0, .string y] 99 (0, 0)) ∧ Below w.heap.size w w'

theorem baseNodeImport_any (b g L c p size p0 p1 p2 : Nat) (bs : List UInt8) (hq : NodeQ bs p size [p0, p1, p2]) (w : World) (h : TabAt b g L c p bs w) :
    Calls Tryz.prog 61 #[.pointer (some ⟨b, 0, none⟩), .pointer none] w (BasePost g L c bs w) := by
  rcases hq.base with h0 | ⟨h1, h2, q, q1, q2, q3, q4⟩
  · refine (baseNodeImportDeclaration_none b g L c p bs size [p0, p1, p2] hq.vt hq.s4 hq.few (fun _ => h0) w h).mono ?_
    rintro e w' ⟨rfl, hm⟩
    exact ⟨none, rfl, reads_below hm, .inl rfl⟩
  · refine (baseNodeImportDeclaration_there b g L c p bs size [p0, p1, p2] hq.vt hq.s4 hq.few (by show 0 < 3; omega) p0 rfl h1 h2 q q1 q2 q3 w h).mono ?_
    rintro e w' ⟨r, rfl, hr, ht, hb⟩
    exact ⟨_, rfl, hb, .inr ⟨r, q, rfl, hr, ht, q4⟩⟩

/-- A reader of a name, or nil. -/
def AsPost (x : Option ByteArray) (g L c : Nat) (bs : List UInt8) (w : World) (e : Ending) (w' : World) : Prop :=
  ∃ ad, e = .returned (.pointer ad) ∧ Below w.heap.size w w' ∧ (match x with
    | none => ad = none
    | some x => ∃ r q : Nat, ad = some ⟨r, 0, none⟩ ∧ TabAt r g L c q bs w' ∧ LeafText x bs q)

theorem asImport_any (b g L c p size p0 p1 p2 : Nat) (bs : List UInt8) (x : Option ByteArray) (hq : NodeQ bs p size [p0, p1, p2]) (hx : match x with
    | none => p1 = 0
    | some x => 0 < p1 ∧ p1 < 60000 ∧ KidRef (LeafText x) bs (p + p1)) (w : World) (h : TabAt b g L c p bs w) :
    Calls Tryz.prog 62 #[.pointer (some ⟨b, 0, none⟩), .pointer none] w (AsPost x g L c bs w) := by
  cases x with
  | none =>
    refine (asImportDeclaration_none b g L c p bs size [p0, p1, p2] hq.vt hq.s4 hq.few (fun _ => hx) w h).mono ?_
    rintro e w' ⟨rfl, hm⟩
    exact ⟨none, rfl, reads_below hm, rfl⟩
  | some x =>
    obtain ⟨h1, h2, q, q1, q2, q3, q4⟩ := hx
    refine (asImportDeclaration_there b g L c p bs size [p0, p1, p2] hq.vt hq.s4 hq.few (by show 1 < 3; omega) p1 rfl h1 h2 q q1 q2 q3 w h).mono ?_
    rintro e w' ⟨r, rfl, hr, ht, hb⟩
    exact ⟨_, rfl, hb, r, q, rfl, ht, q4⟩

set_option maxHeartbeats 8000000 in
set_option maxRecDepth 100000 in
theorem fromImport_any (b g L c p size p0 p1 p2 : Nat) (bs : List UInt8) (hq : NodeQ bs p size [p0, p1, p2]) (x : Option ByteArray) (y : ByteArray) (hx : match x with
    | none => p1 = 0
    | some x => 0 < p1 ∧ p1 < 60000 ∧ KidRef (LeafText x) bs (p + p1)) (h20 : 0 < p2) (h21 : p2 < 60000) (hy : KidRef (LeafText y) bs (p + p2)) (w : World) (h : TabAt b g L c p bs w) :
    Calls Tryz.prog 23 #[.agg #[.pointer none, .slice none 0 0, .slice none 0 0, .pointer none, .pointer none], .pointer (some ⟨b, 0, none⟩)] w (ImportTree x y w) := by
  obtain ⟨q, k1, k2, k3, sz2, s0, s1, k4, k5⟩ := hy
  have HAS := Lib.hid (fun W (hW : TabAt b g L c p bs W) => asImport_any b g L c p size p0 p1 p2 bs x hq hx W hW)
  have HG := Lib.hid (fun W (hW : TabAt b g L c p bs W) => pathImportDeclaration_there b g L c p bs size [p0, p1, p2] hq.vt hq.s4 hq.few (by show 2 < 3; omega) p2 rfl h20 h21 q k1 k2 k3 W hW)
  have HK := Lib.hid (fun W r (hW : TabAt r g L c q bs W) => fromStringLiteral_any r g L c q sz2 s0 s1 bs k4 y k5 W hW)
  have hb0 := (Below.refl _ w).alloc (Nat.le_refl _) (.cells #[.pointer none, .slice none 0 0, .slice none 0 0, .pointer none, .pointer none] 61)
  have hr0 := heap_alloc_new w (.cells #[.pointer none, .slice none 0 0, .slice none 0 0, .pointer none, .pointer none] 61)
  have HBN := Lib.hid (fun W (hW : TabAt b g L c p bs W) => baseNodeImport_any b g L c p size p0 p1 p2 bs hq W hW)
  have HR0 := Lib.hid (h.below hb0)
  have HB0 := Lib.hid hb0
  have HW0 := Lib.hid hr0
  have hbb := h.bl
  have hgg := h.gl
  clear h hq hb0 hr0 k1 k2 k3 k4 k5 hx
  go_enter Tryz.func23, Tryz.ntmps23
  go_wp2_with fail
  ((with_reducible refine (HBN.out _ HR0.out).mono ?_))
  rintro e w1 ⟨ad, rfl, hb1, had⟩
  have hsz0 : (w.alloc (.cells #[.pointer none, .slice none 0 0, .slice none 0 0, .pointer none, .pointer none] 61)).heap.size = w.heap.size + 1 := by simp
  have HB1 := Lib.hid (HB0.out.trans (hb1.mono HB0.out.size))
  have HR1 := Lib.hid (HR0.out.below hb1)
  have hr1 : w1.heap[w.heap.size]? = _ := (hb1.block _ (Array.getElem?_eq_some_iff.1 HW0.out).1).trans HW0.out
  have HA := Lib.hid (base_any w.heap.size _ _ g L c bs ad w1 (had.imp id fun ⟨r, q', h1, h2, h3, h4⟩ => ⟨r, q', h1, by omega, h3, h4⟩) hr1 rfl (by omega))
  have HW1 := Lib.hid hr1
  clear hb1 had hr1 hsz0
  go_wp2_with fail
  ((with_reducible refine HA.out.mono ?_))
  rintro e w3 ⟨rfl, hb3⟩
  have HB3 := Lib.hid (HB1.out.trans (hb3.mono HB1.out.size))
  have HR3 := Lib.hid (HR1.out.below hb3)
  have HW3 : Hid (w3.heap[w.heap.size]? = some (.cells #[.pointer none, .slice none 0 0, .slice none 0 0, .pointer none, .pointer none] 61 (0, 0))) := Lib.hid ((hb3.block _ (Array.getElem?_eq_some_iff.1 HW1.out).1).trans HW1.out)
  clear hb3
  go_wp2_with fail
  ((with_reducible refine (HAS.out _ HR3.out).mono ?_))
  rintro e w4 ⟨ad4, rfl, hb4, hn4⟩
  have HB4 := Lib.hid (HB3.out.trans (hb4.mono HB3.out.size))
  have HR4 := Lib.hid (HR3.out.below hb4)
  have HW4 : Hid (w4.heap[w.heap.size]? = some (.cells #[.pointer none, .slice none 0 0, .slice none 0 0, .pointer none, .pointer none] 61 (0, 0))) := Lib.hid ((hb4.block _ (Array.getElem?_eq_some_iff.1 HW3.out).1).trans HW3.out)
  have HN4 := Lib.hid (name_of x g L c bs ad4 w4 hn4)
  clear hb4 hn4
  go_wp2_with fail
  ((with_reducible refine HN4.out.mono ?_))
  rintro e w5 ⟨ad5, rfl, hb5, hn5⟩
  have HB5 := Lib.hid (HB4.out.trans (hb5.mono HB4.out.size))
  have HR5 := Lib.hid (HR4.out.below hb5)
  have hr5 : w5.heap[w.heap.size]? = some (.cells #[.pointer none, .slice none 0 0, .slice none 0 0, .pointer none, .pointer none] 61 (0, 0)) := (hb5.block _ (Array.getElem?_eq_some_iff.1 HW4.out).1).trans HW4.out
  have hlt4 := (Array.getElem?_eq_some_iff.1 HW4.out).1
  have hlt5 := (Array.getElem?_eq_some_iff.1 hr5).1
  have c3 : w5.cell? ⟨w.heap.size, 3, none⟩ = some (.pointer none) := by rw [Lib.cell_of_heap hr5]; rfl
  have f3 := Lib.frozen_of_heap hr5 3
  have hb6 : Below w.heap.size w5 (w5.setCell ⟨w.heap.size, 3, none⟩ (.pointer ad5)) := Below.setCell (p := ⟨w.heap.size, 3, none⟩) ⟨rfl, rfl, rfl, Nat.le_refl _, fun _ _ => rfl⟩ (Nat.le_refl _) _
  have HW6 := Lib.hid (row_setG hr5 3 (.pointer ad5))
  have HB6 := Lib.hid (HB5.out.setCell (p := ⟨w.heap.size, 3, none⟩) (Nat.le_refl _) (.pointer ad5))
  have hR6 : TabAt b g L c p bs (w5.setCell ⟨w.heap.size, 3, none⟩ (.pointer ad5)) := by
    have hh := HR5.out
    have hs : (w5.setCell ⟨w.heap.size, 3, none⟩ (.pointer ad5)).heap.size = w5.heap.size := by simp [World.setCell]
    exact ⟨(hb6.cell (p := ⟨b, 0, none⟩) hbb).trans hh.c0, (hb6.cell (p := ⟨b, 1, none⟩) hbb).trans hh.c1, fun i hi => (hb6.cell (p := ⟨g, i, none⟩) hgg).trans (hh.row i hi), hh.len, hh.cap, hh.big, by rw [hs]; exact hh.gl, by rw [hs]; exact hh.bl⟩
  have HR6 := Lib.hid hR6
  have HN6 := Lib.hid (name_keep (n := w4.heap.size) (w' := w5.setCell ⟨w.heap.size, 3, none⟩ (.pointer ad5)) hn5 fun r u hr e => (Below.heap_setCell _ _ _ _ (by show r ≠ w.heap.size; omega)).trans e)
  have hs6 : (w5.setCell ⟨w.heap.size, 3, none⟩ (.pointer ad5)).heap.size = w5.heap.size := by simp [World.setCell]
  clear hb5 hn5 hr5 hb6 hR6
  go_wp2_with fail
  ((with_reducible refine (HG.out _ HR6.out).mono ?_))
  rintro e w7 ⟨r7, rfl, hr7, ht7, hb7⟩
  have HB7 := Lib.hid (HB6.out.trans (hb7.mono HB6.out.size))
  have HT7 := Lib.hid ht7
  have HW7 := Lib.hid ((hb7.block _ (Array.getElem?_eq_some_iff.1 HW6.out).1).trans HW6.out)
  have HN7 := Lib.hid (name_keep (w' := w7) HN6.out fun r u hr e => (hb7.block r (Array.getElem?_eq_some_iff.1 e).1).trans e)
  clear hb7 ht7 hr7 c3 f3
  go_wp2_with fail
  ((with_reducible refine (HK.out _ _ HT7.out).mono ?_))
  rintro e w8 ⟨g8, rfl, hg8, hrow8, hb8⟩
  have HB8 := Lib.hid (HB7.out.trans (hb8.mono HB7.out.size))
  have hr8 := (hb8.block _ (Array.getElem?_eq_some_iff.1 HW7.out).1).trans HW7.out
  have hne : g8 ≠ w.heap.size := by
    have h1 := (Array.getElem?_eq_some_iff.1 HW7.out).1
    omega
  have c4 : w8.cell? ⟨w.heap.size, 4, none⟩ = some (.pointer none) := by rw [Lib.cell_of_heap hr8]; rfl
  have f4 := Lib.frozen_of_heap hr8 4
  have HN8 := Lib.hid (name_keep (w' := w8.setCell ⟨w.heap.size, 4, none⟩ (.pointer (some ⟨g8, 0, none⟩))) HN7.out fun r u hr e => (Below.heap_setCell _ _ _ _ (by show r ≠ w.heap.size; omega)).trans ((hb8.block r (Array.getElem?_eq_some_iff.1 e).1).trans e))
  have HW9 := Lib.hid (row_setG hr8 4 (.pointer (some ⟨g8, 0, none⟩)))
  have HB9 := Lib.hid (HB8.out.setCell (p := ⟨w.heap.size, 4, none⟩) (Nat.le_refl _) (.pointer (some ⟨g8, 0, none⟩)))
  have HK9 := Lib.hid ((Below.heap_setCell w8 ⟨w.heap.size, 4, none⟩ (.pointer (some ⟨g8, 0, none⟩)) _ hne).trans hrow8)
  clear hb8 hr8 hrow8 hg8 hne
  go_wp2
  go_ret
  refine ⟨_, ad5, g8, rfl, Nat.le_refl _, HW9.out, ?_, HK9.out, HB9.out⟩
  have hn := HN8.out
  cases x with
  | none => exact hn
  | some x =>
    obtain ⟨gx, h1, _, h3⟩ := hn
    exact ⟨gx, h1, h3⟩

end Go.Proofs.YtdillheepidncaaGreatDoor
