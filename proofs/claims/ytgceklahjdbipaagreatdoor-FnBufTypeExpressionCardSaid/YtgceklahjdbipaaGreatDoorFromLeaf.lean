/- ast: nodes of one text or number out of flatbuffers. -/
import Derived.Test.YtgceklahjdbipaaGreatDoorFromBase
import Derived.Test.YtgceklahjdbipaaGreatDoorGetLeaf
namespace Go.Proofs.YtgceklahjdbipaaGreatDoor
open Go Go.RowKit
set_option linter.unusedVariables false
set_option linter.unusedSimpArgs false

/-- What a node's table says of its head and of what all nodes have. -/
structure LeafQ (bs : List UInt8) (p size p0 p1 : Nat) : Prop where
  vt : VtQ size [p0, p1] bs p
  s4 : 4 ≤ size
  l1 : 0 < p1
  h1 : p1 < 60000
  base : p0 = 0 ∨ (0 < p0 ∧ p0 < 60000 ∧ ∃ q, p + p0 ≤ q ∧ rd bs (p + p0) 4 = q - (p + p0) ∧ q + 4 ≤ bs.length ∧ BaseQ2 bs q)

/-- What all nodes have, or nil. -/
def BasePost (g L c : Nat) (bs : List UInt8) (w : World) (e : Ending) (w' : World) : Prop :=
  ∃ ad, e = .returned (.pointer ad) ∧ Below w.heap.size w w' ∧ (ad = none ∨ ∃ r q : Nat, ad = some ⟨r, 0, none⟩ ∧ w.heap.size ≤ r ∧ TabAt r g L c q bs w' ∧ BaseQ2 bs q)

theorem base_any (B : Nat) (cur : Array Value) (T : TypeId) (g L c : Nat) (bs : List UInt8) (ad : Option Addr) (w : World) (had : ad = none ∨ ∃ r q : Nat, ad = some ⟨r, 0, none⟩ ∧ B ≠ r ∧ TabAt r g L c q bs w ∧ BaseQ2 bs q)
    (hB : w.heap[B]? = some (.cells cur T (0, 0))) (h0 : cur[0]? = some (.pointer none)) (hg : B ≠ g) :
    Calls Tryz.prog 55 #[.pointer (some ⟨B, 0, none⟩), .pointer ad] w fun e w' => e = .returned (.tuple #[]) ∧ Below w.heap.size w w' := by
  rcases had with rfl | ⟨r, q, rfl, h1, h2, h3⟩
  · exact base_nil B w
  · exact base_there B cur T r g L c q bs h3 w h2 hB h0 h1 hg

/-- A node is made of what all nodes have, and of one value. -/
def LeafPost (T : TypeId) (v : Value) (w : World) (e : Ending) (w' : World) : Prop :=
  ∃ r, e = .returned (.pointer (some ⟨r, 0, none⟩)) ∧ w.heap.size ≤ r ∧ w'.heap[r]? = some (.cells #[.pointer none, .slice none 0 0, .slice none 0 0, v] T (0, 0)) ∧ Below w.heap.size w w'

/-- Where a text stands that a field refers to. -/
def TextRef (t : ByteArray) (bs : List UInt8) (p : Nat) : Prop := ∃ q, p ≤ q ∧ rd bs p 4 = q - p ∧ TextAt t.data.toList bs q

/-- What the table of a node of one text says. -/
def LeafText (x : ByteArray) (bs : List UInt8) (p : Nat) : Prop := ∃ size p0 p1, LeafQ bs p size p0 p1 ∧ TextRef x bs (p + p1)

/-- What refers to a node says. -/
def KidRef (S : List UInt8 → Nat → Prop) (bs : List UInt8) (p : Nat) : Prop := ∃ q, p ≤ q ∧ rd bs p 4 = q - p ∧ q + 4 ≤ bs.length ∧ S bs q

/-- A node with one node of one text in it. -/
def KidTree (T U : TypeId) (x : ByteArray) (w : World) (e : Ending) (w' : World) : Prop :=
  ∃ r g, e = .returned (.pointer (some ⟨r, 0, none⟩)) ∧ w.heap.size ≤ r ∧ w'.heap[r]? = some (.cells #[.pointer none, .slice none 0 0, .slice none 0 0, .pointer (some ⟨g, 0, none⟩)] T (0, 0)) ∧
    w'.heap[g]? = some (.cells #[.pointer none, .slice none 0 0, .slice none 0 0, .string x] U (0, 0)) ∧ Below w.heap.size w w'

theorem conv_row {g L c q n o cc : Nat} {bs : List UInt8} {w : World} (t : ByteArray) (hr : RowAt g L c bs w) (ht : TextAt t.data.toList bs q) (hn : n = t.size) (ho : n = 0 ∨ o = q + 4) :
    (convert 30 9 (.slice (some ⟨g, o, none⟩) n cc)).run Tryz.prog w = .ok (.string t) w := by
  obtain ⟨t1, t2, t3⟩ := ht
  have hl : t.data.toList.length = n := by rw [hn]; simp
  have h := run_convert_bytes_back (P := Tryz.prog) w 30 9 5 ⟨g, o, none⟩ cc t.data.toList Tryz.underlying30 Tryz.underlying5 Tryz.underlying9 (fun j hj => by
    have ho2 : o = q + 4 := by omega
    have h1 := hr.row (q + 4 + j) (by have := hr.len; omega)
    rw [t2 j hj] at h1
    subst ho2
    rw [show (⟨g, q + 4, none⟩ : Addr).add j = ⟨g, q + 4 + j, none⟩ by unfold Addr.add; split <;> simp_all, h1]
    have hj2 : j < t.data.size := by simpa using hj
    unfold gB
    simp only [List.getD, List.getElem?_eq_getElem hj, Option.getD_some])
  rw [hl] at h
  exact h


theorem baseNodeIdentifier_any (b g L c p size p0 p1 : Nat) (bs : List UInt8) (hq : LeafQ bs p size p0 p1) (w : World) (h : TabAt b g L c p bs w) :
    Calls Tryz.prog 133 #[.pointer (some ⟨b, 0, none⟩), .pointer none] w (BasePost g L c bs w) := by
  rcases hq.base with h0 | ⟨h1, h2, q, q1, q2, q3, q4⟩
  · refine (baseNodeIdentifier_none b g L c p bs size [p0, p1] hq.vt hq.s4 (by show 2 < 1000; omega) (fun _ => h0) w h).mono ?_
    rintro e w' ⟨rfl, hm⟩
    exact ⟨none, rfl, reads_below hm, .inl rfl⟩
  · refine (baseNodeIdentifier_there b g L c p bs size [p0, p1] hq.vt hq.s4 (by show 2 < 1000; omega) (by show 0 < 2; omega) p0 rfl h1 h2 q q1 q2 q3 w h).mono ?_
    rintro e w' ⟨r, rfl, hr, ht, hb⟩
    exact ⟨_, rfl, hb, .inr ⟨r, q, rfl, hr, ht, q4⟩⟩


set_option maxHeartbeats 4000000 in
set_option maxRecDepth 100000 in
theorem fromIdentifier_any (b g L c p size p0 p1 : Nat) (bs : List UInt8) (hq : LeafQ bs p size p0 p1) (t : ByteArray) (ht : TextRef t bs (p + p1)) (w : World) (h : TabAt b g L c p bs w) :
    Calls Tryz.prog 70 #[.agg #[.pointer none, .slice none 0 0, .slice none 0 0, .string ⟨#[]⟩], .pointer (some ⟨b, 0, none⟩)] w (LeafPost 105 (.string t) w) := by
  obtain ⟨q, t1, t2, t3⟩ := ht
  have HT3 := Lib.hid t3
  have hts : t.data.toList.length = t.size := by simp
  have HG := Lib.hid (fun W (hW : TabAt b g L c p bs W) => textIdentifier_there b g L c p bs size [p0, p1] hq.vt hq.s4 (by show 2 < 1000; omega) (by show 1 < 2; omega) p1 rfl hq.l1 hq.h1 q t.size (if c = q + 4 then 0 else q + 4) t1 t2 (by rw [← hts]; exact t3.1) (by have := t3.2.2; omega) (fun e => if_pos e) (fun e => if_neg e) W hW)
  have hsz : t.size = 0 ∨ (if c = q + 4 then 0 else q + 4) = q + 4 := by
    have h1 := t3.2.2
    have h2 := h.len
    have h3 := h.cap
    split
    · left; omega
    · right; rfl
  have HCV := Lib.hid (fun W cc (hW : RowAt g L c bs W) => conv_row (cc := cc) t hW t3 rfl hsz)
  generalize (if c = q + 4 then 0 else q + 4) = o at *
  clear hsz t1 t2 t3 hts
  have hb0 := (Below.refl _ w).alloc (Nat.le_refl _) (.cells #[.pointer none, .slice none 0 0, .slice none 0 0, .string ⟨#[]⟩] 105)
  have hr0 := heap_alloc_new w (.cells #[.pointer none, .slice none 0 0, .slice none 0 0, .string ⟨#[]⟩] 105)
  have HBN := Lib.hid (fun W (hW : TabAt b g L c p bs W) => baseNodeIdentifier_any b g L c p size p0 p1 bs hq W hW)
  have HR0 := Lib.hid (h.below hb0)
  have HB0 := Lib.hid hb0
  have HW0 := Lib.hid hr0
  have hbb := h.bl
  have hgg := h.gl
  clear h hq hb0 hr0
  go_enter Tryz.func70, Tryz.ntmps70
  go_wp2_with fail
  ((with_reducible refine (HBN.out _ HR0.out).mono ?_))
  rintro e w1 ⟨ad, rfl, hb1, had⟩
  have hsz0 : (w.alloc (.cells #[.pointer none, .slice none 0 0, .slice none 0 0, .string ⟨#[]⟩] 105)).heap.size = w.heap.size + 1 := by simp
  have HB1 := Lib.hid (HB0.out.trans (hb1.mono HB0.out.size))
  have HR1 := Lib.hid (HR0.out.below hb1)
  have hr1 : w1.heap[w.heap.size]? = _ := (hb1.block _ (Array.getElem?_eq_some_iff.1 HW0.out).1).trans HW0.out
  have HA := Lib.hid (base_any w.heap.size _ _ g L c bs ad w1 (had.imp id fun ⟨r, q', h1, h2, h3, h4⟩ => ⟨r, q', h1, by omega, h3, h4⟩) hr1 rfl (by omega))
  have HW1 := Lib.hid hr1
  clear hb1 had hr1 hsz0
  go_wp2_with fail
  ((with_reducible refine HA.out.mono ?_))
  rintro e w3 ⟨rfl, hb3⟩
  have HB3 := Lib.hid (HB1.out.trans (hb3.mono HB1.out.size))
  have HR3 := Lib.hid (HR1.out.below hb3)
  have HW3 : Hid (w3.heap[w.heap.size]? = some (.cells #[.pointer none, .slice none 0 0, .slice none 0 0, .string ⟨#[]⟩] 105 (0, 0))) := Lib.hid ((hb3.block _ (Array.getElem?_eq_some_iff.1 HW1.out).1).trans HW1.out)
  clear hb3
  go_wp2_with fail
  ((with_reducible refine (HG.out _ HR3.out).mono ?_))
  rintro e w5 ⟨rfl, hm5⟩
  have hb5 := reads_below hm5
  have HB5 := Lib.hid (HB3.out.trans (hb5.mono HB3.out.size))
  have HR5 := Lib.hid (HR3.out.below hb5)
  have hr5 : w5.heap[w.heap.size]? = some (.cells #[.pointer none, .slice none 0 0, .slice none 0 0, .string ⟨#[]⟩] 105 (0, 0)) := (hb5.block _ (Array.getElem?_eq_some_iff.1 HW3.out).1).trans HW3.out
  have c3 : w5.cell? ⟨w.heap.size, 3, none⟩ = some (.string ⟨#[]⟩) := by rw [Lib.cell_of_heap hr5]; rfl
  have f3 := Lib.frozen_of_heap hr5 3
  have hcv := HCV.out w5 (c - (q + 4)) HR5.out.rowAt
  have HW6 := Lib.hid (row_setG hr5 3 (.string t))
  have HB6 := Lib.hid (HB5.out.setCell (p := ⟨w.heap.size, 3, none⟩) (Nat.le_refl _) (.string t))
  clear hm5 hb5 hr5
  go_wp2
  go_ret
  exact ⟨_, rfl, Nat.le_refl _, HW6.out, HB6.out⟩


theorem baseNodeTvarType_any (b g L c p size p0 p1 : Nat) (bs : List UInt8) (hq : LeafQ bs p size p0 p1) (w : World) (h : TabAt b g L c p bs w) :
    Calls Tryz.prog 174 #[.pointer (some ⟨b, 0, none⟩), .pointer none] w (BasePost g L c bs w) := by
  rcases hq.base with h0 | ⟨h1, h2, q, q1, q2, q3, q4⟩
  · refine (baseNodeTvarType_none b g L c p bs size [p0, p1] hq.vt hq.s4 (by show 2 < 1000; omega) (fun _ => h0) w h).mono ?_
    rintro e w' ⟨rfl, hm⟩
    exact ⟨none, rfl, reads_below hm, .inl rfl⟩
  · refine (baseNodeTvarType_there b g L c p bs size [p0, p1] hq.vt hq.s4 (by show 2 < 1000; omega) (by show 0 < 2; omega) p0 rfl h1 h2 q q1 q2 q3 w h).mono ?_
    rintro e w' ⟨r, rfl, hr, ht, hb⟩
    exact ⟨_, rfl, hb, .inr ⟨r, q, rfl, hr, ht, q4⟩⟩


set_option maxHeartbeats 4000000 in
set_option maxRecDepth 100000 in
theorem fromTvarType_any (b g L c p size p0 p1 : Nat) (bs : List UInt8) (hq : LeafQ bs p size p0 p1) (x : ByteArray) (hk : KidRef (LeafText x) bs (p + p1)) (w : World) (h : TabAt b g L c p bs w) :
    Calls Tryz.prog 116 #[.agg #[.pointer none, .slice none 0 0, .slice none 0 0, .pointer none], .pointer (some ⟨b, 0, none⟩)] w (KidTree 307 105 x w) := by
  obtain ⟨q, k1, k2, k3, sz2, s0, s1, k4, k5⟩ := hk
  have HG := Lib.hid (fun W (hW : TabAt b g L c p bs W) => idTvarType_there b g L c p bs size [p0, p1] hq.vt hq.s4 (by show 2 < 1000; omega) (by show 1 < 2; omega) p1 rfl hq.l1 hq.h1 q k1 k2 k3 W hW)
  have HK := Lib.hid (fun W r (hW : TabAt r g L c q bs W) => fromIdentifier_any r g L c q sz2 s0 s1 bs k4 x k5 W hW)
  have hb0 := (Below.refl _ w).alloc (Nat.le_refl _) (.cells #[.pointer none, .slice none 0 0, .slice none 0 0, .pointer none] 307)
  have hr0 := heap_alloc_new w (.cells #[.pointer none, .slice none 0 0, .slice none 0 0, .pointer none] 307)
  have HBN := Lib.hid (fun W (hW : TabAt b g L c p bs W) => baseNodeTvarType_any b g L c p size p0 p1 bs hq W hW)
  have HR0 := Lib.hid (h.below hb0)
  have HB0 := Lib.hid hb0
  have HW0 := Lib.hid hr0
  have hbb := h.bl
  have hgg := h.gl
  clear h hq hb0 hr0 k1 k2 k3 k4 k5
  go_enter Tryz.func116, Tryz.ntmps116
  go_wp2_with fail
  ((with_reducible refine (HBN.out _ HR0.out).mono ?_))
  rintro e w1 ⟨ad, rfl, hb1, had⟩
  have hsz0 : (w.alloc (.cells #[.pointer none, .slice none 0 0, .slice none 0 0, .pointer none] 307)).heap.size = w.heap.size + 1 := by simp
  have HB1 := Lib.hid (HB0.out.trans (hb1.mono HB0.out.size))
  have HR1 := Lib.hid (HR0.out.below hb1)
  have hr1 : w1.heap[w.heap.size]? = _ := (hb1.block _ (Array.getElem?_eq_some_iff.1 HW0.out).1).trans HW0.out
  have HA := Lib.hid (base_any w.heap.size _ _ g L c bs ad w1 (had.imp id fun ⟨r, q', h1, h2, h3, h4⟩ => ⟨r, q', h1, by omega, h3, h4⟩) hr1 rfl (by omega))
  have HW1 := Lib.hid hr1
  clear hb1 had hr1 hsz0
  go_wp2_with fail
  ((with_reducible refine HA.out.mono ?_))
  rintro e w3 ⟨rfl, hb3⟩
  have HB3 := Lib.hid (HB1.out.trans (hb3.mono HB1.out.size))
  have HR3 := Lib.hid (HR1.out.below hb3)
  have HW3 : Hid (w3.heap[w.heap.size]? = some (.cells #[.pointer none, .slice none 0 0, .slice none 0 0, .pointer none] 307 (0, 0))) := Lib.hid ((hb3.block _ (Array.getElem?_eq_some_iff.1 HW1.out).1).trans HW1.out)
  clear hb3
  go_wp2_with fail
  ((with_reducible refine (HG.out _ HR3.out).mono ?_))
  rintro e w5 ⟨r5, rfl, hr5, ht5, hb5⟩
  have HB5 := Lib.hid (HB3.out.trans (hb5.mono HB3.out.size))
  have HT5 := Lib.hid ht5
  have HW5 : Hid (w5.heap[w.heap.size]? = some (.cells #[.pointer none, .slice none 0 0, .slice none 0 0, .pointer none] 307 (0, 0))) := Lib.hid ((hb5.block _ (Array.getElem?_eq_some_iff.1 HW3.out).1).trans HW3.out)
  clear hb5 ht5 hr5
  go_wp2_with fail
  ((with_reducible refine (HK.out _ _ HT5.out).mono ?_))
  rintro e w6 ⟨g6, rfl, hg6, hrow6, hb6⟩
  have HB6 := Lib.hid (HB5.out.trans (hb6.mono HB5.out.size))
  have hr6 : w6.heap[w.heap.size]? = some (.cells #[.pointer none, .slice none 0 0, .slice none 0 0, .pointer none] 307 (0, 0)) := (hb6.block _ (Array.getElem?_eq_some_iff.1 HW5.out).1).trans HW5.out
  have hne : g6 ≠ w.heap.size := by
    have h1 := (Array.getElem?_eq_some_iff.1 HW5.out).1
    omega
  have c3 : w6.cell? ⟨w.heap.size, 3, none⟩ = some (.pointer none) := by rw [Lib.cell_of_heap hr6]; rfl
  have f3 := Lib.frozen_of_heap hr6 3
  have HW7 := Lib.hid (row_setG hr6 3 (.pointer (some ⟨g6, 0, none⟩)))
  have HB7 := Lib.hid (HB6.out.setCell (p := ⟨w.heap.size, 3, none⟩) (Nat.le_refl _) (.pointer (some ⟨g6, 0, none⟩)))
  have HK7 : Hid ((w6.setCell ⟨w.heap.size, 3, none⟩ (.pointer (some ⟨g6, 0, none⟩))).heap[g6]? = some (.cells #[.pointer none, .slice none 0 0, .slice none 0 0, .string x] 105 (0, 0))) := Lib.hid ((Below.heap_setCell _ _ _ _ hne).trans hrow6)
  clear hb6 hr6 hrow6 hg6 hne
  go_wp2
  go_ret
  exact ⟨_, _, rfl, Nat.le_refl _, HW7.out, HK7.out, HB7.out⟩


end Go.Proofs.YtgceklahjdbipaaGreatDoor