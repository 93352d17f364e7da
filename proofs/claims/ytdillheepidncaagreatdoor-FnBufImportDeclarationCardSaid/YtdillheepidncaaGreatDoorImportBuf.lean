/- Buffers of imports. -/
import Derived.Test.YtdillheepidncaaGreatDoorKidBuf
import Derived.Test.YtdillheepidncaaGreatDoorMakerImport
namespace Go.Proofs.YtdillheepidncaaGreatDoor
open Go Go.RowKit
set_option linter.unusedVariables false
set_option linter.unusedSimpArgs false

/-- What a node's table says of its head and of what all nodes have. -/
structure NodeQ (bs : List UInt8) (p size : Nat) (places : List Nat) : Prop where
  vt : VtQ size places bs p
  s4 : 4 ≤ size
  few : places.length < 1000
  base : places.getD 0 0 = 0 ∨ (0 < places.getD 0 0 ∧ places.getD 0 0 < 60000 ∧ ∃ q, p + places.getD 0 0 ≤ q ∧ rd bs (p + places.getD 0 0) 4 = q - (p + places.getD 0 0) ∧ q + 4 ≤ bs.length ∧ BaseQ2 bs q)

/-- A buffer whose root says T. -/
def NodeBuf (T : List UInt8 → Nat → Prop) (w : World) (e : Ending) (w' : World) : Prop :=
  ∃ (g L c : Nat) (bs : List UInt8) (q : Nat), e = .returned (.slice (some ⟨g, 0, none⟩) L c) ∧ RowAt g L c bs w' ∧ Below w.heap.size w w' ∧ rd bs 0 4 = q ∧ T bs q

theorem node_buf (base : Bool) (fs : List SlotQ) (places : List Nat) (size : Nat) (T : List UInt8 → Nat → Prop) (hg : TabGood fs places size) (hsz : 12 + 2 * places.length + size + szSum fs < 700000) (hfs : ∀ bs q, TabQ size places fs bs q → T bs q)
    (k : Int) (t m : ByteArray) (u : Int) (kids : Value) (hkids : ∃ a n c, kids = .slice a n c) (w : World)
    (hn : ∀ M W, Mk M base (List.replicate 4 0) W → Below w.heap.size w W → (∀ r, r < w.heap.size → MkOther M r W) → Calls Tryz.prog 20 #[.pointer (some ⟨M, 0, none⟩), .agg #[.int .i64 k, .string t, .string m, .int .u64 u, kids]] W (AtPost M base (tableB (fs.map SlotQ.s) (List.replicate 4 0)).1 (tableB (fs.map SlotQ.s) (List.replicate 4 0)).2 W)) :
    Calls Tryz.prog 9 #[.agg #[.int .i64 k, .string t, .string m, .int .u64 u, kids], .bool base] w (NodeBuf T w) := by
  have hp := hg.part
  refine (buffer_any base (tableB (fs.map SlotQ.s)) _ _ hp (by omega) k t m u kids hkids w hn).mono ?_
  rintro e w' ⟨g, c, rfl, hby, hb, hc, hgl⟩
  obtain ⟨hl, q, h1, h2, h3, h4⟩ := whole_ok _ _ _ hp (by omega)
  exact ⟨g, _, c, _, q, rfl, ⟨bytes_row hby, rfl, hc, by omega, hgl⟩, hb, h1, hfs _ _ h4⟩

theorem nodeQ_plain {bs : List UInt8} {q size : Nat} {ps : List Nat} {fs : List SlotQ} (h : TabQ size (0 :: ps) fs bs q) (h4 : 4 ≤ size) (hl : ps.length < 999) : NodeQ bs q size (0 :: ps) := ⟨h.vt, h4, by simp; omega, .inl rfl⟩
theorem nodeQ_base {bs : List UInt8} {q size p0 : Nat} {ps : List Nat} {fs : List SlotQ} (h : TabQ size (p0 :: ps) fs bs q) (hm : baseQ ∈ fs) (h4 : 4 ≤ size) (hl : ps.length < 999) (h0 : 0 < p0) (h01 : p0 < 60000) : NodeQ bs q size (p0 :: ps) := by
  obtain ⟨z, z1, z2, z3, z4⟩ := (h.2.2.2.2.2 baseQ hm).2 (by simp [baseQ])
  exact ⟨h.vt, h4, by simp; omega, .inr ⟨h0, h01, z, z2, z1, z3, BaseQ2.of z4⟩⟩

set_option maxHeartbeats 4000000 in
set_option maxRecDepth 100000 in
theorem slots_import (M : Nat) (base : Bool) (out : List UInt8) (fs : List SlotQ) (t m : ByteArray) (u : Int) (a : Option Addr) (n c : Nat) (w : World) (h : Mk M base out w)
    (hl : ∀ W, Mk M base out W → Below w.heap.size w W → Calls Tryz.prog 103 #[.agg #[.int .i64 5, .string t, .string m, .int .u64 u, .slice a n c]] W (SlotsPost M base fs W)) :
    Calls Tryz.prog 57 #[.pointer (some ⟨M, 0, none⟩), .agg #[.int .i64 5, .string t, .string m, .int .u64 u, .slice a n c]] w (SlotsPost M base fs w) := by
  have hb0 := (Below.refl w.heap.size w).alloc (Nat.le_refl _) (.cells #[.int .i64 5, .string t, .string m, .int .u64 u, .slice a n c] 25)
  have hrow := heap_alloc_new w (.cells #[.int .i64 5, .string t, .string m, .int .u64 u, .slice a n c] 25)
  have HB0 := Lib.hid hb0
  have HR0 := Lib.hid hrow
  have HM0 := Lib.hid (h.below hb0)
  have HL := Lib.hid hl
  have HNT : Hid (¬ typeB 5) := Lib.hid (by unfold typeB; omega)
  clear h hb0 hrow hl
  go_enter Tryz.func57, Tryz.ntmps57
  go_wp2_with (go_at_call 99; with_reducible refine (isType_any 5 _).mono ?_)
  intro e w2 hy
  obtain ⟨rfl, hb2⟩ := not_type _ HNT.out hy
  have hr2 := (hb2.block w.heap.size (Array.getElem?_eq_some_iff.1 HR0.out).1).trans HR0.out
  have hb12 : Below w.heap.size w w2 := HB0.out.trans (hb2.mono HB0.out.size)
  have c0 : w2.cell? ⟨w.heap.size, 0, none⟩ = some (.int .i64 5) := by rw [Lib.cell_of_heap hr2]; rfl
  have c1 : w2.cell? ⟨w.heap.size, 1, none⟩ = some (.string t) := by rw [Lib.cell_of_heap hr2]; rfl
  have c2 : w2.cell? ⟨w.heap.size, 2, none⟩ = some (.string m) := by rw [Lib.cell_of_heap hr2]; rfl
  have c3 : w2.cell? ⟨w.heap.size, 3, none⟩ = some (.int .u64 u) := by rw [Lib.cell_of_heap hr2]; rfl
  have c4 : w2.cell? ⟨w.heap.size, 4, none⟩ = some (.slice a n c) := by rw [Lib.cell_of_heap hr2]; rfl
  have HLW := Lib.hid (HL.out w2 (HM0.out.below hb2) hb12)
  clear hy hb2 hr2
  go_wp2_with (go_at_call 103; with_reducible refine HLW.out.mono ?_)
  rintro e w3 ⟨v, l, D, rfl, h4⟩
  go_wp2
  go_ret
  exact SlotsPost.from hb12 ⟨v, l, D, rfl, h4⟩

/-- The tables of imports, with and without a name, with and without what all nodes have. -/
theorem three_all {q r s : SlotQ} {p : SlotQ → Prop} (h : p q) (h2 : p r) (h3 : p s) : ∀ f ∈ [q, r, s], p f := by
  intro f hf
  rcases List.mem_cons.1 hf with rfl | hf
  · exact h
  · exact two_all h2 h3 f hf

theorem good_path1 {P : List UInt8 → List UInt8 × Nat} {sz : Nat} {S : List UInt8 → Nat → Prop} (hp : PartOk P sz S) : TabGood [kidQ 2 P sz S] [0, 0, 4] 8 :=
  ⟨by simp [layout, most1, placeOne, alignUp, kidQ], by simp [most1, kidQ], by decide, by decide, by decide, by decide, one_all (by show 4 ≤ 4; omega), one_all (by show 4 + 4 ≤ 8; omega), by simp, one_all (kid_part hp), one_all (by show 0 < 4 ∧ 4 ≤ 8; omega), one_all (by show 0 < 18446744073709551616; omega), by simp⟩
theorem good_path2 {P : List UInt8 → List UInt8 × Nat} {sz : Nat} {S : List UInt8 → Nat → Prop} (hp : PartOk P sz S) : TabGood [kidQ 2 P sz S, baseQ] [8, 0, 4] 12 :=
  ⟨by simp [layout, most1, placeOne, alignUp, kidQ, baseQ], by simp [most1, kidQ, baseQ], by decide, by decide, by decide, by decide, two_all (by show 4 ≤ 4; omega) (by show 4 ≤ 8; omega), two_all (by show 4 + 4 ≤ 12; omega) (by show 8 + 4 ≤ 12; omega), by
    simp only [List.map_cons, List.map_nil, List.pairwise_cons]
    refine ⟨fun b hb => ?_, ⟨fun b hb => by simp at hb, List.Pairwise.nil⟩⟩
    rw [List.mem_singleton] at hb; rw [hb]; left; show 4 + 4 ≤ 8; omega, two_all (kid_part hp) base_part, two_all (by show 0 < 4 ∧ 4 ≤ 8; omega) (by show 0 < 4 ∧ 4 ≤ 8; omega), two_all (by show 0 < 18446744073709551616; omega) (by show 0 < 18446744073709551616; omega), by simp⟩
theorem good_as1 {P P2 : List UInt8 → List UInt8 × Nat} {sz sz2 : Nat} {S S2 : List UInt8 → Nat → Prop} (hp : PartOk P sz S) (hp2 : PartOk P2 sz2 S2) : TabGood [kidQ 1 P sz S, kidQ 2 P2 sz2 S2] [0, 4, 8] 12 :=
  ⟨by simp [layout, most1, placeOne, alignUp, kidQ, baseQ], by simp [most1, kidQ, baseQ], by decide, by decide, by decide, by decide, two_all (by show 4 ≤ 4; omega) (by show 4 ≤ 8; omega), two_all (by show 4 + 4 ≤ 12; omega) (by show 8 + 4 ≤ 12; omega), by
    simp only [List.map_cons, List.map_nil, List.pairwise_cons]
    refine ⟨fun b hb => ?_, ⟨fun b hb => by simp at hb, List.Pairwise.nil⟩⟩
    rw [List.mem_singleton] at hb; rw [hb]; left; show 4 + 4 ≤ 8; omega, two_all (kid_part hp) (kid_part hp2), two_all (by show 0 < 4 ∧ 4 ≤ 8; omega) (by show 0 < 4 ∧ 4 ≤ 8; omega), two_all (by show 0 < 18446744073709551616; omega) (by show 0 < 18446744073709551616; omega), by simp⟩
theorem good_as2 {P P2 : List UInt8 → List UInt8 × Nat} {sz sz2 : Nat} {S S2 : List UInt8 → Nat → Prop} (hp : PartOk P sz S) (hp2 : PartOk P2 sz2 S2) : TabGood [kidQ 1 P sz S, kidQ 2 P2 sz2 S2, baseQ] [12, 4, 8] 16 :=
  ⟨by simp [layout, most1, placeOne, alignUp, kidQ, baseQ], by simp [most1, kidQ, baseQ], by decide, by decide, by decide, by decide, three_all (by show 4 ≤ 4; omega) (by show 4 ≤ 8; omega) (by show 4 ≤ 12; omega), three_all (by show 4 + 4 ≤ 16; omega) (by show 8 + 4 ≤ 16; omega) (by show 12 + 4 ≤ 16; omega), by
    simp only [List.map_cons, List.map_nil, List.pairwise_cons]
    refine ⟨fun b hb => ?_, fun b hb => ?_, fun b hb => by simp at hb, List.Pairwise.nil⟩
    · rcases List.mem_cons.1 hb with rfl | hb
      · left; show 4 + 4 ≤ 8; omega
      · rw [List.mem_singleton] at hb; rw [hb]; left; show 4 + 4 ≤ 12; omega
    · rw [List.mem_singleton] at hb; rw [hb]; left; show 8 + 4 ≤ 12; omega, three_all (kid_part hp) (kid_part hp2) base_part, three_all (by show 0 < 4 ∧ 4 ≤ 8; omega) (by show 0 < 4 ∧ 4 ≤ 8; omega) (by show 0 < 4 ∧ 4 ≤ 8; omega), three_all (by show 0 < 18446744073709551616; omega) (by show 0 < 18446744073709551616; omega) (by show 0 < 18446744073709551616; omega), by simp⟩

/-- The buffer of an import, over what its name writes. -/
theorem buf_import (base : Bool) (t m : ByteArray) (u : Int) (k1 k2 : Tr) (a : Option Addr) (c N : Nat) (fs1 : List SlotQ) (hfs : fs1.length ≤ 50) (P : List UInt8 → List UInt8 × Nat) (sz : Nat) (S : List UInt8 → Nat → Prop) (w : World) (hN : N ≤ w.heap.size)
    (hv : NodeIn w (· < N) (.mk 5 t m u [k1, k2]) (nodeU 5 t m u a 2 c))
    (hmb : ∀ M out W a' l' c', Mk M base out W → N ≤ W.heap.size → (∀ r, r < N → MkOther M r W) → NodeIn W (· < N) k1 (nodeU k1.kind k1.text k1.more k1.num a' l' c') → Calls Tryz.prog 147 #[.int .i64 1, nodeU k1.kind k1.text k1.more k1.num a' l' c'] W (MaybePost M base fs1 W))
    (hw : ∀ M v, NodeWrites M base N k2 v P sz) (places : List Nat) (size : Nat) (hg : TabGood (fs1 ++ [kidQ 2 P sz S] ++ if base then [baseQ] else []) places size) (hsz : 12 + 2 * places.length + size + szSum (fs1 ++ [kidQ 2 P sz S] ++ if base then [baseQ] else []) < 700000) (T : List UInt8 → Nat → Prop) (hT : ∀ bs q, TabQ size places (fs1 ++ [kidQ 2 P sz S] ++ if base then [baseQ] else []) bs q → T bs q) :
    Calls Tryz.prog 9 #[.agg #[.int .i64 5, .string t, .string m, .int .u64 u, .slice a 2 c], .bool base] w (NodeBuf T w) := by
  have hs : ∀ M out W, Mk M base out W → Below w.heap.size w W → (∀ r, r < w.heap.size → MkOther M r W) → ∀ W', Mk M base out W' → Below W.heap.size W W' →
      Calls Tryz.prog 57 #[.pointer (some ⟨M, 0, none⟩), .agg #[.int .i64 5, .string t, .string m, .int .u64 u, .slice a 2 c]] W' (SlotsPost M base (fs1 ++ [kidQ 2 P sz S]) W') := fun M out W hM hb ho W' hM' hb' =>
    slots_import M base out _ t m u a 2 c W' hM' fun W2 hM2 hb2 => by
      have hbb : Below W.heap.size W W2 := hb'.trans (hb2.mono hb'.size)
      have hb3 : Below w.heap.size w W2 := hb.trans (hbb.mono hb.size)
      have ho2 : ∀ r, r < N → MkOther M r W2 := fun r hr => (ho r (Nat.lt_of_lt_of_le hr hN)).below hM.lt hbb
      exact importSlots M base out N t m u k1 k2 a c fs1 hfs P sz S W2 hM2 (Nat.le_trans hN hb3.size) ho2 (hv.keep (Keep.of_below hb3 hN)) (fun W4 a' l' c' hb4 hn4 => hmb M out W4 a' l' c' (hM2.below hb4) (Nat.le_trans hN (Nat.le_trans hb3.size hb4.size)) (fun r hr => (ho2 r hr).below hM2.lt hb4) hn4) (fun v => hw M v)
  cases base with
  | false =>
    simp only [Bool.false_eq_true, if_false, List.append_nil] at hg hsz hT
    refine node_buf false _ places size T hg hsz hT 5 t m u (.slice a 2 c) ⟨a, 2, c, rfl⟩ w (fun M W hM hb ho => ?_)
    exact node_many M _ _ (by simp) places size hg 5 t m u (.slice a 2 c) ⟨a, 2, c, rfl⟩ W hM (hs M _ W hM hb ho) (by simp; omega)
  | true =>
    simp only [if_true] at hg hsz hT
    refine node_buf true _ places size T hg hsz hT 5 t m u (.slice a 2 c) ⟨a, 2, c, rfl⟩ w (fun M W hM hb ho => ?_)
    exact node_many_base M _ _ places size hg 5 rfl t m u (.slice a 2 c) ⟨a, 2, c, rfl⟩ W hM (hs M _ W hM hb ho) (by simp only [List.length_replicate]; omega)

end Go.Proofs.YtdillheepidncaaGreatDoor
