/- The tables of nodes with one text or one number, with and without what all nodes have. -/
import Derived.Test.YtdillheepidncaaGreatDoorMakerNode
namespace Go.Proofs.YtdillheepidncaaGreatDoor
open Go Go.RowKit
set_option linter.unusedVariables false
set_option linter.unusedSimpArgs false

/-- What table_any asks of slots. -/
structure TabGood (fs : List SlotQ) (places : List Nat) (size : Nat) : Prop where
  pl : layout (fs.map SlotQ.s) = (places, size)
  most : most1 (fs.map SlotQ.s) = places.length
  few : places.length < 1000
  s4 : 4 ≤ size
  s6 : size < 60000
  ps : ∀ p ∈ places, p < 65536
  lo : ∀ f ∈ fs, 4 ≤ plc places f.s
  fit : ∀ f ∈ fs, plc places f.s + f.s.width ≤ size
  ap : (fs.map SlotQ.s).Pairwise (Apart places)
  ok : ∀ f ∈ fs, ∀ P, f.s.ref = some P → f.s.width = 4 ∧ PartOk P f.sz f.Q
  wid : ∀ f ∈ fs, 0 < f.s.width ∧ f.s.width ≤ 8
  num : ∀ f ∈ fs, f.s.num < 18446744073709551616
  len : fs.length ≤ 100

theorem TabGood.part {fs : List SlotQ} {places : List Nat} {size : Nat} (h : TabGood fs places size) : PartOk (tableB (fs.map SlotQ.s)) (12 + 2 * places.length + size + szSum fs) (TabQ size places fs) :=
  table_ok fs places size h.pl h.most h.few h.s4 h.s6 h.ps h.lo h.fit h.ap h.ok

/-- What all nodes have, as a slot. -/
def baseQ : SlotQ := ⟨⟨0, 4, 0, some baseB⟩, 64, TabQ 8 [4] baseFs⟩

theorem one_all {q : SlotQ} {p : SlotQ → Prop} (h : p q) : ∀ f ∈ [q], p f := by
  intro f hf
  rw [List.mem_singleton] at hf
  rw [hf]
  exact h
theorem two_all {q r : SlotQ} {p : SlotQ → Prop} (h : p q) (h2 : p r) : ∀ f ∈ [q, r], p f := by
  intro f hf
  rcases List.mem_cons.1 hf with rfl | hf
  · exact h
  · rw [List.mem_singleton] at hf
    rw [hf]
    exact h2

theorem text_part (i : Nat) (t : ByteArray) (ht : t.size < 1000000) (P : List UInt8 → List UInt8 × Nat) (hP : (textQ i t).s.ref = some P) : (textQ i t).s.width = 4 ∧ PartOk P (textQ i t).sz (textQ i t).Q := by
  obtain rfl : textB t.data.toList = P := by
    unfold textQ at hP
    exact Option.some.inj hP
  exact ⟨rfl, text_ok t.data.toList ht⟩
theorem base_part (P : List UInt8 → List UInt8 × Nat) (hP : baseQ.s.ref = some P) : baseQ.s.width = 4 ∧ PartOk P baseQ.sz baseQ.Q := by
  obtain rfl : baseB = P := by
    unfold baseQ at hP
    exact Option.some.inj hP
  exact ⟨rfl, base_ok⟩

theorem good_text1 (t : ByteArray) (ht : t.size < 1000000) : TabGood [textQ 1 t] [0, 4] 8 :=
  ⟨by simp [layout, most1, placeOne, alignUp, textQ, baseQ, numQ], by simp [most1, textQ, baseQ, numQ], by decide, by decide, by decide, by decide, one_all (by show 4 ≤ 4; omega), one_all (by show 4 + 4 ≤ 8; omega), by simp, one_all (text_part 1 t ht), one_all (by show 0 < 4 ∧ 4 ≤ 8; omega), one_all (by show 0 < 18446744073709551616; omega), by simp⟩
theorem good_text2 (t : ByteArray) (ht : t.size < 1000000) : TabGood [textQ 1 t, baseQ] [8, 4] 12 :=
  ⟨by simp [layout, most1, placeOne, alignUp, textQ, baseQ, numQ], by simp [most1, textQ, baseQ, numQ], by decide, by decide, by decide, by decide, two_all (by show 4 ≤ 4; omega) (by show 4 ≤ 8; omega), two_all (by show 4 + 4 ≤ 12; omega) (by show 8 + 4 ≤ 12; omega), by
    simp only [List.map_cons, List.map_nil, List.pairwise_cons]
    refine ⟨fun b hb => ?_, ⟨fun b hb => by simp at hb, List.Pairwise.nil⟩⟩
    rw [List.mem_singleton] at hb; rw [hb]; left; show 4 + 4 ≤ 8; omega, two_all (text_part 1 t ht) base_part, two_all (by show 0 < 4 ∧ 4 ≤ 8; omega) (by show 0 < 4 ∧ 4 ≤ 8; omega), two_all (by show 0 < 18446744073709551616; omega) (by show 0 < 18446744073709551616; omega), by simp⟩
theorem good_num1 (u : Nat) (hu : u < 18446744073709551616) : TabGood [numQ 1 8 u] [0, 8] 16 :=
  ⟨by simp [layout, most1, placeOne, alignUp, textQ, baseQ, numQ], by simp [most1, textQ, baseQ, numQ], by decide, by decide, by decide, by decide, one_all (by show 4 ≤ 8; omega), one_all (by show 8 + 8 ≤ 16; omega), by simp, one_all (fun P hP => by cases hP), one_all (by show 0 < 8 ∧ 8 ≤ 8; omega), one_all hu, by simp⟩
theorem good_num2 (u : Nat) (hu : u < 18446744073709551616) : TabGood [numQ 1 8 u, baseQ] [16, 8] 20 :=
  ⟨by simp [layout, most1, placeOne, alignUp, textQ, baseQ, numQ], by simp [most1, textQ, baseQ, numQ], by decide, by decide, by decide, by decide, two_all (by show 4 ≤ 8; omega) (by show 4 ≤ 16; omega), two_all (by show 8 + 8 ≤ 20; omega) (by show 16 + 4 ≤ 20; omega), by
    simp only [List.map_cons, List.map_nil, List.pairwise_cons]
    refine ⟨fun b hb => ?_, ⟨fun b hb => by simp at hb, List.Pairwise.nil⟩⟩
    rw [List.mem_singleton] at hb; rw [hb]; left; show 8 + 8 ≤ 16; omega, two_all (fun P hP => by cases hP) base_part, two_all (by show 0 < 8 ∧ 8 ≤ 8; omega) (by show 0 < 4 ∧ 4 ≤ 8; omega), two_all hu (by show 0 < 18446744073709551616; omega), by simp⟩

end Go.Proofs.YtdillheepidncaaGreatDoor
