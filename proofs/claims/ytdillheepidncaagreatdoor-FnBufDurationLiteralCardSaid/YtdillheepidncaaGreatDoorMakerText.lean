/- spec's maker of flatbuffers: bytes appended within a region that draws; texts. -/
import Derived.Test.YtdillheepidncaaGreatDoorMaker
import Derived.Deep.RegionLaw
import Derived.Deep.RegionWith
namespace Go.Proofs.YtdillheepidncaaGreatDoor
open Go Go.RowKit
set_option linter.unusedVariables false
set_option linter.unusedSimpArgs false

/-- Bytes that stand in memory. -/
def BytesIn (w : World) (ad : Addr) (bs : List UInt8) : Prop := ∀ (j : Nat) u, (Lib.byteCells bs)[j]? = some u → w.cell? (ad.add j) = some u

/-- The maker in a world, its row as a value. -/
def MkRow (M : Nat) (base : Bool) (out : List UInt8) (v : Value) (w : World) : Prop := w.heap[M]? = some (.cells #[v, .bool base] 54 (0, 0)) ∧ w.ownsRow 0 5 1 v out.length (Lib.byteCells out) ∧ v.ownBlock ≠ some M

theorem MkRow.mk {M : Nat} {base : Bool} {out : List UInt8} {v : Value} {w : World} (h : MkRow M base out v w) : Mk M base out w := ⟨v, h⟩
theorem MkRow.lt {M : Nat} {base : Bool} {out : List UInt8} {v : Value} {w : World} (h : MkRow M base out v w) : M < w.heap.size := (Array.getElem?_eq_some_iff.1 h.1).1
theorem MkRow.below {M : Nat} {base : Bool} {out : List UInt8} {v : Value} {w w' : World} (h : MkRow M base out v w) (hb : Below w.heap.size w w') : MkRow M base out v w' :=
  ⟨(hb.block M h.lt).trans h.1, h.2.1.kept (grownBy_below hb) (hown_or h.2.1), h.2.2⟩
theorem MkRow.drew {M : Nat} {base : Bool} {out : List UInt8} {v : Value} {w : World} (h : MkRow M base out v w) : MkRow M base out v w.drew := h
theorem MkRow.c0 {M : Nat} {base : Bool} {out : List UInt8} {v : Value} {w : World} (h : MkRow M base out v w) : w.cell? ⟨M, 0, none⟩ = some v := by rw [Lib.cell_of_heap h.1]; rfl
theorem MkRow.f0 {M : Nat} {base : Bool} {out : List UInt8} {v : Value} {w : World} (h : MkRow M base out v w) (i : Nat) : w.frozen? ⟨M, i, none⟩ = false := Lib.frozen_of_heap h.1 i

theorem Mk.row {M : Nat} {base : Bool} {out : List UInt8} {w : World} (h : Mk M base out w) : ∃ a c, MkRow M base out (.slice a out.length c) w := by
  obtain ⟨a, c, _, _, _, h1, h2, h3⟩ := h.form
  exact ⟨a, c, h1, h2, h3⟩

/-- What is so after an append's store. -/
def Appended (M : Nat) (base : Bool) (out : List UInt8) (w : World) (v : Value) (w' : World) : Prop :=
  Mk M base out (w'.setCell ⟨M, 0, none⟩ v) ∧ ∀ w0, Moves M w0 w → Moves M w0 (w'.setCell ⟨M, 0, none⟩ v)

theorem byte_info : ∃ i, Tryz.prog.info? 5 = some i ∧ i.zero = some (.int .u8 0) ∧ i.size = 1 ∧ i.bytes = 1 := info_parts mk_byte

section
variable {ops : Array Oper} {o : Oper} {a : Act} {w : World} {K : Act → World → Prop} {Q : Exit → Act → World → Prop} {E : Prop}

/-- Bytes are appended to the maker's row, at a step of a region that draws. -/
theorem step_mk_append (hgd : o.guard = none) (s x : Operand) (ho : o.op = .call { callee := .builtin .append, args := #[s, x], argTypes := #[30, 30] })
    (M : Nat) (base : Bool) (out : List UInt8) (L : Nat) (hL : out.length = L) (ad : Option Addr) (c : Nat) (hm : MkRow M base out (.slice ad L c) w) (hs : a.eval s = .slice ad L c)
    (bs : List UInt8) (ad2 : Addr) (k cx : Nat) (hk : bs.length = k) (hk0 : 0 < k) (hx : a.eval x = .slice (some ad2) k cx) (hnews : BytesIn w ad2 bs) (hbig : L + k < 1000000000)
    (h : ∀ g cap w', w'.cell? ⟨M, 0, none⟩ = some (.slice ad L c) → w'.frozen? ⟨M, 0, none⟩ = false → Appended M base (out ++ bs) w (.slice (some ⟨g, 0, none⟩) (L + k) cap) w' → K (a.put o.dst (.slice (some ⟨g, 0, none⟩) (L + k) cap)) w') :
    if Region.wanted o (yielded ops a.tmps) = true then Oper.wp Tryz.prog o a w K Q else E := by
  subst hL
  obtain ⟨i0, hi, hz0, hz1, hz2⟩ := byte_info
  refine step_append_lies w hgd s x 30 ho 0 5 i0 _ 1 1 Tryz.underlying30 hi hz0 hz1 hz2 rfl (by decide) _ _ _ hs hm.2.1 ad2 k cx (Lib.byteCells bs) hx (by rw [Lib.byteCells_length, hk, Nat.mul_one]) hnews (byteCells_one bs) hk0 (by unfold maxLen; omega) (by omega) (Nat.zero_le _) _ rfl ?_
  intro g cap w' hown hg hat hlt
  have hown2 : w'.ownsRow 0 5 1 (.slice (some ⟨g, 0, none⟩) (out.length + k) cap) (out ++ bs).length (Lib.byteCells (out ++ bs)) := by
    rw [Lib.byteCells_append, List.length_append, hk]
    exact hown
  have hv : (Value.slice (some ⟨g, 0, none⟩) (out.length + k) cap).ownBlock = (Value.slice ad out.length c).ownBlock ∨ ∃ g', (Value.slice (some ⟨g, 0, none⟩) (out.length + k) cap).ownBlock = some g' ∧ w.heap.size ≤ g' := by
    rcases hat with e | e
    · left; rw [e]; rfl
    · right; exact ⟨g, rfl, by omega⟩
  have hap := fun w0 (hm0 : Moves M w0 w) => mk_app hm0 hm.1 hm.2.2 hg hv hown2
  obtain ⟨h1, h2, _⟩ := hap w (Moves.refl M w)
  exact h g cap w' (by rw [Lib.cell_of_heap h1]; rfl) (Lib.frozen_of_heap h1 0) ⟨h2, fun w0 h0 => (hap w0 h0).2.2⟩
end

/-- A number's bytes, so many of them. -/
def LitPost2 (u k : Nat) (w : World) (e : Ending) (w' : World) : Prop := ∃ g c, e = .returned (.slice (some ⟨g, 0, none⟩) k c) ∧ BytesIn w' ⟨g, 0, none⟩ (leB u k) ∧ Below w.heap.size w w'

theorem little_pos (u k : Nat) (hk0 : 0 < k) (hk : k ≤ 8) (hu : u < 18446744073709551616) (w : World) :
    Calls Tryz.prog 21 #[.int .u64 u, .int .i64 k] w (LitPost2 u k w) := by
  refine (little_any u k hk hu w).mono ?_
  rintro e w' ⟨v, rfl, hown, hb⟩
  obtain ⟨g, cap, rfl, _, _⟩ := hown.form hk0
  exact ⟨g, cap, rfl, hown.cells rfl, hb⟩

theorem grown_two {w4 w5 w7 : World} {r r5 : Option Nat} (h : w4.grownBy w5 r) (h2 : w5.grownBy w7 r5) (h5 : r5 = r ∨ ∃ g, r5 = some g ∧ w4.heap.size ≤ g) : w4.grownBy w7 r :=
  ⟨h2.os.trans h.os, h2.tape.trans h.tape, h2.output.trans h.output, Nat.le_trans h.size h2.size, fun k hk hne => (h2.block k (Nat.lt_of_lt_of_le hk h.size) (by
    rcases h5 with e | ⟨g, e, hg⟩
    · rw [e]; exact hne
    · rw [e]; intro e2; cases e2; omega)).trans (h.block k hk hne)⟩

def AtPost (M : Nat) (base : Bool) (out : List UInt8) (n : Nat) (w : World) (e : Ending) (w' : World) : Prop := e = .returned (.int .i64 n) ∧ Mk M base out w' ∧ Moves M w w'

set_option maxHeartbeats 4000000 in
set_option maxRecDepth 100000 in
theorem text_any (M : Nat) (base : Bool) (out : List UInt8) (s : ByteArray) (hs : s.size < 1000000) (hout : out.length < 900000000) (w : World) (h : Mk M base out w) :
    Calls Tryz.prog 175 #[.pointer (some ⟨M, 0, none⟩), .string s] w (AtPost M base (textB s.data.toList out).1 (textB s.data.toList out).2 w) := by
  obtain ⟨i0, hi, hz0, hz1, hz2⟩ := info_parts mk_byte
  have H := Lib.hid h
  have hM := h.lt
  have HPAD : Hid (Calls Tryz.prog 22 #[.pointer (some ⟨M, 0, none⟩), .int .i64 4, .int .i64 0] w fun e w' => e = .returned (.tuple #[]) ∧ Mk M base (padTo 4 0 out) w' ∧ Moves M w w') := Lib.hid (pad_any M base 4 0 out (by decide) (by decide) (by decide) (by omega) w h)
  have hpad := padTo_spec 4 0 (by decide) out
  generalize hp : padTo 4 0 out = o1 at *
  clear h
  go_enter Tryz.func175, Tryz.ntmps175
  go_wp2_with (go_at_call 22; with_reducible refine HPAD.out.mono ?_)
  rintro e w1 ⟨rfl, hm1, hmv1⟩
  obtain ⟨ad, c, hr1⟩ := hm1.row
  have c0 := hr1.c0
  have c0d : w1.drew.cell? ⟨M, 0, none⟩ = _ := c0
  have f0 := hr1.f0 0
  have hM1 := hr1.lt
  have HR1 := Lib.hid hr1
  have HMV1 := Lib.hid hmv1
  have HT : Hid (textB s.data.toList out = (o1 ++ leB s.size 4 ++ s.data.toList ++ [0], o1.length)) := Lib.hid (by
    unfold textB
    rw [hp, Array.length_toList]
    rfl)
  clear hm1 hr1 hmv1 hp
  have hL : o1.length < 900000004 := by omega
  generalize hlen : o1.length = L at *
  have HLEN := Lib.hid hlen
  clear hlen
  have hw64 : IntKind.u64.wrap (s.size : Int) = s.size := by rw [IntKind.wrap_u64]; omega
  have HLI : Hid (∀ W, Calls Tryz.prog 21 #[.int .u64 s.size, .int .i64 4] W (LitPost2 s.size 4 W)) := Lib.hid fun W => little_pos s.size 4 (by decide) (by decide) (by omega) W
  go_wp2
  go_region_law (first
    | (refine step_mk_append (by rfl) _ _ (by rfl) M base o1 L HLEN.out ad c HR2.out (by rfl) (leB s.size 4) ⟨g2, 0, none⟩ 4 c2 (leB_length 4 _) (by decide) (by rfl) HN2.out (by omega) ?_; intro g3 cap3 w3 c3 f3 hap3)
    | (go_simp; go_wp2_with (go_at_call 21; ((with_reducible refine (HLI.out _).mono ?_)); rintro e w2 ⟨g2, c2, rfl, hn2, hb2⟩; have HN2 := Lib.hid hn2; have HR2 := Lib.hid (HR1.out.drew.below hb2); have c02 := HR2.out.c0; have f02 := HR2.out.f0 0)))
  all_goals
    have hmv2 := (HMV1.out.drew).below hb2 (by exact hM1)
    have hmk3 := hap3.1
    have hmv3 := hap3.2 w hmv2
    generalize hw4 : (w3.setCell ⟨M, 0, none⟩ (.slice (some ⟨g3, 0, none⟩) (L + 4) cap3)) = w4 at *
    have hl4 : (o1 ++ leB s.size 4).length = L + 4 := by rw [List.length_append, leB_length, HLEN.out]
    obtain ⟨ad4, c4, hr4⟩ := hmk3.row
    rw [hl4] at hr4
    have HL4 := Lib.hid hl4
    have d0 := hr4.c0
    have d1 := hr4.f0 0
    have hM4 := hr4.lt
    have HR4 := Lib.hid hr4
    have ho4 := hr4.2.1
    rw [hl4] at ho4
    have HO4 := Lib.hid ho4
    have HMV4 := Lib.hid hmv3
    have hmx1 : L + 4 + s.size ≤ maxLen := by unfold maxLen; omega
    have hbl1 : L + 4 + s.size ≤ 140737488355328 := by omega
    have hmx2 : L + 4 + s.size + 1 ≤ maxLen := by unfold maxLen; omega
    have hbl2 : (L + 4 + s.size + 1) * 1 ≤ 140737488355328 := by omega
    clear ho4 hmk3 hr4 hmv3 hmv2 hap3 hw4 c3 f3 hl4 hn2 hb2 c02 f02
    generalize o1 ++ leB s.size 4 = o4 at *
    go_wp2_with (at_builtin; refine wpList_append_string2 rfl _ _ 30 9 rfl 0 5 i0 Tryz.underlying30 Tryz.underlying9 hi hz0 hz1 hz2 _ _ _ rfl HO4.out s rfl hmx1 hbl1 (Nat.zero_le _) ?_)
    intro v5 w5 hown5 hg5 hb5
    obtain ⟨a5, c5, rfl⟩ := slice_of_own hown5
    have HO5 := Lib.hid hown5
    have HG5 := Lib.hid hg5
    have HB5 := Lib.hid hb5
    clear hown5 hg5 hb5
    go_wp2_with (at_builtin; refine wpList_append_own2 rfl _ _ 30 rfl 0 5 i0 _ 1 1 Tryz.underlying30 hi hz0 hz1 hz2 rfl (by decide) _ _ _ rfl (World.ownsRow.kept HO5.out (grownBy_below ((Below.refl _ w5).alloc (Nat.le_refl _) _)) (hown_or HO5.out)) _ 1 1 [.int .u8 0] rfl rfl ?c1 ?c2 hmx2 hbl2 (Nat.zero_le _) ?_)
    case c1 => exact World.news_of_block (cs := #[.int .u8 0]) (t := 5) (fr := (0, 0)) (heap_alloc_new w5 _)
    case c2 => intro x hx; simp at hx; subst hx; rfl
    intro v7 w7 hown7 hg7 hb7
    have hown8 : w7.ownsRow 0 5 1 v7 (o4 ++ s.data.toList ++ [0]).length (Lib.byteCells (o4 ++ s.data.toList ++ [0])) := by
      rw [Lib.byteCells_append, Lib.byteCells_append, List.length_append, List.length_append, HL4.out, Array.length_toList, List.append_assoc]
      exact hown7
    obtain ⟨a7, c7, rfl⟩ := slice_of_own hown8
    have hg47 := grown_two HG5.out (grown_two (World.grownBy_alloc w5 _ _) hg7 (.inl rfl)) HB5.out
    have hb47 : (Value.slice a7 (o4 ++ s.data.toList ++ [0]).length c7).ownBlock = (Value.slice ad4 (L + 4) c4).ownBlock ∨ ∃ g, (Value.slice a7 (o4 ++ s.data.toList ++ [0]).length c7).ownBlock = some g ∧ w4.heap.size ≤ g := by
      rcases hb7 with e | ⟨g, e, hg⟩
      · rw [e]; exact HB5.out
      · right
        have h1 := HG5.out.size
        exact ⟨g, e, by omega⟩
    have hr4 := HR4.out
    rw [← HL4.out] at hr4 hg47 hb47
    obtain ⟨hh7, hmk7, hmv7⟩ := mk_app HMV4.out hr4.1 hr4.2.2 hg47 hb47 hown8
    rw [HL4.out] at hh7
    have hl7 : (o4 ++ s.data.toList ++ [(0 : UInt8)]).length = L + 4 + s.size + 1 := by
      rw [List.length_append, List.length_append, HL4.out, Array.length_toList]
      rfl
    rw [hl7] at hmk7 hmv7
    have e0 : w7.cell? ⟨M, 0, none⟩ = some (.slice ad4 (L + 4) c4) := by rw [Lib.cell_of_heap hh7]; rfl
    have e1 := Lib.frozen_of_heap hh7 0
    have HMK7 := Lib.hid hmk7
    have HMV7 := Lib.hid hmv7
    have HL7 := Lib.hid hl7
    clear hmk7 hmv7 hr4 hg47 hb47 hb7 hg7 hown7 hown8 hh7
    rw [hl7]
    clear hl7
    go_wp2
    go_ret
    rw [HT.out]
    exact ⟨rfl, HMK7.out, HMV7.out⟩

end Go.Proofs.YtdillheepidncaaGreatDoor
