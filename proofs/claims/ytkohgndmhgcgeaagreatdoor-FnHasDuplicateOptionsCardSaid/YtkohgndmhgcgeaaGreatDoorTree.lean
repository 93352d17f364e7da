/- Trees as plain data, and how they lie in memory. spec.few: the nodes of a tree are taken away from how many are left. -/
import Derived.Test.YtkohgndmhgcgeaaGreatDoorRows
import Derived.WalkKit
import Derived.Below
import Derived.Deep.Slices
import Derived.Deep.Fields
import Derived.ChangeSame
import Derived.Lib.SmallJoins
import Derived.Lib.Hide
import Derived.Lib.BufferOwn
import Derived.WalkLawsBesides
import Derived.Outline
import Derived.BigCall
import Derived.LoopTactic
namespace Go.Proofs.YtkohgndmhgcgeaaGreatDoor
open Go Go.RowKit Go.ChangeShapes Go.WideShapes Go.Deep
set_option linter.unusedVariables false
set_option linter.unusedSimpArgs false

/-- A tree. -/
inductive Tr where
  | mk (kind : Int) (text more : ByteArray) (num : Int) (kids : List Tr)

namespace Tr
def kind : Tr → Int | mk k _ _ _ _ => k
def text : Tr → ByteArray | mk _ t _ _ _ => t
def more : Tr → ByteArray | mk _ _ m _ _ => m
def num : Tr → Int | mk _ _ _ n _ => n
def kids : Tr → List Tr | mk _ _ _ _ ks => ks
instance : Inhabited Tr := ⟨.mk 0 ⟨#[]⟩ ⟨#[]⟩ 0 []⟩

theorem ind {P : Tr → Prop} (h : ∀ k t m n ks, (∀ x ∈ ks, P x) → P (mk k t m n ks)) : ∀ t, P t
  | mk k t m n ks => h k t m n ks fun x hx => ind h x
termination_by x => SizeOf.sizeOf x
decreasing_by
  have := List.sizeOf_lt_of_mem hx
  simp
  omega

/-- How many nodes there are. -/
def count : Tr → Nat
  | mk _ _ _ _ ks => 1 + (ks.attach.map fun x => count x.1).sum
termination_by x => SizeOf.sizeOf x
decreasing_by
  have := List.sizeOf_lt_of_mem x.2
  simp
  omega

theorem count_mk (k : Int) (t m : ByteArray) (n : Int) (ks : List Tr) : count (mk k t m n ks) = 1 + (ks.map count).sum := by
  rw [Tr.count, List.attach_map_val (l := ks) (f := Tr.count)]
end Tr

/-- The value of a node. -/
def nodeU (k : Int) (t m : ByteArray) (n : Int) (a : Option Addr) (l c : Nat) : Value := .agg #[.int .i64 k, .string t, .string m, .int .u64 n, .slice a l c]

/-- A struct's cells lie at a place. -/
def CellsAt (w : World) (b o : Nat) : Value → Prop
  | .agg cs => ∀ j, j < cs.size → w.cell? ⟨b, o + j, none⟩ = cs[j]?
  | _ => False

/-- In world w, in blocks that B takes, a value is a tree. -/
inductive NodeIn (w : World) (B : Nat → Prop) : Tr → Value → Prop
  | mk {k : Int} {t m : ByteArray} {n : Int} {ks : List Tr} {a : Option Addr} {c : Nat} (b o : Nat) (f : Nat → Value)
      (hk : -9223372036854775808 ≤ k ∧ k ≤ 9223372036854775807) (hn : 0 ≤ n ∧ n ≤ 18446744073709551615) (ht : t.size ≤ maxLen) (hm : m.size ≤ maxLen) (hl : ks.length ≤ maxLen) (hc : ks.length ≤ c)
      (ha : ks ≠ [] → a = some ⟨b, o, none⟩ ∧ B b)
      (hcells : ∀ i, i < ks.length → CellsAt w b (o + i * 5) (f i))
      (hkids : ∀ i (h : i < ks.length), NodeIn w B ks[i] (f i)) : NodeIn w B (.mk k t m n ks) (nodeU k t m n a ks.length c)

/-- What B takes stands as it was. -/
def Keep (B : Nat → Prop) (w w' : World) : Prop := ∀ b, B b → w'.heap[b]? = w.heap[b]?

theorem Keep.refl (B : Nat → Prop) (w : World) : Keep B w w := fun _ _ => rfl
theorem Keep.trans {B : Nat → Prop} {w w' w'' : World} (h : Keep B w w') (h' : Keep B w' w'') : Keep B w w'' := fun b hb => (h' b hb).trans (h b hb)
theorem Keep.below {n : Nat} {w w' : World} (h : Below n w w') : Keep (· < n) w w' := fun b hb => h.block b hb

theorem cell_keep {w w' : World} {b o : Nat} (h : w'.heap[b]? = w.heap[b]?) : w'.cell? ⟨b, o, none⟩ = w.cell? ⟨b, o, none⟩ := by
  unfold World.cell?
  rw [h]

theorem CellsAt.keep {w w' : World} {b o : Nat} (h : w'.heap[b]? = w.heap[b]?) : ∀ {v : Value}, CellsAt w b o v → CellsAt w' b o v
  | .agg _, hc => fun j hj => (cell_keep h).trans (hc j hj)

theorem NodeIn.keep {w w' : World} {B : Nat → Prop} (hw : Keep B w w') {t : Tr} {v : Value} (h : NodeIn w B t v) : NodeIn w' B t v := by
  induction h with
  | mk b o f hk hn ht hm hl hc ha hcells _ ih =>
    exact .mk b o f hk hn ht hm hl hc ha (fun i hi => (hcells i hi).keep (hw b (ha (by intro e; subst e; simp at hi)).2)) ih

theorem NodeIn.mono {w : World} {B B' : Nat → Prop} (hB : ∀ b, B b → B' b) {t : Tr} {v : Value} (h : NodeIn w B t v) : NodeIn w B' t v := by
  induction h with
  | mk b o f hk hn ht hm hl hc ha hcells _ ih =>
    exact .mk b o f hk hn ht hm hl hc (fun h => ⟨(ha h).1, hB _ (ha h).2⟩) hcells ih

/-- A node's parts. -/
theorem NodeIn.parts {w : World} {B : Nat → Prop} {t : Tr} {v : Value} (h : NodeIn w B t v) :
    ∃ a c, v = nodeU t.kind t.text t.more t.num a t.kids.length c ∧ (-9223372036854775808 ≤ t.kind ∧ t.kind ≤ 9223372036854775807) ∧ (0 ≤ t.num ∧ t.num ≤ 18446744073709551615) ∧ t.text.size ≤ maxLen ∧ t.more.size ≤ maxLen ∧ t.kids.length ≤ maxLen ∧ t.kids.length ≤ c ∧
      (t.kids ≠ [] → ∃ (b o : Nat) (f : Nat → Value), a = some ⟨b, o, none⟩ ∧ B b ∧ (∀ i, i < t.kids.length → CellsAt w b (o + i * 5) (f i)) ∧ ∀ i (h : i < t.kids.length), NodeIn w B t.kids[i] (f i)) := by
  cases h with
  | mk b o f hk hn ht hm hl hc ha hcells hkids =>
    exact ⟨_, _, rfl, hk, hn, ht, hm, hl, hc, fun h => ⟨b, o, f, (ha h).1, (ha h).2, hcells, hkids⟩⟩

/-- The five cells of a node that lies somewhere. -/
theorem CellsAt.five {w : World} {b o : Nat} {k : Int} {t m : ByteArray} {n : Int} {a : Option Addr} {l c : Nat} (h : CellsAt w b o (nodeU k t m n a l c)) :
    w.cell? ⟨b, o, none⟩ = some (.int .i64 k) ∧ w.cell? ⟨b, o + 1, none⟩ = some (.string t) ∧ w.cell? ⟨b, o + 2, none⟩ = some (.string m) ∧ w.cell? ⟨b, o + 3, none⟩ = some (.int .u64 n) ∧ w.cell? ⟨b, o + 4, none⟩ = some (.slice a l c) :=
  ⟨h 0 (by simp), h 1 (by simp), h 2 (by simp), h 3 (by simp), h 4 (by simp)⟩

/-- A leaf. -/
theorem NodeIn.leaf {w : World} {B : Nat → Prop} {k : Int} {t m : ByteArray} {n : Int} (hk : -9223372036854775808 ≤ k ∧ k ≤ 9223372036854775807) (hn : 0 ≤ n ∧ n ≤ 18446744073709551615) (ht : t.size ≤ maxLen) (hm : m.size ≤ maxLen) (a : Option Addr) (c : Nat) :
    NodeIn w B (.mk k t m n []) (nodeU k t m n a 0 c) :=
  .mk (ks := []) 0 0 (fun _ => default) hk hn ht hm (Nat.zero_le _) (Nat.zero_le _) (fun h => absurd rfl h) (fun _ hi => absurd hi (Nat.not_lt_zero _)) (fun _ hi => absurd hi (Nat.not_lt_zero _))

theorem tree_cells : Tryz.prog.cellsOf 25 = 5 := by kernel_rfl

theorem choose5 {n : Nat} {p : (i : Nat) → i < n → Tr → Prop} (h : ∀ i (hi : i < n), ∃ x, p i hi x) : ∃ l : List Tr, ∃ hl : l.length = n, ∀ i (hi : i < n), p i hi (l[i]'(by omega)) := by
  induction n with
  | zero => exact ⟨[], rfl, fun i hi => absurd hi (Nat.not_lt_zero _)⟩
  | succ n ih =>
    obtain ⟨l, hl, hp⟩ := ih (p := fun i hi => p i (by omega)) (fun i hi => h i (by omega))
    obtain ⟨x, hx⟩ := h n (Nat.lt_succ_self n)
    refine ⟨l ++ [x], by simp [hl], fun i hi => ?_⟩
    by_cases hin : i < n
    · rw [List.getElem_append_left (by omega)]
      exact hp i hin
    · obtain rfl : i = n := by omega
      simpa [hl] using hx

section
variable {H : Type} {enc : TypeId × Value → H} {w : World} {sp : Nat → Bool} {held : Bool}

theorem addr_none {w : World} {a : Addr} {v : Value} (h : w.cell? a = some v) : a = ⟨a.block, a.off, none⟩ := by
  obtain ⟨b, o, s⟩ := a
  unfold World.cell? at h
  cases s with
  | none => rfl
  | some x => split at h <;> simp at h

theorem cell_lt {w : World} {a : Addr} {v : Value} (h : w.cell? a = some v) : a.block < w.heap.size := by
  unfold World.cell? at h
  rcases Nat.lt_or_ge a.block w.heap.size with h' | h'
  · exact h'
  · simp [Array.getElem?_eq_none h'] at h

theorem add_at (b o n : Nat) : (⟨b, o, none⟩ : Addr).add n = ⟨b, o + n, none⟩ := by
  unfold Addr.add
  split
  · subst n; rfl
  · rfl

theorem cells_five {base : Nat} {a : Addr} {cs : List Value} (h : w.cells? base a 5 = some cs) :
    a = ⟨a.block, a.off, none⟩ ∧ a.block < w.heap.size ∧ cs.length = 5 ∧ CellsAt w a.block a.off (.agg cs.toArray) := by
  obtain ⟨_, hlen, hc⟩ := World.cells?_some h
  have h0 := hc 0 (by omega)
  have ha : a.add 0 = a := rfl
  rw [ha, List.getElem?_eq_getElem (by omega)] at h0
  have hn := addr_none h0
  refine ⟨hn, cell_lt h0, hlen, fun j hj => ?_⟩
  have hj' : j < 5 := by simp at hj; omega
  have := hc j hj'
  rw [hn, add_at] at this
  rw [this]
  simp

theorem trod_five {P : Program} {base : Nat} {t : TypeId} {f0 f1 f2 f3 f4 : Field} {fuel : Nat} {cs : List Value} {x : DataW H × List MemPlace} (ht : P.underlying t = some (.struct #[f0, f1, f2, f3, f4])) (hone : oneCellFields P #[f0, f1, f2, f3, f4] = true) (hC : P.cellsOf t = 5)
    (h : DataW.trod enc P w base sp held fuel t cs = some x) :
    ∃ (c0 c1 c2 c3 c4 : Value) (y0 y1 y2 y3 y4 : DataW H × List MemPlace) (n : Nat), cs = [c0, c1, c2, c3, c4] ∧ fuel = n + 1 ∧ DataW.trod enc P w base sp held n f0.type [c0] = some y0 ∧ DataW.trod enc P w base sp held n f1.type [c1] = some y1 ∧
      DataW.trod enc P w base sp held n f2.type [c2] = some y2 ∧ DataW.trod enc P w base sp held n f3.type [c3] = some y3 ∧ DataW.trod enc P w base sp held n f4.type [c4] = some y4 := by
  obtain ⟨xs, n, hn, _, hl, hlen, hg⟩ := DataW.trod_struct ht h
  rw [hC] at hl
  obtain ⟨o0, k0⟩ := hone_of hone 0 f0 rfl
  obtain ⟨o1, k1⟩ := hone_of hone 1 f1 rfl
  obtain ⟨o2, k2⟩ := hone_of hone 2 f2 rfl
  obtain ⟨o3, k3⟩ := hone_of hone 3 f3 rfl
  obtain ⟨o4, k4⟩ := hone_of hone 4 f4 rfl
  match cs, hl, xs, hlen with
  | [c0, c1, c2, c3, c4], _, [y0, y1, y2, y3, y4], _ =>
    exact ⟨c0, c1, c2, c3, c4, y0, y1, y2, y3, y4, n, rfl, hn, by simpa [o0, k0] using hg 0 f0 rfl, by simpa [o1, k1] using hg 1 f1 rfl, by simpa [o2, k2] using hg 2 f2 rfl, by simpa [o3, k3] using hg 3 f3 rfl, by simpa [o4, k4] using hg 4 f4 rfl⟩

theorem bounds_i64 {n : Int} (h : (Lit.int .i64 n).wf = true) : -9223372036854775808 ≤ n ∧ n ≤ 9223372036854775807 := by
  have hm : IntKind.i64.min = -9223372036854775808 := rfl
  have hx : IntKind.i64.max = 9223372036854775807 := rfl
  simp only [Lit.wf, hm, hx, Bool.and_eq_true, decide_eq_true_eq] at h
  exact h
theorem bounds_u64 {n : Int} (h : (Lit.int .u64 n).wf = true) : 0 ≤ n ∧ n ≤ 18446744073709551615 := by
  have hm : IntKind.u64.min = 0 := rfl
  have hx : IntKind.u64.max = 18446744073709551615 := rfl
  simp only [Lit.wf, hm, hx, Bool.and_eq_true, decide_eq_true_eq] at h
  exact h

set_option maxRecDepth 100000 in
theorem tree_open (fuel : Nat) : ∀ (cs : List Value) (x : DataW H × List MemPlace), DataW.trod enc Tryz.prog w 0 sp held fuel 25 cs = some x → ∃ t, NodeIn w (· < w.heap.size) t (.agg cs.toArray) := by
  induction fuel using Nat.strongRecOn with
  | ind fuel ih =>
    intro cs x h
    obtain ⟨c0, c1, c2, c3, c4, y0, y1, y2, y3, y4, n, rfl, rfl, h0, h1, h2, h3, h4⟩ := trod_five Tryz.underlying25 (by kernel_rfl) tree_cells h
    obtain ⟨k, hc0, _, w0⟩ := DataW.trod_int Tryz.underlying3 h0
    obtain ⟨t, hc1, _, w1⟩ := DataW.trod_string Tryz.underlying9 h1
    obtain ⟨m, hc2, _, w2⟩ := DataW.trod_string Tryz.underlying9 h2
    obtain ⟨u, hc3, _, w3⟩ := DataW.trod_int Tryz.underlying22 h3
    cases hc0; cases hc1; cases hc2; cases hc3
    rcases DataW.trod_slice Tryz.underlying23 h4 with ⟨hc4, _⟩ | ⟨a, len, cap, elems, rest, n', hn', hc4, _, _, hl, hm, hlen, hel, _, _⟩
    · cases hc4
      exact ⟨.mk k t m u [], .leaf (bounds_i64 w0) (bounds_u64 w3) w1 w2 none 0⟩
    · cases hc4
      rw [tree_cells] at hel
      have hel' : ∀ i (hi : i < len), ∃ x : Tr, ∃ cs : List Value, w.cells? 0 (a.add (i * 5)) 5 = some cs ∧ NodeIn w (· < w.heap.size) x (.agg cs.toArray) := by
        intro i hi
        have h1 := hel i hi
        rw [List.getElem?_eq_getElem (by omega)] at h1
        obtain ⟨cs, hcs, ht⟩ := Option.bind_eq_some_iff.1 h1
        obtain ⟨x, hx⟩ := ih n' (by omega) cs _ ht
        exact ⟨x, cs, hcs, hx⟩
      obtain ⟨ks, hks, hp⟩ := choose5 hel'
      obtain ⟨f, hf⟩ := choose_lt (α := List Value) (n := len) (p := fun i cs => w.cells? 0 (a.add (i * 5)) 5 = some cs ∧ ∀ h : i < ks.length, NodeIn w (· < w.heap.size) ks[i] (.agg cs.toArray)) (fun i hi => by
        obtain ⟨cs, h1, h2⟩ := hp i hi
        exact ⟨cs, h1, fun _ => h2⟩)
      subst hks
      refine ⟨.mk k t m u ks, .mk a.block a.off (fun i => .agg (f i).toArray) (bounds_i64 w0) (bounds_u64 w3) w1 w2 (by omega) hl ?_ ?_ ?_⟩
      · intro hne
        have hpos : 0 < ks.length := List.length_pos_iff.2 hne
        obtain ⟨g1, g2, _, _⟩ := cells_five (hf 0 hpos).1
        exact ⟨congrArg some (by simpa [Addr.add] using g1), by simpa [Addr.add] using g2⟩
      · intro i hi
        obtain ⟨g1, _, _, g4⟩ := cells_five (hf i hi).1
        obtain ⟨e1, _, _, _⟩ := cells_five (hf 0 (by omega)).1
        have e2 : a = ⟨a.block, a.off, none⟩ := by simpa [Addr.add] using e1
        have e3 : a.add (i * 5) = ⟨a.block, a.off + i * 5, none⟩ := by
          conv => lhs; rw [e2, add_at]
        rw [e3] at g4
        exact g4
      · intro i hi
        exact (hf i hi).2 hi

set_option maxRecDepth 100000 in
/-- A parameter that is a node, opened. -/
theorem tree_arg {r : Reach} {b0 : Nat} {v : Value} {d : DataW H} {p : List MemPlace} (hv : Value.okWide Tryz.prog w r b0 25 v) (h : DataW.Trod enc Tryz.prog w 0 sp held 25 v d p) :
    ∃ t, NodeIn w (· < w.heap.size) t v := by
  obtain ⟨cs, rfl, _⟩ := okWide_struct Tryz.underlying25 hv
  obtain ⟨fuel, hf⟩ := h
  obtain ⟨t, ht⟩ := tree_open fuel _ _ hf
  exact ⟨t, by simpa [Value.cells] using ht⟩
end

/-- A block of one integer. -/
def IntAt (L : Nat) (x : Int) (w : World) : Prop := w.heap[L]? = some (.cells #[.int .i64 x] 3 (0, 0))

theorem IntAt.lt {L : Nat} {x : Int} {w : World} (h : IntAt L x w) : L < w.heap.size := (Array.getElem?_eq_some_iff.1 h).1
theorem IntAt.cell {L : Nat} {x : Int} {w : World} (h : IntAt L x w) : w.cell? ⟨L, 0, none⟩ = some (.int .i64 x) := by rw [Lib.cell_of_heap h]; rfl
theorem IntAt.fz {L : Nat} {x : Int} {w : World} (h : IntAt L x w) : w.frozen? ⟨L, 0, none⟩ = false := Lib.frozen_of_heap h 0
theorem IntAt.alloc {L : Nat} {x : Int} {w : World} (h : IntAt L x w) (o : Obj) : IntAt L x (w.alloc o) := (Below.heap_alloc w o L h.lt).trans h
theorem IntAt.put {L : Nat} {x : Int} {w : World} (h : IntAt L x w) (y : Int) : IntAt L y (w.setCell ⟨L, 0, none⟩ (.int .i64 y)) := by
  unfold IntAt at h ⊢
  simp [World.setCell, Array.getElem?_modify, h]

theorem NodeIn.grown {w w' : World} {N : Nat} {row : Option Nat} {t : Tr} {v : Value} (h : NodeIn w (· < N) t v) (hg : w.grownBy w' row) (hN : N ≤ w.heap.size) (hr : ∀ r, row = some r → N ≤ r) : NodeIn w' (· < N) t v :=
  h.keep fun b hb => hg.block b (Nat.lt_of_lt_of_le hb hN) (fun e => absurd hb (Nat.not_lt.2 (hr b e.symm)))

def FewPost (t : Tr) (x : Int) (L : Nat) (w : World) (e : Ending) (w' : World) : Prop :=
  ∃ (b : Bool) (y : Int), e = .returned (.bool b) ∧ IntAt L y w' ∧ y ≤ 400 ∧ (b = true → 0 ≤ y ∧ y = x - t.count) ∧ w.grownBy w' (some L)

theorem sum_take_succ (l : List Tr) (k : Nat) (h : k < l.length) : ((l.take (k + 1)).map Tr.count).sum = ((l.take k).map Tr.count).sum + l[k].count := by
  rw [List.take_succ_eq_append_getElem h, List.map_append, List.sum_append]
  simp

set_option maxHeartbeats 2000000 in
set_option maxRecDepth 100000 in
theorem few_any (t : Tr) : ∀ (v : Value) (x : Int) (L N : Nat) (w : World), NodeIn w (· < N) t v → N ≤ L → N ≤ w.heap.size → IntAt L x w → 0 ≤ x → x ≤ 400 →
    Calls Tryz.prog 24 #[v, .pointer (some ⟨L, 0, none⟩)] w (FewPost t x L w) := by
  induction t using Tr.ind with
  | h k t m n ks ih =>
    intro v x L N w hv hNL hNw hL hx0 hx1
    obtain ⟨a, c, rfl, _, _, _, _, hlen, hcap, hkids⟩ := hv.parts
    simp only [Tr.kind, Tr.text, Tr.more, Tr.num, Tr.kids] at hlen hcap hkids ⊢
    have hLlt := hL.lt
    have c0 := hL.cell
    have f0 := hL.fz
    have hL1 := fun y => (hL.put y).alloc (.cells #[.int .i64 k, .string t, .string m, .int .u64 n, .slice a ks.length c] 25)
    have hg1 : ∀ y, w.grownBy ((w.setCell ⟨L, 0, none⟩ (.int .i64 y)).alloc (.cells #[.int .i64 k, .string t, .string m, .int .u64 n, .slice a ks.length c] 25)) (some L) := fun y => Lib.grownBy_allocR (Lib.grownBy_setB (World.grownBy.refl w _) 0 _) _
    have hb1 : ∀ y, ((w.setCell ⟨L, 0, none⟩ (.int .i64 y)).alloc (.cells #[.int .i64 k, .string t, .string m, .int .u64 n, .slice a ks.length c] 25)).heap[w.heap.size]? = some (.cells #[.int .i64 k, .string t, .string m, .int .u64 n, .slice a ks.length c] 25 (0, 0)) :=
      fun y => by
        have := heap_alloc_new (w.setCell ⟨L, 0, none⟩ (.int .i64 y)) (.cells #[.int .i64 k, .string t, .string m, .int .u64 n, .slice a ks.length c] 25)
        simpa [World.setCell] using this
    have HL1 := Lib.hid hL1
    have HG1 := Lib.hid hg1
    have HB1 := Lib.hid hb1
    have HV := Lib.hid hv
    have HK := Lib.hid hkids
    have HI := Lib.hid ih
    have hcount := Lib.hid (Tr.count_mk k t m n ks)
    clear hL hL1 hg1 hb1 hv hkids ih
    unfold maxLen at hlen
    unfold nodeU
    go_enter Tryz.func24, Tryz.ntmps24
    by_cases hz : x = 0
    · subst hz
      go_wp2
      go_ret
      exact ⟨false, -1, rfl, HL1.out _, by omega, (fun h => by cases h), HG1.out _⟩
    · have hneg : ¬ x - 1 < 0 := by omega
      go_wp2
      go_loopw [5] (fun i wr => ∃ (j : Nat) (y : Int), i = .int .i64 j ∧ j ≤ ks.length ∧ IntAt L y wr ∧ 0 ≤ y ∧ y ≤ 400 ∧ y = x - 1 - ((ks.take j).map Tr.count).sum ∧ w.grownBy wr (some L) ∧ wr.heap[w.heap.size]? = some (.cells #[.int .i64 k, .string t, .string m, .int .u64 n, .slice a ks.length c] 25 (0, 0))) (fun i _ => ks.length - (intOf i).toNat)
      case atStart => exact ⟨0, x - 1, rfl, Nat.zero_le _, HL1.out _, by omega, by omega, by simp, HG1.out _, HB1.out _⟩
      case round =>
        obtain ⟨j, y, rfl, hj, hLy, hy0, hy1, hy2, hg, hb⟩ := hrel
        have b0 : wr.cell? ⟨w.heap.size, 4, none⟩ = some (.slice a ks.length c) := by rw [Lib.cell_of_heap hb]; rfl
        have HLY := Lib.hid hLy
        have HY2 := Lib.hid hy2
        have HG := Lib.hid hg
        have HB := Lib.hid hb
        clear hLy hy2 hg hb c0 f0
        by_cases hlt : j < ks.length
        · obtain ⟨b, o, f, rfl, hbN, hcells, hin⟩ := HK.out (by intro e; simp [e] at hlt)
          have hk1 := (hin j hlt).grown HG.out hNw (fun r e => by cases e; exact hNL)
          obtain ⟨a', c', hfe, _⟩ := hk1.parts
          have hc5 := (hcells j hlt).keep (HG.out.block b (Nat.lt_of_lt_of_le hbN hNw) (fun e => by cases e; omega))
          rw [hfe] at hc5
          obtain ⟨d0, d1, d2, d3, d4⟩ := hc5.five
          have hC := Lib.hid (HI.out _ (List.getElem_mem hlt) _ y L N wr hk1 hNL (Nat.le_trans hNw HG.out.size) HLY.out hy0 hy1)
          rw [hfe] at hC
          have HFE := Lib.hid hfe
          clear hk1 hfe hc5 hcells hin
          have htake := Lib.hid (sum_take_succ ks j hlt)
          generalize ks[j] = q at *
          unfold nodeU at hC
          go_wp2_with fail
          ((with_reducible refine hC.out.mono ?_))
          rintro e w2 ⟨bb, z, rfl, hz1, hz2, hz3, hg2⟩
          have hg3 := Lib.grownBy_trans HG.out hg2
          cases bb with
          | false =>
            go_wp2
            go_ret
            exact ⟨false, z, rfl, hz1, hz2, (fun h => by cases h), hg3⟩
          | true =>
            obtain ⟨hz4, hz5⟩ := hz3 rfl
            have hbk : w2.heap[w.heap.size]? = some (.cells #[.int .i64 k, .string t, .string m, .int .u64 n, .slice (some ⟨b, o, none⟩) ks.length c] 25 (0, 0)) :=
              (hg2.block _ (Array.getElem?_eq_some_iff.1 HB.out).1 (fun e => by cases e; omega)).trans HB.out
            have hsum : z = x - 1 - ((ks.take (j + 1)).map Tr.count).sum := by
              have h1 := HY2.out
              have h2 := htake.out
              omega
            have HS := Lib.hid hsum
            clear hsum hz3 hz5
            go_wp2
            go_roundw
            case rel => exact ⟨j + 1, z, by go_num, by omega, hz1, hz4, hz2, HS.out, hg3, hbk⟩
            case measure => simp [intOf]; omega
        · have hsum : x - 1 - ((ks.take j).map Tr.count).sum = x - (Tr.mk k t m n ks).count := by
            rw [hcount.out, List.take_of_length_le (by omega)]
            omega
          have HS := Lib.hid hsum
          clear hsum
          go_wp2
          go_ret
          exact ⟨true, y, rfl, HLY.out, hy1, (fun _ => ⟨hy0, HY2.out.trans HS.out⟩), HG.out⟩

end Go.Proofs.YtkohgndmhgcgeaaGreatDoor
