/- Trees as plain data, and how they lie in memory. -/
import Derived.Test.YtdillheepidncaaGreatDoorRows
import Derived.WalkKit
import Derived.Below
import Derived.Deep.Slices
import Derived.Deep.Fields
import Derived.ChangeSame
import Derived.Lib.SmallJoins
import Derived.Lib.Hide
import Derived.Lib.BufferOwn
namespace Go.Proofs.YtdillheepidncaaGreatDoor
open Go Go.RowKit Go.ChangeShapes Go.WideShapes Go.Deep
set_option linter.unusedVariables false

/-- A tree. -/
inductive Tr where
  | mk (kind : Int) (text more : ByteArray) (num : Int) (kids : List Tr)

namespace Tr
def kind : Tr → Int | mk k _ _ _ _ => k
def text : Tr → ByteArray | mk _ t _ _ _ => t
def more : Tr → ByteArray | mk _ _ m _ _ => m
def num : Tr → Int | mk _ _ _ n _ => n
def kids : Tr → List Tr | mk _ _ _ _ ks => ks
instance : Inhabited Tr := ⟨.mk 0 ⟨#[]⟩ ⟨#[]⟩ 0 []⟩

theorem ind {P : Tr → Prop} (h : ∀ k t m n ks, (∀ x ∈ ks, P x) → P (mk k t m n ks)) : ∀ t, P t
  | mk k t m n ks => h k t m n ks fun x hx => ind h x
termination_by x => SizeOf.sizeOf x
decreasing_by
  have := List.sizeOf_lt_of_mem hx
  simp
  omega

/-- How many nodes there are. -/
def count : Tr → Nat
  | mk _ _ _ _ ks => 1 + (ks.attach.map fun x => count x.1).sum
termination_by x => SizeOf.sizeOf x
decreasing_by
  have := List.sizeOf_lt_of_mem x.2
  simp
  omega

theorem count_mk (k : Int) (t m : ByteArray) (n : Int) (ks : List Tr) : count (mk k t m n ks) = 1 + (ks.map count).sum := by
  rw [Tr.count, List.attach_map_val (l := ks) (f := Tr.count)]
end Tr

/-- The value of a node. -/
def nodeU (k : Int) (t m : ByteArray) (n : Int) (a : Option Addr) (l c : Nat) : Value := .agg #[.int .i64 k, .string t, .string m, .int .u64 n, .slice a l c]

/-- A struct's cells lie at a place. -/
def CellsAt (w : World) (b o : Nat) : Value → Prop
  | .agg cs => ∀ j, j < cs.size → w.cell? ⟨b, o + j, none⟩ = cs[j]?
  | _ => False

/-- In world w, in blocks that B takes, a value is a tree. -/
inductive NodeIn (w : World) (B : Nat → Prop) : Tr → Value → Prop
  | mk {k : Int} {t m : ByteArray} {n : Int} {ks : List Tr} {a : Option Addr} {c : Nat} (b o : Nat) (f : Nat → Value)
      (hk : -9223372036854775808 ≤ k ∧ k ≤ 9223372036854775807) (hn : 0 ≤ n ∧ n ≤ 18446744073709551615) (ht : t.size ≤ maxLen) (hm : m.size ≤ maxLen) (hl : ks.length ≤ maxLen) (hc : ks.length ≤ c)
      (ha : ks ≠ [] → a = some ⟨b, o, none⟩ ∧ B b)
      (hcells : ∀ i, i < ks.length → CellsAt w b (o + i * 5) (f i))
      (hkids : ∀ i (h : i < ks.length), NodeIn w B ks[i] (f i)) : NodeIn w B (.mk k t m n ks) (nodeU k t m n a ks.length c)

/-- What B takes stands as it was. -/
def Keep (B : Nat → Prop) (w w' : World) : Prop := ∀ b, B b → w'.heap[b]? = w.heap[b]?

theorem Keep.refl (B : Nat → Prop) (w : World) : Keep B w w := fun _ _ => rfl
theorem Keep.trans {B : Nat → Prop} {w w' w'' : World} (h : Keep B w w') (h' : Keep B w' w'') : Keep B w w'' := fun b hb => (h' b hb).trans (h b hb)
theorem Keep.below {n : Nat} {w w' : World} (h : Below n w w') : Keep (· < n) w w' := fun b hb => h.block b hb

theorem cell_keep {w w' : World} {b o : Nat} (h : w'.heap[b]? = w.heap[b]?) : w'.cell? ⟨b, o, none⟩ = w.cell? ⟨b, o, none⟩ := by
  unfold World.cell?
  rw [h]

theorem CellsAt.keep {w w' : World} {b o : Nat} (h : w'.heap[b]? = w.heap[b]?) : ∀ {v : Value}, CellsAt w b o v → CellsAt w' b o v
  | .agg _, hc => fun j hj => (cell_keep h).trans (hc j hj)

theorem NodeIn.keep {w w' : World} {B : Nat → Prop} (hw : Keep B w w') {t : Tr} {v : Value} (h : NodeIn w B t v) : NodeIn w' B t v := by
  induction h with
  | mk b o f hk hn ht hm hl hc ha hcells _ ih =>
    exact .mk b o f hk hn ht hm hl hc ha (fun i hi => (hcells i hi).keep (hw b (ha (by intro e; subst e; simp at hi)).2)) ih

theorem NodeIn.mono {w : World} {B B' : Nat → Prop} (hB : ∀ b, B b → B' b) {t : Tr} {v : Value} (h : NodeIn w B t v) : NodeIn w B' t v := by
  induction h with
  | mk b o f hk hn ht hm hl hc ha hcells _ ih =>
    exact .mk b o f hk hn ht hm hl hc (fun h => ⟨(ha h).1, hB _ (ha h).2⟩) hcells ih

/-- A node's parts. -/
theorem NodeIn.parts {w : World} {B : Nat → Prop} {t : Tr} {v : Value} (h : NodeIn w B t v) :
    ∃ a c, v = nodeU t.kind t.text t.more t.num a t.kids.length c ∧ (-9223372036854775808 ≤ t.kind ∧ t.kind ≤ 9223372036854775807) ∧ (0 ≤ t.num ∧ t.num ≤ 18446744073709551615) ∧ t.text.size ≤ maxLen ∧ t.more.size ≤ maxLen ∧ t.kids.length ≤ maxLen ∧ t.kids.length ≤ c ∧
      (t.kids ≠ [] → ∃ (b o : Nat) (f : Nat → Value), a = some ⟨b, o, none⟩ ∧ B b ∧ (∀ i, i < t.kids.length → CellsAt w b (o + i * 5) (f i)) ∧ ∀ i (h : i < t.kids.length), NodeIn w B t.kids[i] (f i)) := by
  cases h with
  | mk b o f hk hn ht hm hl hc ha hcells hkids =>
    exact ⟨_, _, rfl, hk, hn, ht, hm, hl, hc, fun h => ⟨b, o, f, (ha h).1, (ha h).2, hcells, hkids⟩⟩

/-- The five cells of a node that lies somewhere. -/
theorem CellsAt.five {w : World} {b o : Nat} {k : Int} {t m : ByteArray} {n : Int} {a : Option Addr} {l c : Nat} (h : CellsAt w b o (nodeU k t m n a l c)) :
    w.cell? ⟨b, o, none⟩ = some (.int .i64 k) ∧ w.cell? ⟨b, o + 1, none⟩ = some (.string t) ∧ w.cell? ⟨b, o + 2, none⟩ = some (.string m) ∧ w.cell? ⟨b, o + 3, none⟩ = some (.int .u64 n) ∧ w.cell? ⟨b, o + 4, none⟩ = some (.slice a l c) :=
  ⟨h 0 (by simp), h 1 (by simp), h 2 (by simp), h 3 (by simp), h 4 (by simp)⟩

/-- A leaf. -/
theorem NodeIn.leaf {w : World} {B : Nat → Prop} {k : Int} {t m : ByteArray} {n : Int} (hk : -9223372036854775808 ≤ k ∧ k ≤ 9223372036854775807) (hn : 0 ≤ n ∧ n ≤ 18446744073709551615) (ht : t.size ≤ maxLen) (hm : m.size ≤ maxLen) (a : Option Addr) (c : Nat) :
    NodeIn w B (.mk k t m n []) (nodeU k t m n a 0 c) :=
  .mk (ks := []) 0 0 (fun _ => default) hk hn ht hm (Nat.zero_le _) (Nat.zero_le _) (fun h => absurd rfl h) (fun _ hi => absurd hi (Nat.not_lt_zero _)) (fun _ hi => absurd hi (Nat.not_lt_zero _))

theorem tree_cells : Tryz.prog.cellsOf 25 = 5 := by kernel_rfl

theorem choose5 {n : Nat} {p : (i : Nat) → i < n → Tr → Prop} (h : ∀ i (hi : i < n), ∃ x, p i hi x) : ∃ l : List Tr, ∃ hl : l.length = n, ∀ i (hi : i < n), p i hi (l[i]'(by omega)) := by
  induction n with
  | zero => exact ⟨[], rfl, fun i hi => absurd hi (Nat.not_lt_zero _)⟩
  | succ n ih =>
    obtain ⟨l, hl, hp⟩ := ih (p := fun i hi => p i (by omega)) (fun i hi => h i (by omega))
    obtain ⟨x, hx⟩ := h n (Nat.lt_succ_self n)
    refine ⟨l ++ [x], by simp [hl], fun i hi => ?_⟩
    by_cases hin : i < n
    · rw [List.getElem_append_left (by omega)]
      exact hp i hin
    · obtain rfl : i = n := by omega
      simpa [hl] using hx

section
variable {H : Type} {enc : TypeId × Value → H} {w : World} {sp : Nat → Bool} {held : Bool}

theorem addr_none {w : World} {a : Addr} {v : Value} (h : w.cell? a = some v) : a = ⟨a.block, a.off, none⟩ := by
  obtain ⟨b, o, s⟩ := a
  unfold World.cell? at h
  cases s with
  | none => rfl
  | some x => split at h <;> simp at h

theorem cell_lt {w : World} {a : Addr} {v : Value} (h : w.cell? a = some v) : a.block < w.heap.size := by
  unfold World.cell? at h
  rcases Nat.lt_or_ge a.block w.heap.size with h' | h'
  · exact h'
  · simp [Array.getElem?_eq_none h'] at h

theorem add_at (b o n : Nat) : (⟨b, o, none⟩ : Addr).add n = ⟨b, o + n, none⟩ := by
  unfold Addr.add
  split
  · subst n; rfl
  · rfl

theorem cells_five {base : Nat} {a : Addr} {cs : List Value} (h : w.cells? base a 5 = some cs) :
    a = ⟨a.block, a.off, none⟩ ∧ a.block < w.heap.size ∧ cs.length = 5 ∧ CellsAt w a.block a.off (.agg cs.toArray) := by
  obtain ⟨_, hlen, hc⟩ := World.cells?_some h
  have h0 := hc 0 (by omega)
  have ha : a.add 0 = a := rfl
  rw [ha, List.getElem?_eq_getElem (by omega)] at h0
  have hn := addr_none h0
  refine ⟨hn, cell_lt h0, hlen, fun j hj => ?_⟩
  have hj' : j < 5 := by simp at hj; omega
  have := hc j hj'
  rw [hn, add_at] at this
  rw [this]
  simp

theorem trod_five {P : Program} {base : Nat} {t : TypeId} {f0 f1 f2 f3 f4 : Field} {fuel : Nat} {cs : List Value} {x : DataW H × List MemPlace} (ht : P.underlying t = some (.struct #[f0, f1, f2, f3, f4])) (hone : oneCellFields P #[f0, f1, f2, f3, f4] = true) (hC : P.cellsOf t = 5)
    (h : DataW.trod enc P w base sp held fuel t cs = some x) :
    ∃ (c0 c1 c2 c3 c4 : Value) (y0 y1 y2 y3 y4 : DataW H × List MemPlace) (n : Nat), cs = [c0, c1, c2, c3, c4] ∧ fuel = n + 1 ∧ DataW.trod enc P w base sp held n f0.type [c0] = some y0 ∧ DataW.trod enc P w base sp held n f1.type [c1] = some y1 ∧
      DataW.trod enc P w base sp held n f2.type [c2] = some y2 ∧ DataW.trod enc P w base sp held n f3.type [c3] = some y3 ∧ DataW.trod enc P w base sp held n f4.type [c4] = some y4 := by
  obtain ⟨xs, n, hn, _, hl, hlen, hg⟩ := DataW.trod_struct ht h
  rw [hC] at hl
  obtain ⟨o0, k0⟩ := hone_of hone 0 f0 rfl
  obtain ⟨o1, k1⟩ := hone_of hone 1 f1 rfl
  obtain ⟨o2, k2⟩ := hone_of hone 2 f2 rfl
  obtain ⟨o3, k3⟩ := hone_of hone 3 f3 rfl
  obtain ⟨o4, k4⟩ := hone_of hone 4 f4 rfl
  match cs, hl, xs, hlen with
  | [c0, c1, c2, c3, c4], _, [y0, y1, y2, y3, y4], _ =>
    exact ⟨c0, c1, c2, c3, c4, y0, y1, y2, y3, y4, n, rfl, hn, by simpa [o0, k0] using hg 0 f0 rfl, by simpa [o1, k1] using hg 1 f1 rfl, by simpa [o2, k2] using hg 2 f2 rfl, by simpa [o3, k3] using hg 3 f3 rfl, by simpa [o4, k4] using hg 4 f4 rfl⟩

theorem bounds_i64 {n : Int} (h : (Lit.int .i64 n).wf = true) : -9223372036854775808 ≤ n ∧ n ≤ 9223372036854775807 := by
  have hm : IntKind.i64.min = -9223372036854775808 := rfl
  have hx : IntKind.i64.max = 9223372036854775807 := rfl
  simp only [Lit.wf, hm, hx, Bool.and_eq_true, decide_eq_true_eq] at h
  exact h
theorem bounds_u64 {n : Int} (h : (Lit.int .u64 n).wf = true) : 0 ≤ n ∧ n ≤ 18446744073709551615 := by
  have hm : IntKind.u64.min = 0 := rfl
  have hx : IntKind.u64.max = 18446744073709551615 := rfl
  simp only [Lit.wf, hm, hx, Bool.and_eq_true, decide_eq_true_eq] at h
  exact h

set_option maxRecDepth 100000 in
theorem tree_open (fuel : Nat) : ∀ (cs : List Value) (x : DataW H × List MemPlace), DataW.trod enc Tryz.prog w 0 sp held fuel 25 cs = some x → ∃ t, NodeIn w (· < w.heap.size) t (.agg cs.toArray) := by
  induction fuel using Nat.strongRecOn with
  | ind fuel ih =>
    intro cs x h
    obtain ⟨c0, c1, c2, c3, c4, y0, y1, y2, y3, y4, n, rfl, rfl, h0, h1, h2, h3, h4⟩ := trod_five Tryz.underlying25 (by kernel_rfl) tree_cells h
    obtain ⟨k, hc0, _, w0⟩ := DataW.trod_int Tryz.underlying3 h0
    obtain ⟨t, hc1, _, w1⟩ := DataW.trod_string Tryz.underlying9 h1
    obtain ⟨m, hc2, _, w2⟩ := DataW.trod_string Tryz.underlying9 h2
    obtain ⟨u, hc3, _, w3⟩ := DataW.trod_int Tryz.underlying22 h3
    cases hc0; cases hc1; cases hc2; cases hc3
    rcases DataW.trod_slice Tryz.underlying23 h4 with ⟨hc4, _⟩ | ⟨a, len, cap, elems, rest, n', hn', hc4, _, _, hl, hm, hlen, hel, _, _⟩
    · cases hc4
      exact ⟨.mk k t m u [], .leaf (bounds_i64 w0) (bounds_u64 w3) w1 w2 none 0⟩
    · cases hc4
      rw [tree_cells] at hel
      have hel' : ∀ i (hi : i < len), ∃ x : Tr, ∃ cs : List Value, w.cells? 0 (a.add (i * 5)) 5 = some cs ∧ NodeIn w (· < w.heap.size) x (.agg cs.toArray) := by
        intro i hi
        have h1 := hel i hi
        rw [List.getElem?_eq_getElem (by omega)] at h1
        obtain ⟨cs, hcs, ht⟩ := Option.bind_eq_some_iff.1 h1
        obtain ⟨x, hx⟩ := ih n' (by omega) cs _ ht
        exact ⟨x, cs, hcs, hx⟩
      obtain ⟨ks, hks, hp⟩ := choose5 hel'
      obtain ⟨f, hf⟩ := choose_lt (α := List Value) (n := len) (p := fun i cs => w.cells? 0 (a.add (i * 5)) 5 = some cs ∧ ∀ h : i < ks.length, NodeIn w (· < w.heap.size) ks[i] (.agg cs.toArray)) (fun i hi => by
        obtain ⟨cs, h1, h2⟩ := hp i hi
        exact ⟨cs, h1, fun _ => h2⟩)
      subst hks
      refine ⟨.mk k t m u ks, .mk a.block a.off (fun i => .agg (f i).toArray) (bounds_i64 w0) (bounds_u64 w3) w1 w2 (by omega) hl ?_ ?_ ?_⟩
      · intro hne
        have hpos : 0 < ks.length := List.length_pos_iff.2 hne
        obtain ⟨g1, g2, _, _⟩ := cells_five (hf 0 hpos).1
        exact ⟨congrArg some (by simpa [Addr.add] using g1), by simpa [Addr.add] using g2⟩
      · intro i hi
        obtain ⟨g1, _, _, g4⟩ := cells_five (hf i hi).1
        obtain ⟨e1, _, _, _⟩ := cells_five (hf 0 (by omega)).1
        have e2 : a = ⟨a.block, a.off, none⟩ := by simpa [Addr.add] using e1
        have e3 : a.add (i * 5) = ⟨a.block, a.off + i * 5, none⟩ := by
          conv => lhs; rw [e2, add_at]
        rw [e3] at g4
        exact g4
      · intro i hi
        exact (hf i hi).2 hi

set_option maxRecDepth 100000 in
/-- A parameter that is a node, opened. -/
theorem tree_arg {r : Reach} {b0 : Nat} {v : Value} {d : DataW H} {p : List MemPlace} (hv : Value.okWide Tryz.prog w r b0 25 v) (h : DataW.Trod enc Tryz.prog w 0 sp held 25 v d p) :
    ∃ t, NodeIn w (· < w.heap.size) t v := by
  obtain ⟨cs, rfl, _⟩ := okWide_struct Tryz.underlying25 hv
  obtain ⟨fuel, hf⟩ := h
  obtain ⟨t, ht⟩ := tree_open fuel _ _ hf
  exact ⟨t, by simpa [Value.cells] using ht⟩
end

end Go.Proofs.YtdillheepidncaaGreatDoor
