/- A table's layout, step by step. Plain Lean. -/
import Derived.Test.YtdillheepidncaaGreatDoorBufPure
namespace Go.Proofs.YtdillheepidncaaGreatDoor
set_option linter.unusedVariables false

theorem most_snoc (l : List SlotP) (s : SlotP) : most1 (l ++ [s]) = max (most1 l) (s.idx + 1) := by
  unfold most1
  rw [List.foldl_append]
  rfl

theorem take_snoc {α : Type} (l : List α) (k : Nat) (h : k < l.length) : l.take (k + 1) = l.take k ++ [l[k]] := List.take_succ_eq_append_getElem h

theorem most_take (l : List SlotP) (k : Nat) (h : k < l.length) : most1 (l.take (k + 1)) = max (most1 (l.take k)) (l[k].idx + 1) := by
  rw [take_snoc l k h, most_snoc]

theorem most_foldl (l : List SlotP) : ∀ m, m ≤ l.foldl (fun m s => max m (s.idx + 1)) m ∧ ∀ s ∈ l, s.idx + 1 ≤ l.foldl (fun m s => max m (s.idx + 1)) m := by
  induction l with
  | nil => intro m; exact ⟨Nat.le_refl _, fun s hs => by cases hs⟩
  | cons x l ih =>
    intro m
    rw [List.foldl_cons]
    obtain ⟨h1, h2⟩ := ih (max m (x.idx + 1))
    refine ⟨by omega, fun s hs => ?_⟩
    rcases List.mem_cons.1 hs with rfl | hs
    · omega
    · exact h2 s hs

theorem idx_most (l : List SlotP) (s : SlotP) (h : s ∈ l) : s.idx < most1 l := (most_foldl l 0).2 s h

theorem most_le (l : List SlotP) (n : Nat) (h : ∀ s ∈ l, s.idx < n) : most1 l ≤ n := by
  unfold most1
  have : ∀ (l : List SlotP) m, m ≤ n → (∀ s ∈ l, s.idx < n) → l.foldl (fun m s => max m (s.idx + 1)) m ≤ n := by
    intro l
    induction l with
    | nil => intro m hm _; exact hm
    | cons x l ih =>
      intro m hm hl
      rw [List.foldl_cons]
      exact ih _ (by have := hl x (by simp); omega) fun s hs => hl s (by simp [hs])
  exact this l 0 (Nat.zero_le _) h

/-- The places and the size behind so many widths. -/
def layAt (l : List SlotP) (j : Nat) : List Nat × Nat := ([8, 4, 2, 1].take j).foldl (fun acc width => l.foldl (placeOne width) acc) (List.replicate (most1 l) 0, 4)
/-- .. and so many slots of the next. -/
def layIn (l : List SlotP) (width j k : Nat) : List Nat × Nat := (l.take k).foldl (placeOne width) (layAt l j)

theorem layAt_four (l : List SlotP) : layAt l 4 = layout l := rfl
theorem layIn_zero (l : List SlotP) (width j : Nat) : layIn l width j 0 = layAt l j := rfl
theorem layIn_succ (l : List SlotP) (width j k : Nat) (h : k < l.length) : layIn l width j (k + 1) = placeOne width (layIn l width j k) l[k] := by
  unfold layIn
  rw [take_snoc l k h, List.foldl_append]
  rfl
theorem layAt_succ (l : List SlotP) (j : Nat) (h : j < 4) : layAt l (j + 1) = layIn l ([8, 4, 2, 1][j]'h) j l.length := by
  unfold layIn
  rw [List.take_length]
  unfold layAt
  rw [take_snoc [8, 4, 2, 1] j h, List.foldl_append]
  rfl

/-- What holds all along: so many places, none behind the size, the size no more than so much. -/
structure LayOk (n b : Nat) (acc : List Nat × Nat) : Prop where
  len : acc.1.length = n
  le : ∀ p ∈ acc.1, p ≤ acc.2
  big : acc.2 ≤ b

theorem alignUp_le (w s : Nat) (hw : 0 < w) : s ≤ alignUp w s ∧ alignUp w s < s + w := by
  unfold alignUp
  have := Nat.mod_lt (w - s % w) hw
  omega

theorem placeOne_ok {n b : Nat} {acc : List Nat × Nat} (h : LayOk n b acc) (width : Nat) (hw : 0 < width) (hw8 : width ≤ 8) (s : SlotP) : LayOk n (b + 16) (placeOne width acc s) := by
  unfold placeOne
  split
  · have h1 := alignUp_le width acc.2 hw
    have h2 := h.big
    refine ⟨by simp [h.len], fun p hp => ?_, by simp only; omega⟩
    simp only at hp ⊢
    rcases List.mem_or_eq_of_mem_set hp with hp | rfl
    · have := h.le p hp; omega
    · omega
  · exact ⟨h.len, h.le, Nat.le_trans h.big (Nat.le_add_right _ _)⟩

theorem fold_ok (width : Nat) (hw : 0 < width) (hw8 : width ≤ 8) : ∀ (l : List SlotP) {n b : Nat} {acc : List Nat × Nat}, LayOk n b acc → LayOk n (b + 16 * l.length) (l.foldl (placeOne width) acc)
  | [], _, _, _, h => h
  | s :: l, n, b, acc, h => by
    have := fold_ok width hw hw8 l (placeOne_ok h width hw hw8 s)
    rw [List.foldl_cons]
    rw [show b + 16 * (s :: l).length = b + 16 + 16 * l.length by rw [List.length_cons]; omega]
    exact this

theorem lay_start (l : List SlotP) : LayOk (most1 l) 4 (List.replicate (most1 l) 0, 4) :=
  ⟨List.length_replicate, fun p hp => by rw [(List.mem_replicate.1 hp).2]; exact Nat.zero_le _, Nat.le_refl _⟩

theorem width_ok : ∀ j (h : j < 4), 0 < [8, 4, 2, 1][j]'h ∧ [8, 4, 2, 1][j]'h ≤ 8 := by decide

theorem layAt_ok (l : List SlotP) : ∀ j, j ≤ 4 → LayOk (most1 l) (4 + 16 * l.length * j) (layAt l j)
  | 0, _ => lay_start l
  | j + 1, h => by
    have h1 := layAt_ok l j (by omega)
    rw [layAt_succ l j (by omega)]
    unfold layIn
    rw [List.take_length]
    have h2 := fold_ok ([8, 4, 2, 1][j]'(by simp; omega)) (width_ok j (by omega)).1 (width_ok j (by omega)).2 l h1
    rw [show 4 + 16 * l.length * (j + 1) = 4 + 16 * l.length * j + 16 * l.length by rw [Nat.mul_succ]; omega]
    exact h2

theorem layIn_ok (l : List SlotP) (width j k : Nat) (hj : j ≤ 4) (hw : 0 < width) (hw8 : width ≤ 8) (hk : k ≤ l.length) : LayOk (most1 l) (4 + 80 * l.length) (layIn l width j k) := by
  have h1 := layAt_ok l j hj
  have h2 := fold_ok width hw hw8 (l.take k) h1
  refine ⟨h2.len, h2.le, Nat.le_trans h2.big ?_⟩
  have : (l.take k).length = k := by simp; omega
  rw [this]
  have : 16 * l.length * j ≤ 16 * l.length * 4 := Nat.mul_le_mul_left _ hj
  omega

theorem putNums_append (at_ : Nat) (places : List Nat) : ∀ (a b : List SlotP) (l : List UInt8), putNums at_ places (a ++ b) l = putNums at_ places b (putNums at_ places a l)
  | [], _, _ => rfl
  | s :: a, b, l => by
    rw [List.cons_append, putNums, putNums_append at_ places a b, putNums]

theorem putRefs_append (at_ : Nat) (places : List Nat) : ∀ (a b : List SlotP) (l : List UInt8), putRefs at_ places (a ++ b) l = putRefs at_ places b (putRefs at_ places a l)
  | [], _, _ => rfl
  | s :: a, b, l => by
    rw [List.cons_append, putRefs, putRefs_append at_ places a b, putRefs]

theorem putNums_take (at_ : Nat) (places : List Nat) (l : List SlotP) (k : Nat) (h : k < l.length) (L : List UInt8) : putNums at_ places (l.take (k + 1)) L = (match l[k].ref with | none => patch (putNums at_ places (l.take k) L) (at_ + places.getD l[k].idx 0) (leB l[k].num l[k].width) | some _ => putNums at_ places (l.take k) L) := by
  rw [take_snoc l k h, putNums_append]
  rfl

theorem putRefs_take (at_ : Nat) (places : List Nat) (l : List SlotP) (k : Nat) (h : k < l.length) (L : List UInt8) : putRefs at_ places (l.take (k + 1)) L = (match l[k].ref with | none => putRefs at_ places (l.take k) L | some P => patch (P (putRefs at_ places (l.take k) L)).1 (at_ + places.getD l[k].idx 0) (leB ((P (putRefs at_ places (l.take k) L)).2 - (at_ + places.getD l[k].idx 0)) 4)) := by
  rw [take_snoc l k h, putRefs_append]
  rfl

theorem szSum_append : ∀ (a b : List SlotQ), szSum (a ++ b) = szSum a + szSum b
  | [], b => by simp [szSum]
  | f :: a, b => by
    rw [List.cons_append, szSum, szSum, szSum_append a b]
    omega

theorem szSum_take (fs : List SlotQ) (k : Nat) (h : k < fs.length) : szSum (fs.take k) + (match fs[k].s.ref with | none => 0 | some _ => fs[k].sz) ≤ szSum fs := by
  have h1 : szSum fs = szSum (fs.take k) + szSum (fs.drop k) := by rw [← szSum_append, List.take_append_drop]
  rw [List.drop_eq_getElem_cons h, szSum] at h1
  rw [h1]
  exact Nat.add_le_add_left (Nat.le_add_right _ _) _

theorem szSum_take_le (fs : List SlotQ) (k : Nat) : szSum (fs.take k) ≤ szSum fs := by
  have h1 : szSum fs = szSum (fs.take k) + szSum (fs.drop k) := by rw [← szSum_append, List.take_append_drop]
  omega

end Go.Proofs.YtdillheepidncaaGreatDoor
