/- Rows of a duration's magnitudes: nodes, and pairs of a number and a unit. -/
import Derived.Test.YtkohgndmhgcgeaaGreatDoorTree
namespace Go.Proofs.YtkohgndmhgcgeaaGreatDoor
open Go Go.RowKit
set_option linter.unusedVariables false
set_option linter.unusedSimpArgs false

/-- A magnitude's node: its cells, its tree. -/
def magCells (x : Int × ByteArray) : List Value := [.int .i64 40, .string x.2, .string ⟨#[]⟩, .int .u64 x.1, .slice none 0 0]
def magT (x : Int × ByteArray) : Tr := .mk 40 x.2 ⟨#[]⟩ x.1 []
def spanT (l : List (Int × ByteArray)) : Tr := .mk 39 ⟨#[]⟩ ⟨#[]⟩ 0 (l.map magT)
def MagIn (x : Int × ByteArray) : Prop := (0 ≤ x.1 ∧ x.1 ≤ 18446744073709551615) ∧ x.2.size ≤ maxLen

theorem rows_length {α : Type} (k : Nat) (f : α → List Value) (hf : ∀ x, (f x).length = k) : ∀ l : List α, (l.flatMap f).length = l.length * k
  | [] => by simp
  | x :: l => by
    rw [List.flatMap_cons, List.length_append, rows_length k f hf l, hf, List.length_cons, Nat.succ_mul, Nat.add_comm]

theorem rows_at {α : Type} (k : Nat) (f : α → List Value) (hf : ∀ x, (f x).length = k) : ∀ (l : List α) (i j : Nat) (h : i < l.length), j < k → (l.flatMap f)[i * k + j]? = (f l[i])[j]?
  | [], i, j, h, _ => absurd h (Nat.not_lt_zero _)
  | x :: l, 0, j, h, hj => by
    rw [List.flatMap_cons, List.getElem?_append_left (by rw [hf]; omega)]
    simp
  | x :: l, i + 1, j, h, hj => by
    rw [List.flatMap_cons, List.getElem?_append_right (by rw [hf, Nat.succ_mul]; omega), hf, show (i + 1) * k + j - k = i * k + j by rw [Nat.succ_mul]; omega, rows_at k f hf l i j (by simpa using h) hj]
    simp

theorem magCells_length (x : Int × ByteArray) : (magCells x).length = 5 := rfl
theorem magCells_one (x : Int × ByteArray) : ∀ u ∈ magCells x, u.oneCell' = true := by
  intro u hu
  simp [magCells] at hu
  rcases hu with rfl | rfl | rfl | rfl | rfl <;> rfl

theorem slice_form {w : World} {base : Nat} {e : TypeId} {size : Nat} {v : Value} {n : Nat} {xs : List Value} (h : w.ownsRow base e size v n xs) : ∃ a c, v = .slice a n c := by
  rcases h.2 with ⟨rfl, rfl⟩ | ⟨g, cap, cur, rfl, _⟩
  · exact ⟨none, 0, rfl⟩
  · exact ⟨_, _, rfl⟩

theorem node_of_row {w : World} {base : Nat} {a : Option Addr} {n c : Nat} {l : List (Int × ByteArray)} (hl : l.length = n) (hi : ∀ x ∈ l, MagIn x) (h : w.ownsRow base 25 5 (.slice a n c) n (l.flatMap magCells)) :
    NodeIn w (fun k => base ≤ k ∧ k < w.heap.size) (spanT l) (nodeU 39 ⟨#[]⟩ ⟨#[]⟩ 0 a n c) := by
  subst hl
  have hm : ∀ (i : Nat) (h : i < (l.map magT).length), NodeIn w (fun k => base ≤ k ∧ k < w.heap.size) (l.map magT)[i] (.agg (magCells (l[i]'(by simpa using h))).toArray) := by
    intro i h
    have hx := hi (l[i]'(by simpa using h)) (List.getElem_mem _)
    simp only [List.getElem_map]
    exact NodeIn.leaf (by decide) hx.1 hx.2 (by decide) none 0
  have hz : (⟨#[]⟩ : ByteArray).size ≤ maxLen := by decide
  have hlen : (l.map magT).length = l.length := by simp
  rcases h.2 with ⟨e, h0⟩ | ⟨g, cap, cur, e, hb, hg, hc, hcm, hsz, htk⟩
  · have hl0 : l = [] := List.length_eq_zero_iff.1 h0
    subst hl0
    exact NodeIn.leaf (by decide) (by decide) hz hz a c
  · cases e
    have hlt : g < w.heap.size := (Array.getElem?_eq_some_iff.1 hg).1
    have := NodeIn.mk (w := w) (B := fun k => base ≤ k ∧ k < w.heap.size) (k := 39) (t := ⟨#[]⟩) (m := ⟨#[]⟩) (n := 0) (ks := l.map magT) (a := some ⟨g, 0, none⟩) (c := c) g 0 (fun i => if h : i < l.length then .agg (magCells l[i]).toArray else default) (by decide) (by decide) hz hz (by rw [hlen]; omega) (by rw [hlen]; exact hc) (fun _ => ⟨rfl, hb, hlt⟩)
      (fun i hi => by
        have hil : i < l.length := by simpa using hi
        simp only [dif_pos hil]
        intro j hj
        have hj5 : j < 5 := by simpa [magCells] using hj
        have h1 := rows_at 5 magCells magCells_length l i j hil hj5
        have h2 := h.cells (g := g) rfl (i * 5 + j) ((magCells l[i])[j]'(by rw [magCells_length]; exact hj5)) (by rw [h1, List.getElem?_eq_getElem])
        rw [Nat.zero_add]
        have e3 : ((⟨g, 0, none⟩ : Addr).add (i * 5 + j)) = ⟨g, i * 5 + j, none⟩ := by rw [add_at, Nat.zero_add]
        rw [e3] at h2
        rw [h2]
        simp [List.getElem?_eq_getElem])
      (fun i hi => by
        have hil : i < l.length := by simpa using hi
        simp only [dif_pos hil]
        exact hm i hi)
    rwa [hlen] at this

def durCells (x : Int × ByteArray) : List Value := [.int .i64 x.1, .string x.2]
theorem durCells_length (x : Int × ByteArray) : (durCells x).length = 2 := rfl

theorem own_ne {w : World} {base : Nat} {e : TypeId} {size : Nat} {v : Value} {n : Nat} {xs : List Value} (h : w.ownsRow base e size v n xs) {k : Nat} (hk : k < base) : v.ownBlock ≠ some k := fun e => by have := (h.lt k e).1; omega

theorem node_info : (Tryz.prog.info? 25).map (fun i => (i.zero, i.size, i.bytes)) = some (some (.agg #[.int .i64 0, .string ⟨#[]⟩, .string ⟨#[]⟩, .int .u64 0, .slice none 0 0]), 5, 72) := by kernel_rfl

/-- A number as 64 bits without a sign. -/
def wrapM (x : Int × ByteArray) : Int × ByteArray := (IntKind.u64.wrap x.1, x.2)

theorem wrapM_in (x : Int × ByteArray) (h : x.2.size ≤ maxLen) : MagIn (wrapM x) := by
  refine ⟨?_, h⟩
  show 0 ≤ IntKind.u64.wrap x.1 ∧ IntKind.u64.wrap x.1 ≤ 18446744073709551615
  rw [IntKind.wrap_u64]
  omega


/-- Numbers and units in a row. -/
def DurRow (w : World) (g : Nat) (o : Nat) (l : List (Int × ByteArray)) : Prop := ∀ j (hj : j < l.length), w.cell? ⟨g, o + j * 2, none⟩ = some (.int .i64 l[j].1) ∧ w.cell? ⟨g, o + j * 2 + 1, none⟩ = some (.string l[j].2)


theorem dur_info : (Tryz.prog.info? 260).map (fun i => (i.zero, i.size, i.bytes)) = some (some (.agg #[.int .i64 0, .string ⟨#[]⟩]), 2, 24) := by kernel_rfl

end Go.Proofs.YtkohgndmhgcgeaaGreatDoor
