/- Plain facts on texts, kinds, nodes and their blocks. -/
import Derived.Test.YtkohgndmhgcgeaaGreatDoorTree
import Derived.Test.YtkohgndmhgcgeaaGreatDoorMagRow
import Derived.Deep.RegionHeld3
import Derived.Deep.QuietTactic
import Derived.Deep.DeepCutAuto
import Derived.BigQuiet
namespace Go.Proofs.YtkohgndmhgcgeaaGreatDoor
open Go Go.RowKit
set_option linter.unusedVariables false
set_option linter.unusedSimpArgs false

theorem text_ne {a b : ByteArray} (h : a ≠ b) : (a.toList == b.toList) = false := by
  rw [beq_eq_false_iff_ne, ByteArray.toList_eq, ByteArray.toList_eq]
  intro e
  exact h (ByteArray.ext (Array.toList_inj.1 e))
theorem text_eq {a b : ByteArray} (h : (a.toList == b.toList) = true) : a = b := by
  rw [beq_iff_eq, ByteArray.toList_eq, ByteArray.toList_eq] at h
  exact ByteArray.ext (Array.toList_inj.1 h)

theorem text_nel {a : ByteArray} {l : List UInt8} (h : a ≠ ⟨l.toArray⟩) : (a.toList == l) = false ∧ (a.toList != l) = true := by
  have h1 := text_ne h
  rw [ByteArray.toList_eq (bs := ⟨l.toArray⟩)] at h1
  exact ⟨h1, by simp [bne, h1]⟩

/-- Some bool. -/
def AnyB (w : World) (e : Ending) (w' : World) : Prop := ∃ b : Bool, e = .returned (.bool b) ∧ w' = w

/-- A bool, and what a yes says; the world stands. -/
def HasB (P : Prop) (w : World) (e : Ending) (w' : World) : Prop := ∃ b : Bool, e = .returned (.bool b) ∧ (b = true → P) ∧ w' = w

/-- A bool, and what a yes says. -/
def YesB (P : Prop) (w : World) (e : Ending) (w' : World) : Prop := ∃ b : Bool, e = .returned (.bool b) ∧ (b = true → P) ∧ Below w.heap.size w w'

def unitTexts : List ByteArray := [⟨#[121]⟩, ⟨#[109, 111]⟩, ⟨#[119]⟩, ⟨#[100]⟩, ⟨#[104]⟩, ⟨#[109]⟩, ⟨#[115]⟩, ⟨#[109, 115]⟩, ⟨#[117, 115]⟩, ⟨#[110, 115]⟩]
def unaryTexts : List ByteArray := [⟨#[45]⟩, ⟨#[43]⟩, ⟨#[110, 111, 116]⟩, ⟨#[101, 120, 105, 115, 116, 115]⟩]
def operatorTexts : List ByteArray := [⟨#[42]⟩, ⟨#[47]⟩, ⟨#[37]⟩, ⟨#[94]⟩, ⟨#[43]⟩, ⟨#[45]⟩, ⟨#[60, 61]⟩, ⟨#[60]⟩, ⟨#[62, 61]⟩, ⟨#[62]⟩, ⟨#[115, 116, 97, 114, 116, 115, 119, 105, 116, 104]⟩, ⟨#[105, 110]⟩, ⟨#[110, 111, 116]⟩, ⟨#[101, 120, 105, 115, 116, 115]⟩, ⟨#[110, 111, 116, 32, 101, 109, 112, 116, 121]⟩, ⟨#[101, 109, 112, 116, 121]⟩, ⟨#[61, 61]⟩, ⟨#[33, 61]⟩, ⟨#[61, 126]⟩, ⟨#[33, 126]⟩]

theorem isEmpty_of {s : ByteArray} (h : s = ⟨#[]⟩) : s.toList.isEmpty = true := by subst h; rw [ByteArray.toList_eq]; rfl
theorem toList_of {s : ByteArray} (h : s = ⟨#[]⟩) : s.toList = [] := by subst h; rw [ByteArray.toList_eq]
theorem notEmpty_of {s : ByteArray} (h : s ≠ ⟨#[]⟩) : s.toList.isEmpty = false := by
  cases hs : s.toList with
  | nil =>
    have := text_ne h
    rw [hs, ByteArray.toList_eq] at this
    simp at this
  | cons _ _ => rfl

theorem row_two (w : World) (o1 o2 : Obj) : ((w.alloc o1).alloc o2).heap[w.heap.size + 1]? = some o2 := by
  have := heap_alloc_new (w.alloc o1) o2
  rwa [show (w.alloc o1).heap.size = w.heap.size + 1 by simp] at this
theorem row_three (w : World) (o1 o2 o3 : Obj) : (((w.alloc o1).alloc o2).alloc o3).heap[w.heap.size + 2]? = some o3 := by
  have := heap_alloc_new ((w.alloc o1).alloc o2) o3
  rwa [show ((w.alloc o1).alloc o2).heap.size = w.heap.size + 2 by simp] at this

/-- The node's block. -/
def BoxAt (b : Nat) (k : Int) (t m : ByteArray) (n : Int) (a : Option Addr) (l c : Nat) (w : World) : Prop :=
  w.heap[b]? = some (.cells #[.int .i64 k, .string t, .string m, .int .u64 n, .slice a l c] 25 (0, 0))
theorem BoxAt.lt {b : Nat} {k : Int} {t m : ByteArray} {n : Int} {a : Option Addr} {l c : Nat} {w : World} (h : BoxAt b k t m n a l c w) : b < w.heap.size := (Array.getElem?_eq_some_iff.1 h).1
theorem BoxAt.below {b : Nat} {k : Int} {t m : ByteArray} {n : Int} {a : Option Addr} {l c : Nat} {w w' : World} (h : BoxAt b k t m n a l c w) (hb : Below w.heap.size w w') : BoxAt b k t m n a l c w' := (hb.block b h.lt).trans h
theorem BoxAt.five {b : Nat} {k : Int} {t m : ByteArray} {n : Int} {a : Option Addr} {l c : Nat} {w : World} (h : BoxAt b k t m n a l c w) :
    w.cell? ⟨b, 0, none⟩ = some (.int .i64 k) ∧ w.cell? ⟨b, 1, none⟩ = some (.string t) ∧ w.cell? ⟨b, 2, none⟩ = some (.string m) ∧ w.cell? ⟨b, 3, none⟩ = some (.int .u64 n) ∧ w.cell? ⟨b, 4, none⟩ = some (.slice a l c) := by
  refine ⟨?_, ?_, ?_, ?_, ?_⟩ <;> (rw [Lib.cell_of_heap h]; rfl)

theorem Keep.of_below {N B : Nat} {w w' : World} (h : Below B w w') (hN : N ≤ B) : Keep (· < N) w w' := fun b hb => h.block b (Nat.lt_of_lt_of_le hb hN)

/-- A node's value again, with its kids' values, in whatever world keeps it. -/
theorem NodeIn.kidsAt {w : World} {B : Nat → Prop} {k : Int} {t m : ByteArray} {n : Int} {ks : List Tr} {a : Option Addr} {l c : Nat} (h : NodeIn w B (.mk k t m n ks) (nodeU k t m n a l c)) (hne : 0 < ks.length) :
    ∃ b o : Nat, a = some ⟨b, o, none⟩ ∧ B b ∧ ∀ wr, Keep B w wr → ∀ j (hj : j < ks.length), ∃ (a' : Option Addr) (c' : Nat), NodeIn wr B ks[j] (nodeU ks[j].kind ks[j].text ks[j].more ks[j].num a' ks[j].kids.length c') ∧
      wr.cell? ⟨b, o + j * 5, none⟩ = some (.int .i64 ks[j].kind) ∧ wr.cell? ⟨b, o + j * 5 + 1, none⟩ = some (.string ks[j].text) ∧ wr.cell? ⟨b, o + j * 5 + 2, none⟩ = some (.string ks[j].more) ∧ wr.cell? ⟨b, o + j * 5 + 3, none⟩ = some (.int .u64 ks[j].num) ∧ wr.cell? ⟨b, o + j * 5 + 4, none⟩ = some (.slice a' ks[j].kids.length c') := by
  obtain ⟨a1, c1, he, _, _, _, _, hl, hc, hk⟩ := h.parts
  obtain ⟨b, o, f, ha, hB, hcells, hkids⟩ := hk (by intro e; rw [show (Tr.mk k t m n ks).kids = ks from rfl] at e; simp [e] at hne)
  have haa : a = a1 := by
    unfold nodeU at he
    simp only [Value.agg.injEq, Array.mk.injEq, List.cons.injEq, Value.slice.injEq] at he
    exact he.2.2.2.2.1.1
  refine ⟨b, o, haa.trans ha, hB, fun wr hw j hj => ?_⟩
  have h1 := (hkids j hj).keep hw
  obtain ⟨a', c', hfe, _⟩ := h1.parts
  have hc5 := (hcells j hj).keep (hw b hB)
  rw [hfe] at h1 hc5
  exact ⟨a', c', h1, hc5.five⟩

/-- Its length. -/
theorem NodeIn.len {w : World} {B : Nat → Prop} {k : Int} {t m : ByteArray} {n : Int} {ks : List Tr} {a : Option Addr} {l c : Nat} (h : NodeIn w B (.mk k t m n ks) (nodeU k t m n a l c)) :
    l = ks.length ∧ ks.length ≤ 9223372036854775807 ∧ t.size ≤ 9223372036854775807 ∧ m.size ≤ 9223372036854775807 ∧ (-9223372036854775808 ≤ k ∧ k ≤ 9223372036854775807) ∧ (0 ≤ n ∧ n ≤ 18446744073709551615) := by
  obtain ⟨a1, c1, he, hk, hn, ht, hm, hl, hc, _⟩ := h.parts
  unfold nodeU at he
  simp only [Value.agg.injEq, Array.mk.injEq, List.cons.injEq, Value.slice.injEq] at he
  exact ⟨he.2.2.2.2.1.2.1, hl, ht, hm, hk, hn⟩

/-- The form of a node's value. -/
theorem NodeIn.form {w : World} {B : Nat → Prop} {t : Tr} {v : Value} (h : NodeIn w B t v) : ∃ k x m n ks a c, t = .mk k x m n ks ∧ v = nodeU k x m n a ks.length c := by
  cases h with
  | mk b o f hk hn ht hm hl hc ha hcells hkids => exact ⟨_, _, _, _, _, _, _, rfl, rfl⟩

def exprB (k : Int) : Prop := 16 ≤ k ∧ k ≤ 43 ∧ k ≠ 29 ∧ k ≠ 31 ∧ k ≠ 32 ∧ k ≠ 40
def stmtB (k : Int) : Prop := 7 ≤ k ∧ k ≤ 15
def typeB (k : Int) : Prop := k = 45 ∨ k = 46 ∨ k = 47 ∨ k = 48 ∨ k = 49 ∨ k = 51

end Go.Proofs.YtkohgndmhgcgeaaGreatDoor
