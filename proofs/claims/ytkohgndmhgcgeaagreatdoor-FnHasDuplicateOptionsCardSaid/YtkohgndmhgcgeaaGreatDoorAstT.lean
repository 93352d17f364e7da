/- Trees without types, kind by kind. -/
import Derived.Test.YtkohgndmhgcgeaaGreatDoorBase
namespace Go.Proofs.YtkohgndmhgcgeaaGreatDoor
open Go Go.RowKit
set_option linter.unusedVariables false
set_option linter.unusedSimpArgs false

def noT : Tr := .mk 0 ⟨#[]⟩ ⟨#[]⟩ 0 []

/-- Trees without types, builtin statements among them not. -/
inductive AstT : Tr → Prop
  | k2 (t : ByteArray) (ht : t.size ≤ 300) (m : ByteArray) (hm : m.size ≤ 300) (l : List Tr) (hl : ∀ x ∈ l, AstT x) (cl : ∀ x ∈ l, x.kind = 3) : AstT (.mk 2 t m 0 (l))
  | k3 (t : ByteArray) (ht : t.size ≤ 300) (m : ByteArray) (hm : m.size ≤ 300) (a0 : Tr) (h0 : a0.kind ≠ 0 → AstT a0) (o0 : a0.kind = 0 → a0 = noT) (c0 : (a0.kind = 4 ∨ a0.kind = 0)) (l1 : List Tr) (h1 : ∀ x ∈ l1, AstT x) (c1 : ∀ x ∈ l1, x.kind = 5) (l2 : List Tr) (h2 : ∀ x ∈ l2, AstT x) (c2 : ∀ x ∈ l2, (stmtB x.kind ∧ x.kind ≠ 13)) : AstT (.mk 3 t m 0 [a0, .mk 1 ⟨#[]⟩ ⟨#[]⟩ 0 l1, .mk 1 ⟨#[]⟩ ⟨#[]⟩ 0 l2])
  | k4 (a0 : Tr) (h0 : AstT a0) (c0 : a0.kind = 33) : AstT (.mk 4 ⟨#[]⟩ ⟨#[]⟩ 0 [a0])
  | k5 (a0 : Tr) (h0 : a0.kind ≠ 0 → AstT a0) (o0 : a0.kind = 0 → a0 = noT) (c0 : (a0.kind = 33 ∨ a0.kind = 0)) (a1 : Tr) (h1 : AstT a1) (c1 : a1.kind = 34) : AstT (.mk 5 ⟨#[]⟩ ⟨#[]⟩ 0 [a0, a1])
  | k6 (l : List Tr) (hl : ∀ x ∈ l, AstT x) (cl : ∀ x ∈ l, (stmtB x.kind ∧ x.kind ≠ 13)) : AstT (.mk 6 ⟨#[]⟩ ⟨#[]⟩ 0 (l))
  | k7 (t : ByteArray) (ht : t.size ≤ 300) : AstT (.mk 7 t ⟨#[]⟩ 0 [])
  | k8 (a0 : Tr) (h0 : AstT a0) (c0 : exprB a0.kind) : AstT (.mk 8 ⟨#[]⟩ ⟨#[]⟩ 0 [a0])
  | k9 (a0 : Tr) (h0 : AstT a0) (c0 : exprB a0.kind) : AstT (.mk 9 ⟨#[]⟩ ⟨#[]⟩ 0 [a0])
  | k10 (a0 : Tr) (h0 : AstT a0) (c0 : a0.kind = 33) (a1 : Tr) (h1 : AstT a1) (c1 : exprB a1.kind) : AstT (.mk 10 ⟨#[]⟩ ⟨#[]⟩ 0 [a0, a1])
  | k11 (a0 : Tr) (h0 : AstT a0) (c0 : a0.kind = 17) (a1 : Tr) (h1 : AstT a1) (c1 : exprB a1.kind) : AstT (.mk 11 ⟨#[]⟩ ⟨#[]⟩ 0 [a0, a1])
  | k12 (a0 : Tr) (h0 : AstT a0) (c0 : (a0.kind = 10 ∨ a0.kind = 11)) : AstT (.mk 12 ⟨#[]⟩ ⟨#[]⟩ 0 [a0])
  | k14 (a0 : Tr) (h0 : AstT a0) (c0 : a0.kind = 10) : AstT (.mk 14 ⟨#[]⟩ ⟨#[]⟩ 0 [a0])
  | k15 (a0 : Tr) (h0 : AstT a0) (c0 : a0.kind = 33) (a1 : Tr) (h1 : a1.kind ≠ 0 → AstT a1) (o1 : a1.kind = 0 → a1 = noT) (c1 : (a1.kind = 34 ∨ a1.kind = 0)) (a2 : Tr) (h2 : AstT a2) (c2 : a2.kind = 6) : AstT (.mk 15 ⟨#[]⟩ ⟨#[]⟩ 0 [a0, a1, a2])
  | k16 (a0 : Tr) (h0 : AstT a0) (c0 : exprB a0.kind) (l : List Tr) (hl : ∀ x ∈ l, AstT x) (cl : ∀ x ∈ l, exprB x.kind) : AstT (.mk 16 ⟨#[]⟩ ⟨#[]⟩ 0 (a0 :: l))
  | k17 (a0 : Tr) (h0 : AstT a0) (c0 : exprB a0.kind) (a1 : Tr) (h1 : AstT a1) (c1 : (a1.kind = 33 ∨ a1.kind = 34)) : AstT (.mk 17 ⟨#[]⟩ ⟨#[]⟩ 0 [a0, a1])
  | k18 (a0 : Tr) (h0 : AstT a0) (c0 : exprB a0.kind) (a1 : Tr) (h1 : AstT a1) (c1 : exprB a1.kind) : AstT (.mk 18 ⟨#[]⟩ ⟨#[]⟩ 0 [a0, a1])
  | k19 (a0 : Tr) (h0 : AstT a0) (c0 : exprB a0.kind) (a1 : Tr) (h1 : AstT a1) (c1 : a1.kind = 16) : AstT (.mk 19 ⟨#[]⟩ ⟨#[]⟩ 0 [a0, a1])
  | k20 (l0 : List Tr) (h0 : ∀ x ∈ l0, AstT x) (c0 : ∀ x ∈ l0, x.kind = 29) (a1 : Tr) (h1 : AstT a1) (c1 : (a1.kind = 6 ∨ exprB a1.kind)) : AstT (.mk 20 ⟨#[]⟩ ⟨#[]⟩ 0 [.mk 1 ⟨#[]⟩ ⟨#[]⟩ 0 l0, a1])
  | k21 (t : ByteArray) (ht : t ∈ operatorTexts) (a0 : Tr) (h0 : AstT a0) (c0 : exprB a0.kind) (a1 : Tr) (h1 : AstT a1) (c1 : exprB a1.kind) : AstT (.mk 21 t ⟨#[]⟩ 0 [a0, a1])
  | k22 (t : ByteArray) (ht : t ∈ unaryTexts) (a0 : Tr) (h0 : AstT a0) (c0 : exprB a0.kind) : AstT (.mk 22 t ⟨#[]⟩ 0 [a0])
  | k23 (t : ByteArray) (ht : t = ⟨#[97, 110, 100]⟩ ∨ t = ⟨#[111, 114]⟩) (a0 : Tr) (h0 : AstT a0) (c0 : exprB a0.kind) (a1 : Tr) (h1 : AstT a1) (c1 : exprB a1.kind) : AstT (.mk 23 t ⟨#[]⟩ 0 [a0, a1])
  | k24 (a0 : Tr) (h0 : AstT a0) (c0 : exprB a0.kind) (a1 : Tr) (h1 : AstT a1) (c1 : exprB a1.kind) (a2 : Tr) (h2 : AstT a2) (c2 : exprB a2.kind) : AstT (.mk 24 ⟨#[]⟩ ⟨#[]⟩ 0 [a0, a1, a2])
  | k25 (a0 : Tr) (h0 : AstT a0) (c0 : exprB a0.kind) : AstT (.mk 25 ⟨#[]⟩ ⟨#[]⟩ 0 [a0])
  | k26 (l : List Tr) (hl : ∀ x ∈ l, AstT x) (cl : ∀ x ∈ l, exprB x.kind) : AstT (.mk 26 ⟨#[]⟩ ⟨#[]⟩ 0 (l))
  | k27 (l : List Tr) (hl : ∀ x ∈ l, AstT x) (cl : ∀ x ∈ l, exprB x.kind) (he : l.length % 2 = 0) : AstT (.mk 27 ⟨#[]⟩ ⟨#[]⟩ 0 (l))
  | k28 (a0 : Tr) (h0 : a0.kind ≠ 0 → AstT a0) (o0 : a0.kind = 0 → a0 = noT) (c0 : (a0.kind = 33 ∨ a0.kind = 0)) (l : List Tr) (hl : ∀ x ∈ l, AstT x) (cl : ∀ x ∈ l, x.kind = 29) : AstT (.mk 28 ⟨#[]⟩ ⟨#[]⟩ 0 (a0 :: l))
  | k29 (a0 : Tr) (h0 : AstT a0) (c0 : (a0.kind = 33 ∨ a0.kind = 34)) (a1 : Tr) (h1 : a1.kind ≠ 0 → AstT a1) (o1 : a1.kind = 0 → a1 = noT) (c1 : (a1.kind = 0 ∨ exprB a1.kind)) : AstT (.mk 29 ⟨#[]⟩ ⟨#[]⟩ 0 [a0, a1])
  | k30 (l : List Tr) (hl : ∀ x ∈ l, AstT x) (cl : ∀ x ∈ l, (x.kind = 31 ∨ x.kind = 32)) : AstT (.mk 30 ⟨#[]⟩ ⟨#[]⟩ 0 (l))
  | k31 (t : ByteArray) (ht : t.size ≤ 300) : AstT (.mk 31 t ⟨#[]⟩ 0 [])
  | k32 (a0 : Tr) (h0 : AstT a0) (c0 : exprB a0.kind) : AstT (.mk 32 ⟨#[]⟩ ⟨#[]⟩ 0 [a0])
  | k33 (t : ByteArray) (ht : t.size ≤ 300) (h0 : t ≠ ⟨#[]⟩) : AstT (.mk 33 t ⟨#[]⟩ 0 [])
  | k34 (t : ByteArray) (ht : t.size ≤ 300) : AstT (.mk 34 t ⟨#[]⟩ 0 [])
  | k35 (n : Int) (hn : 0 ≤ n ∧ n ≤ 1) : AstT (.mk 35 ⟨#[]⟩ ⟨#[]⟩ n [])
  | k36 (n : Int) (hn : 0 ≤ n ∧ n ≤ 18446744073709551615) : AstT (.mk 36 ⟨#[]⟩ ⟨#[]⟩ n [])
  | k37 (n : Int) (hn : 0 ≤ n ∧ n ≤ 18446744073709551615) : AstT (.mk 37 ⟨#[]⟩ ⟨#[]⟩ n [])
  | k38 (n : Int) (hn : 0 ≤ n ∧ n ≤ 18446744073709551615) : AstT (.mk 38 ⟨#[]⟩ ⟨#[]⟩ n [])
  | k39 (l : List (Int × ByteArray)) (hl : ∀ x ∈ l, x.2 ∈ unitTexts ∧ 0 ≤ x.1 ∧ x.1 ≤ 18446744073709551615) : AstT (.mk 39 ⟨#[]⟩ ⟨#[]⟩ 0 (l.map magT))
  | k41 (n : Int) (hn : 0 ≤ n ∧ n ≤ 18446744073709551615) : AstT (.mk 41 ⟨#[]⟩ ⟨#[]⟩ n [])
  | k42 (t : ByteArray) (ht : t.size ≤ 300) : AstT (.mk 42 t ⟨#[]⟩ 0 [])
  | k43  : AstT (.mk 43 ⟨#[]⟩ ⟨#[]⟩ 0 [])

theorem Tr.ind2 {P : Tr → Prop} (h : ∀ k t m n ks, (∀ x ∈ ks, P x) → (∀ y ∈ ks, ∀ x ∈ y.kids, P x) → P (.mk k t m n ks)) (t : Tr) : P t := by
  have : P t ∧ ∀ x ∈ t.kids, P x := by
    induction t using Tr.ind with
    | h k t m n ks ih => exact ⟨h k t m n ks (fun x hx => (ih x hx).1) (fun y hy => (ih y hy).2), fun x hx => (ih x hx).1⟩
  exact this.1

/-- No builtin statement stands in a tree. -/
inductive NoB : Tr → Prop
  | mk {k : Int} {t m : ByteArray} {n : Int} {ks : List Tr} (hk : k ≠ 13) (h : ∀ x ∈ ks, NoB x) : NoB (.mk k t m n ks)

theorem NoB.kids {k : Int} {t m : ByteArray} {n : Int} {ks : List Tr} (h : NoB (.mk k t m n ks)) : ∀ x ∈ ks, NoB x := by cases h with | mk hk h => exact h
theorem NoB.kind {tr : Tr} (h : NoB tr) : tr.kind ≠ 13 := by cases h with | mk hk h => exact hk

/-- A tree that lies in some memory. -/
def Lies (tr : Tr) : Prop := ∃ w B v, NodeIn w B tr v

theorem Lies.kids {k : Int} {t m : ByteArray} {n : Int} {ks : List Tr} (h : Lies (.mk k t m n ks)) : ∀ x ∈ ks, Lies x := by
  obtain ⟨w, B, v, hv⟩ := h
  cases hv with
  | mk b o f hk hn ht hm hl hc ha hcells hkids =>
    intro x hx
    obtain ⟨i, hi, rfl⟩ := List.mem_iff_getElem.1 hx
    exact ⟨w, B, _, hkids i hi⟩

theorem Lies.num {k : Int} {t m : ByteArray} {n : Int} {ks : List Tr} (h : Lies (.mk k t m n ks)) : 0 ≤ n ∧ n ≤ 18446744073709551615 := by
  obtain ⟨w, B, v, hv⟩ := h
  cases hv with
  | mk b o f hk hn ht hm hl hc ha hcells hkids => exact hn

end Go.Proofs.YtkohgndmhgcgeaaGreatDoor
