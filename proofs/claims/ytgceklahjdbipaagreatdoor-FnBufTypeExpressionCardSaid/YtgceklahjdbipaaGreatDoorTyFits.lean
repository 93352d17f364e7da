/- What spec.Fits takes of types' kinds are types' trees. -/
import Derived.Test.YtgceklahjdbipaaGreatDoorTyT
import Derived.Test.YtgceklahjdbipaaGreatDoorKidEnd
namespace Go.Proofs.YtgceklahjdbipaaGreatDoor
open Go Go.RowKit
set_option linter.unusedVariables false
set_option linter.unusedSimpArgs false

theorem few_of {x : Tr} {c : Int} (h : ClassP x c) (hc : c ≠ 16 ∧ c ≠ 17 ∧ c ≠ 18 ∧ c ≠ 0 ∧ c ≠ 1 ∧ c ≠ 2 ∧ c ≠ 7 ∧ c ≠ 8) : x.kind ∈ classFew c :=
  (h.2.2.2 hc.1 hc.2.1 hc.2.2.1).2.2.2.2.2 hc.2.2.2.1 hc.2.2.2.2.1 hc.2.2.2.2.2.1 hc.2.2.2.2.2.2.1 hc.2.2.2.2.2.2.2
theorem type_of {x : Tr} (h : ClassP x 2) : typeB x.kind := (h.2.2.2 (by decide) (by decide) (by decide)).2.2.1 rfl

theorem ty_fields {k : Int} {t m : ByteArray} {n : Int} (h : FieldsF k t m n) (hk : 44 ≤ k) (hk2 : k ≤ 53) : t = ⟨#[]⟩ ∧ m = ⟨#[]⟩ ∧ (k ≠ 52 → n = 0) := by
  obtain ⟨b1, b2, b3, b4, _⟩ := h.1
  refine ⟨b1 ?_, ?_, fun h52 => b2 ?_⟩
  · unfold textKinds
    simp only [List.mem_cons, List.mem_nil_iff, or_false]
    omega
  · rcases b3 with h | h | h
    · exact h
    · omega
    · omega
  · unfold numKinds
    simp only [List.mem_cons, List.mem_nil_iff, or_false]
    omega

theorem id_of {x : Tr} (h : FitsT x) (hk : x.kind = 33) : ∃ s, x = idT s ∧ TyT (idT s) := by
  cases h with
  | none => exact absurd hk (by decide)
  | @node k t m n ks hk1 hf hs hkids hd =>
    have hk2 : k = 33 := hk
    subst hk2
    obtain ⟨a1, a2, _⟩ := hs (by omega)
    have s1 : shapeFixed 33 = [] := by decide
    have s2 : shapeRest 33 = 28 := by decide
    rw [s1] at a1 a2
    have h0 : ks = [] := by
      cases ks with
      | nil => rfl
      | cons x ks => exact absurd s2 (a2 (by simp))
    subst h0
    obtain ⟨⟨b1, b2, b3, b4, b5, b6, b7⟩, c1, c2, c3, c4, c5, c6, c7⟩ := hf
    have hn : n = 0 := b2 (by decide)
    have hm : m = ⟨#[]⟩ := by
      rcases b3 with h | h | h
      · exact h
      · omega
      · omega
    subst hn hm
    exact ⟨t, rfl, .id t b4 (c7 rfl) b6⟩

theorem no_of {x : Tr} (h : FitsT x) (hk : x.kind = 0) : x = noT := by
  cases h with
  | none => rfl
  | @node k t m n ks hk1 hf hs hkids hd =>
    have : k = 0 := hk
    omega

/-- All that stands behind the first is of the rest's class. -/
theorem rest_of {k c0 c : Int} {y : Tr} {rest : List Tr} (h : ∀ i (h : i < (y :: rest).length), ClassP (y :: rest)[i] (classAt k i)) (h0 : shapeFixed k = [c0]) (hr : shapeRest k = c) : ClassP y c0 ∧ ∀ x ∈ rest, ClassP x c := by
  constructor
  · have := h 0 (by simp)
    have e : classAt k 0 = c0 := by unfold classAt; rw [h0]; rfl
    rw [e] at this
    exact this
  · intro x hx
    obtain ⟨i, hi, rfl⟩ := List.mem_iff_getElem.1 hx
    have := h (i + 1) (by simpa using hi)
    have e : classAt k (i + 1) = c := by unfold classAt; rw [h0, ← hr]; rfl
    rw [e] at this
    exact this

theorem two_of {k c0 c1 : Int} {ks : List Tr} (hs : (shapeFixed k).length ≤ ks.length ∧ ((shapeFixed k).length < ks.length → shapeRest k ≠ 28) ∧ ∀ i (h : i < ks.length), ClassP ks[i] (classAt k i)) (h0 : shapeFixed k = [c0, c1]) (hr : shapeRest k = 28) : ∃ a b, ks = [a, b] ∧ ClassP a c0 ∧ ClassP b c1 := by
  obtain ⟨a1, a2, a3⟩ := hs
  rw [h0] at a1 a2
  match ks, a1, a2, a3 with
  | [a, b], _, _, a3 =>
    have e0 : classAt k 0 = c0 := by unfold classAt; rw [h0]; rfl
    have e1 : classAt k 1 = c1 := by unfold classAt; rw [h0]; rfl
    have x0 := a3 0 (by simp)
    have x1 := a3 1 (by simp)
    rw [e0] at x0
    rw [e1] at x1
    exact ⟨a, b, rfl, x0, x1⟩
  | x :: y :: z :: r, _, a2, _ => exact absurd hr (a2 (by simp))

theorem one_of {k c0 : Int} {ks : List Tr} (hs : (shapeFixed k).length ≤ ks.length ∧ ((shapeFixed k).length < ks.length → shapeRest k ≠ 28) ∧ ∀ i (h : i < ks.length), ClassP ks[i] (classAt k i)) (h0 : shapeFixed k = [c0]) (hr : shapeRest k = 28) : ∃ a, ks = [a] ∧ ClassP a c0 := by
  obtain ⟨a1, a2, a3⟩ := hs
  rw [h0] at a1 a2
  match ks, a1, a2, a3 with
  | [a], _, _, a3 =>
    have e0 : classAt k 0 = c0 := by unfold classAt; rw [h0]; rfl
    have x0 := a3 0 (by simp)
    rw [e0] at x0
    exact ⟨a, rfl, x0⟩
  | x :: y :: r, _, a2, _ => exact absurd hr (a2 (by simp))

theorem more_of {k c0 c : Int} {ks : List Tr} (hs : (shapeFixed k).length ≤ ks.length ∧ ((shapeFixed k).length < ks.length → shapeRest k ≠ 28) ∧ ∀ i (h : i < ks.length), ClassP ks[i] (classAt k i)) (h0 : shapeFixed k = [c0]) (hr : shapeRest k = c) : ∃ a l, ks = a :: l ∧ ClassP a c0 ∧ ∀ x ∈ l, ClassP x c := by
  obtain ⟨a1, a2, a3⟩ := hs
  rw [h0] at a1
  match ks, a1, a3 with
  | a :: l, _, a3 => exact ⟨a, l, rfl, rest_of a3 h0 hr⟩

theorem typeB.range {k : Int} (h : typeB k) : 44 ≤ k ∧ k ≤ 53 := by unfold typeB at h; omega

/-- A tree that lies in some memory. -/
def Lies (tr : Tr) : Prop := ∃ w B v, NodeIn w B tr v

theorem Lies.kids {k : Int} {t m : ByteArray} {n : Int} {ks : List Tr} (h : Lies (.mk k t m n ks)) : ∀ x ∈ ks, Lies x := by
  obtain ⟨w, B, v, hv⟩ := h
  cases hv with
  | mk b o f hk hn ht hm hl hc ha hcells hkids =>
    intro x hx
    obtain ⟨i, hi, rfl⟩ := List.mem_iff_getElem.1 hx
    exact ⟨w, B, _, hkids i hi⟩

theorem Lies.num {k : Int} {t m : ByteArray} {n : Int} {ks : List Tr} (h : Lies (.mk k t m n ks)) : 0 ≤ n := by
  obtain ⟨w, B, v, hv⟩ := h
  cases hv with
  | mk b o f hk hn ht hm hl hc ha hcells hkids => exact hn.1

theorem fits_ty (tr : Tr) : Lies tr → FitsT tr → (44 ≤ tr.kind ∧ tr.kind ≤ 53) → TyT tr := by
  induction tr using Tr.ind with
  | h k t m n ks ih =>
    intro hin h hk
    have hks := hin.kids
    have hnn := hin.num
    have hk' : 44 ≤ k ∧ k ≤ 53 := hk
    cases h with
    | none => omega
    | node hk1 hf hs hkids hd =>
      have hs := hs (by omega)
      obtain ⟨rfl, rfl, hn⟩ := ty_fields hf hk'.1 hk'.2
      have f3 : classFew 3 = [33] := by decide
      have f4 : classFew 4 = [33, 0] := by decide
      have f25 : classFew 25 = [50] := by decide
      have f26 : classFew 26 = [52] := by decide
      have f27 : classFew 27 = [53] := by decide
      have ofId : ∀ x ∈ ks, ClassP x 3 → ∃ s, x = idT s ∧ TyT (idT s) := fun x hx hc => id_of (hkids x hx) (by have := few_of hc (by decide); rw [f3] at this; simpa using this)
      have ofTy : ∀ x ∈ ks, ClassP x 2 → typeB x.kind ∧ TyT x := fun x hx hc => ⟨type_of hc, ih x hx (hks x hx) (hkids x hx) (type_of hc).range⟩
      have hcase : k = 44 ∨ (k = 45 ∨ k = 46) ∨ k = 47 ∨ k = 48 ∨ k = 49 ∨ k = 50 ∨ k = 51 ∨ k = 52 ∨ k = 53 := by omega
      rcases hcase with rfl | hk45 | rfl | rfl | rfl | rfl | rfl | rfl | rfl
      · obtain rfl := hn (by decide)
        obtain ⟨e, l, rfl, h0, hl⟩ := more_of (c0 := 2) (c := 27) hs (by decide) (by decide)
        obtain ⟨g1, g2⟩ := ofTy e (by simp) h0
        have hl3 : ∀ x ∈ l, x.kind = 53 := fun x hx => by have := few_of (hl x hx) (by decide); rw [f27] at this; simpa using this
        exact .expr e g1 g2 l hl3 fun x hx => ih x (by simp [hx]) (hks x (by simp [hx])) (hkids x (by simp [hx])) (by rw [hl3 x hx]; omega)
      · obtain rfl := hn (by omega)
        obtain ⟨e, rfl, h0⟩ := one_of (c0 := 3) hs (tvar_shape k hk45).1 (tvar_shape k hk45).2
        obtain ⟨s, rfl, his⟩ := ofId e (by simp) h0
        exact .name k hk45 s his
      · obtain rfl := hn (by decide)
        obtain ⟨e, rfl, h0⟩ := one_of (c0 := 2) hs (by decide) (by decide)
        obtain ⟨g1, g2⟩ := ofTy e (by simp) h0
        exact .array e g1 g2
      · obtain rfl := hn (by decide)
        obtain ⟨e1, e2, rfl, h1, h2⟩ := two_of (c0 := 2) (c1 := 2) hs (by decide) (by decide)
        obtain ⟨g1, g2⟩ := ofTy e1 (by simp) h1
        obtain ⟨g3, g4⟩ := ofTy e2 (by simp) h2
        exact .dict e1 e2 g1 g2 g3 g4
      · obtain rfl := hn (by decide)
        obtain ⟨e, l, rfl, h0, hl⟩ := more_of (c0 := 4) (c := 25) hs (by decide) (by decide)
        have hl3 : ∀ x ∈ l, x.kind = 50 := fun x hx => by have := few_of (hl x hx) (by decide); rw [f25] at this; simpa using this
        have hl4 : ∀ x ∈ l, TyT x := fun x hx => ih x (by simp [hx]) (hks x (by simp [hx])) (hkids x (by simp [hx])) (by rw [hl3 x hx]; omega)
        have h3 := few_of h0 (by decide)
        rw [f4] at h3
        have h3 : e.kind = 33 ∨ e.kind = 0 := by simpa using h3
        rcases h3 with h3 | h3
        · obtain ⟨s, rfl, his⟩ := id_of (hkids e (by simp)) h3
          exact .recordWith s his l hl3 hl4
        · obtain rfl := no_of (hkids e (by simp)) h3
          exact .record l hl3 hl4
      · obtain rfl := hn (by decide)
        obtain ⟨e1, e2, rfl, h1, h2⟩ := two_of (c0 := 3) (c1 := 2) hs (by decide) (by decide)
        obtain ⟨s, rfl, his⟩ := ofId e1 (by simp) h1
        obtain ⟨g3, g4⟩ := ofTy e2 (by simp) h2
        exact .prop s his e2 g3 g4
      · obtain rfl := hn (by decide)
        obtain ⟨e, l, rfl, h0, hl⟩ := more_of (c0 := 2) (c := 26) hs (by decide) (by decide)
        obtain ⟨g1, g2⟩ := ofTy e (by simp) h0
        have hl3 : ∀ x ∈ l, x.kind = 52 := fun x hx => by have := few_of (hl x hx) (by decide); rw [f26] at this; simpa using this
        exact .func e g1 g2 l hl3 fun x hx => ih x (by simp [hx]) (hks x (by simp [hx])) (hkids x (by simp [hx])) (by rw [hl3 x hx]; omega)
      · obtain ⟨e1, e2, rfl, h1, h2⟩ := two_of (c0 := 4) (c1 := 2) hs (by decide) (by decide)
        obtain ⟨g3, g4⟩ := ofTy e2 (by simp) h2
        have h52 : n ≤ 2 := hf.2.2.2.2.2.1 rfl
        obtain ⟨x, rfl⟩ : ∃ x : Nat, n = x := ⟨n.toNat, by omega⟩
        have h3 := few_of h1 (by decide)
        rw [f4] at h3
        have h3 : e1.kind = 33 ∨ e1.kind = 0 := by simpa using h3
        rcases h3 with h3 | h3
        · obtain ⟨s, rfl, his⟩ := id_of (hkids e1 (by simp)) h3
          exact .paramWith x (by omega) s his e2 g3 g4
        · obtain rfl := no_of (hkids e1 (by simp)) h3
          exact .param x (by omega) e2 g3 g4
      · obtain rfl := hn (by decide)
        obtain ⟨e, l, rfl, h0, hl⟩ := more_of (c0 := 3) (c := 3) hs (by decide) (by decide)
        obtain ⟨s, rfl, his⟩ := ofId e (by simp) h0
        have hl3 : ∀ x ∈ l, x.kind = 33 := fun x hx => by have := few_of (hl x hx) (by decide); rw [f3] at this; simpa using this
        exact .cons s his l hl3 fun x hx => by
          obtain ⟨s, rfl, his⟩ := id_of (hkids x (by simp [hx])) (hl3 x hx)
          exact his

end Go.Proofs.YtgceklahjdbipaaGreatDoor
