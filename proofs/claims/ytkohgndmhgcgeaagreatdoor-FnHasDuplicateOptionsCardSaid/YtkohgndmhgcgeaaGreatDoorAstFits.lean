/- What spec.Fits takes is a tree without types. -/
import Derived.Test.YtkohgndmhgcgeaaGreatDoorAstT
import Derived.Test.YtkohgndmhgcgeaaGreatDoorFits
import Derived.Test.YtkohgndmhgcgeaaGreatDoorSame
namespace Go.Proofs.YtkohgndmhgcgeaaGreatDoor
open Go Go.RowKit
set_option linter.unusedVariables false
set_option linter.unusedSimpArgs false

theorem no_of {x : Tr} (h : FitsT x) (hk : x.kind = 0) : x = noT := by
  cases h with
  | none => rfl
  | @node k t m n ks hk1 hf hs hkids hd =>
    have : k = 0 := hk
    omega

theorem few_of {x : Tr} {c : Int} (h : ClassP x c) (hc : c ≠ 16 ∧ c ≠ 17 ∧ c ≠ 18 ∧ c ≠ 0 ∧ c ≠ 1 ∧ c ≠ 2 ∧ c ≠ 7 ∧ c ≠ 8) : x.kind ∈ classFew c :=
  (h.2.2.2 hc.1 hc.2.1 hc.2.2.1).2.2.2.2.2 hc.2.2.2.1 hc.2.2.2.2.1 hc.2.2.2.2.2.1 hc.2.2.2.2.2.2.1 hc.2.2.2.2.2.2.2

/-- What a list says that spec.Fits takes. -/
theorem list_of {x : Tr} (h : FitsT x) (hk : x.kind = 1) : ∃ l, x = .mk 1 ⟨#[]⟩ ⟨#[]⟩ 0 l ∧ ∀ y ∈ l, FitsT y := by
  cases h with
  | none => exact absurd hk (by decide)
  | @node k t m n ks hk1 hf hs hkids hd =>
    have hk2 : k = 1 := hk
    subst hk2
    obtain ⟨b1, b2, b3, _⟩ := hf.1
    have ht : t = ⟨#[]⟩ := b1 (by decide)
    have hn : n = 0 := b2 (by decide)
    have hm : m = ⟨#[]⟩ := by
      rcases b3 with h | h | h
      · exact h
      · omega
      · omega
    subst ht hn hm
    exact ⟨ks, rfl, hkids⟩


section
variable {x : Tr}
theorem c_expr (h : ClassP x 0) : exprB x.kind := (h.2.2.2 (by decide) (by decide) (by decide)).1 rfl
theorem c_stmt (h : ClassP x 1) : stmtB x.kind := (h.2.2.2 (by decide) (by decide) (by decide)).2.1 rfl
theorem c_body (h : ClassP x 7) : x.kind = 6 ∨ exprB x.kind := (h.2.2.2 (by decide) (by decide) (by decide)).2.2.2.1 rfl
theorem c_xopt (h : ClassP x 8) : x.kind = 0 ∨ exprB x.kind := (h.2.2.2 (by decide) (by decide) (by decide)).2.2.2.2.1 rfl
theorem c_props (h : ClassP x 16) : x.kind = 1 ∧ ∀ y ∈ x.kids, y.kind = 29 := by
  obtain ⟨h1, h2⟩ := h.1 rfl
  refine ⟨h1, fun y hy => ?_⟩
  have := (h2 y hy).2.2.2.2.2 (by decide) (by decide) (by decide) (by decide) (by decide)
  rw [show classFew 21 = [29] by decide] at this
  simpa using this
theorem c_imps (h : ClassP x 17) : x.kind = 1 ∧ ∀ y ∈ x.kids, y.kind = 5 := h.2.1 rfl
theorem c_stmts (h : ClassP x 18) : x.kind = 1 ∧ ∀ y ∈ x.kids, stmtB y.kind := by
  obtain ⟨h1, h2⟩ := h.2.2.1 rfl
  exact ⟨h1, fun y hy => (h2 y hy).2.1 rfl⟩
theorem c_id (h : ClassP x 3) : x.kind = 33 := by
  have h2 := few_of h (by decide)
  rw [show classFew 3 = [33] by decide] at h2
  simpa using h2
theorem c_idopt (h : ClassP x 4) : (x.kind = 33 ∨ x.kind = 0) := by
  have h2 := few_of h (by decide)
  rw [show classFew 4 = [33, 0] by decide] at h2
  simpa using h2
theorem c_stropt (h : ClassP x 5) : (x.kind = 34 ∨ x.kind = 0) := by
  have h2 := few_of h (by decide)
  rw [show classFew 5 = [34, 0] by decide] at h2
  simpa using h2
theorem c_key (h : ClassP x 6) : (x.kind = 33 ∨ x.kind = 34) := by
  have h2 := few_of h (by decide)
  rw [show classFew 6 = [33, 34] by decide] at h2
  simpa using h2
theorem c_call (h : ClassP x 9) : x.kind = 16 := by
  have h2 := few_of h (by decide)
  rw [show classFew 9 = [16] by decide] at h2
  simpa using h2
theorem c_obj (h : ClassP x 10) : x.kind = 28 := by
  have h2 := few_of h (by decide)
  rw [show classFew 10 = [28] by decide] at h2
  simpa using h2
theorem c_var (h : ClassP x 11) : x.kind = 10 := by
  have h2 := few_of h (by decide)
  rw [show classFew 11 = [10] by decide] at h2
  simpa using h2
theorem c_assign (h : ClassP x 12) : (x.kind = 10 ∨ x.kind = 11) := by
  have h2 := few_of h (by decide)
  rw [show classFew 12 = [10, 11] by decide] at h2
  simpa using h2
theorem c_member (h : ClassP x 13) : x.kind = 17 := by
  have h2 := few_of h (by decide)
  rw [show classFew 13 = [17] by decide] at h2
  simpa using h2
theorem c_block (h : ClassP x 14) : x.kind = 6 := by
  have h2 := few_of h (by decide)
  rw [show classFew 14 = [6] by decide] at h2
  simpa using h2
theorem c_str (h : ClassP x 15) : x.kind = 34 := by
  have h2 := few_of h (by decide)
  rw [show classFew 15 = [34] by decide] at h2
  simpa using h2
theorem c_clause (h : ClassP x 19) : (x.kind = 4 ∨ x.kind = 0) := by
  have h2 := few_of h (by decide)
  rw [show classFew 19 = [4, 0] by decide] at h2
  simpa using h2
theorem c_file (h : ClassP x 20) : x.kind = 3 := by
  have h2 := few_of h (by decide)
  rw [show classFew 20 = [3] by decide] at h2
  simpa using h2
theorem c_prop (h : ClassP x 21) : x.kind = 29 := by
  have h2 := few_of h (by decide)
  rw [show classFew 21 = [29] by decide] at h2
  simpa using h2
theorem c_part (h : ClassP x 22) : (x.kind = 31 ∨ x.kind = 32) := by
  have h2 := few_of h (by decide)
  rw [show classFew 22 = [31, 32] by decide] at h2
  simpa using h2
theorem c_mags (h : ClassP x 23) : x.kind = 40 := by
  have h2 := few_of h (by decide)
  rw [show classFew 23 = [40] by decide] at h2
  simpa using h2
end


abbrev ShapeOk (k : Int) (ks : List Tr) : Prop := (shapeFixed k).length ≤ ks.length ∧ ((shapeFixed k).length < ks.length → shapeRest k ≠ 28) ∧ ∀ i (h : i < ks.length), ClassP ks[i] (classAt k i)

theorem class_at {k : Int} {l : List Int} {c : Int} (h0 : shapeFixed k = l) (hr : shapeRest k = c) (i : Nat) : classAt k i = l[i]?.getD c := by
  unfold classAt
  rw [h0, hr]

theorem form0 {k : Int} {ks : List Tr} (hs : ShapeOk k ks) (h0 : shapeFixed k = []) (hr : shapeRest k = 28) : ks = [] := by
  obtain ⟨a1, a2, a3⟩ := hs
  rw [h0] at a2
  cases ks with
  | nil => rfl
  | cons x ks => exact absurd hr (a2 (by simp))
theorem form1 {k c0 : Int} {ks : List Tr} (hs : ShapeOk k ks) (h0 : shapeFixed k = [c0]) (hr : shapeRest k = 28) : ∃ a, ks = [a] ∧ ClassP a c0 := by
  obtain ⟨a1, a2, a3⟩ := hs
  rw [h0] at a1 a2
  match ks, a1, a2, a3 with
  | [a], _, _, a3 => exact ⟨a, rfl, by have := a3 0 (by simp); rwa [class_at h0 hr] at this⟩
  | x :: y :: r, _, a2, _ => exact absurd hr (a2 (by simp))
theorem form2 {k c0 c1 : Int} {ks : List Tr} (hs : ShapeOk k ks) (h0 : shapeFixed k = [c0, c1]) (hr : shapeRest k = 28) : ∃ a b, ks = [a, b] ∧ ClassP a c0 ∧ ClassP b c1 := by
  obtain ⟨a1, a2, a3⟩ := hs
  rw [h0] at a1 a2
  match ks, a1, a2, a3 with
  | [a, b], _, _, a3 => exact ⟨a, b, rfl, by have := a3 0 (by simp); rwa [class_at h0 hr] at this, by have := a3 1 (by simp); rwa [class_at h0 hr] at this⟩
  | x :: y :: z :: r, _, a2, _ => exact absurd hr (a2 (by simp))
theorem form3 {k c0 c1 c2 : Int} {ks : List Tr} (hs : ShapeOk k ks) (h0 : shapeFixed k = [c0, c1, c2]) (hr : shapeRest k = 28) : ∃ a b c, ks = [a, b, c] ∧ ClassP a c0 ∧ ClassP b c1 ∧ ClassP c c2 := by
  obtain ⟨a1, a2, a3⟩ := hs
  rw [h0] at a1 a2
  match ks, a1, a2, a3 with
  | [a, b, c], _, _, a3 => exact ⟨a, b, c, rfl, by have := a3 0 (by simp); rwa [class_at h0 hr] at this, by have := a3 1 (by simp); rwa [class_at h0 hr] at this, by have := a3 2 (by simp); rwa [class_at h0 hr] at this⟩
  | x :: y :: z :: u :: r, _, a2, _ => exact absurd hr (a2 (by simp))
theorem formR0 {k c : Int} {ks : List Tr} (hs : ShapeOk k ks) (h0 : shapeFixed k = []) (hr : shapeRest k = c) : ∀ x ∈ ks, ClassP x c := fun x hx => by
  obtain ⟨i, hi, rfl⟩ := List.mem_iff_getElem.1 hx
  have := hs.2.2 i hi
  rwa [class_at h0 hr] at this
theorem formR1 {k c0 c : Int} {ks : List Tr} (hs : ShapeOk k ks) (h0 : shapeFixed k = [c0]) (hr : shapeRest k = c) : ∃ a l, ks = a :: l ∧ ClassP a c0 ∧ ∀ x ∈ l, ClassP x c := by
  obtain ⟨a1, a2, a3⟩ := hs
  rw [h0] at a1
  match ks, a1, a3 with
  | a :: l, _, a3 =>
    refine ⟨a, l, rfl, by have := a3 0 (by simp); rwa [class_at h0 hr] at this, fun x hx => ?_⟩
    obtain ⟨i, hi, rfl⟩ := List.mem_iff_getElem.1 hx
    have := a3 (i + 1) (by simpa using hi)
    rw [class_at h0 hr] at this
    exact this

/-- Kinds of trees without types. -/
abbrev astKind (k : Int) : Prop := 2 ≤ k ∧ k ≤ 43 ∧ k ≠ 13 ∧ k ≠ 40

theorem mag_of {x : Tr} (h : FitsT x) (hl : Lies x) (hk : x.kind = 40) : ∃ p : Int × ByteArray, x = magT p ∧ p.2 ∈ unitTexts ∧ 0 ≤ p.1 ∧ p.1 ≤ 18446744073709551615 := by
  cases h with
  | none => exact absurd hk (by decide)
  | @node k t m n ks hk1 hf hs hkids hd =>
    have hk2 : k = 40 := hk
    subst hk2
    have h0 := form0 (hs (by decide)) (by decide) (by decide)
    subst h0
    obtain ⟨⟨b1, b2, b3, _⟩, c1, c2, c3, c4, c5, c6, c7⟩ := hf
    have hm : m = ⟨#[]⟩ := by
      rcases b3 with h | h | h
      · exact h
      · omega
      · omega
    subst hm
    exact ⟨(n, t), rfl, c6 rfl, hl.num⟩

theorem mags_of : ∀ (ks : List Tr), (∀ x ∈ ks, FitsT x) → (∀ x ∈ ks, Lies x) → (∀ x ∈ ks, x.kind = 40) → ∃ l : List (Int × ByteArray), ks = l.map magT ∧ ∀ p ∈ l, p.2 ∈ unitTexts ∧ 0 ≤ p.1 ∧ p.1 ≤ 18446744073709551615
  | [], _, _, _ => ⟨[], rfl, fun p hp => by cases hp⟩
  | x :: ks, h1, h2, h3 => by
    obtain ⟨p, rfl, hp⟩ := mag_of (h1 x (by simp)) (h2 x (by simp)) (h3 x (by simp))
    obtain ⟨l, rfl, hl⟩ := mags_of ks (fun y hy => h1 y (by simp [hy])) (fun y hy => h2 y (by simp [hy])) (fun y hy => h3 y (by simp [hy]))
    refine ⟨p :: l, rfl, fun q hq => ?_⟩
    rcases List.mem_cons.1 hq with rfl | hq
    · exact hp
    · exact hl q hq

theorem exprB.ast {k : Int} (h : exprB k) : astKind k := by unfold exprB at h; unfold astKind; omega
theorem stmtB.ast {k : Int} (h : stmtB k) (h13 : k ≠ 13) : astKind k := by unfold stmtB at h; unfold astKind; omega


set_option maxHeartbeats 4000000 in
theorem fits_ast (tr : Tr) : Lies tr → FitsT tr → NoB tr → astKind tr.kind → AstT tr := by
  induction tr using Tr.ind2 with
  | h k t m n ks ih ihl =>
    intro hin h hb hk
    have hls := hin.kids
    have hnn := hin.num
    have hnb := hb.kids
    have hk' : astKind k := hk
    have ihl : ∀ y ∈ ks, ∀ x ∈ y.kids, FitsT x → NoB x → astKind x.kind → AstT x := fun y hy x hx => ihl y hy x hx (by
      have := hls y hy
      cases y with
      | mk a b c d e => exact this.kids x hx)
    cases h with
    | none => exact absurd hk'.1 (by decide)
    | node hk1 hf hs hkids hd =>
      have hcase : k = 2 ∨ k = 3 ∨ k = 4 ∨ k = 5 ∨ k = 6 ∨ k = 7 ∨ k = 8 ∨ k = 9 ∨ k = 10 ∨ k = 11 ∨ k = 12 ∨ k = 14 ∨ k = 15 ∨ k = 16 ∨ k = 17 ∨ k = 18 ∨ k = 19 ∨ k = 20 ∨ k = 21 ∨ k = 22 ∨ k = 23 ∨ k = 24 ∨ k = 25 ∨ k = 26 ∨ k = 27 ∨ k = 28 ∨ k = 29 ∨ k = 30 ∨ k = 31 ∨ k = 32 ∨ k = 33 ∨ k = 34 ∨ k = 35 ∨ k = 36 ∨ k = 37 ∨ k = 38 ∨ k = 39 ∨ k = 41 ∨ k = 42 ∨ k = 43 := by unfold astKind at hk'; omega
      rcases hcase with rfl | rfl | rfl | rfl | rfl | rfl | rfl | rfl | rfl | rfl | rfl | rfl | rfl | rfl | rfl | rfl | rfl | rfl | rfl | rfl | rfl | rfl | rfl | rfl | rfl | rfl | rfl | rfl | rfl | rfl | rfl | rfl | rfl | rfl | rfl | rfl | rfl | rfl | rfl | rfl
      · have hsh := hs (by decide)
        have hn0 : n = 0 := hf.1.2.1 (by decide)
        subst hn0
        have gl := formR0 (c := 20) hsh (by decide) (by decide)
        have ul : ∀ x ∈ ks, x.kind = 3 := fun x hx => c_file (gl x hx)
        have vl : ∀ x ∈ ks, AstT x := fun x hx => ih x hx (hls x hx) (hkids x hx) (hnb x hx) (by have hc := ul x hx; exact (by rw [hc]; decide))
        exact .k2 t hf.1.2.2.2.1 m hf.1.2.2.2.2.1 ks vl ul
      · have hsh := hs (by decide)
        have hn0 : n = 0 := hf.1.2.1 (by decide)
        subst hn0
        obtain ⟨a0, a1, a2, rfl, g0, g1, g2⟩ := form3 (c0 := 19) (c1 := 17) (c2 := 18) hsh (by decide) (by decide)
        have hc0 := c_clause g0
        have v0 : a0.kind ≠ 0 → AstT a0 := fun hz => ih a0 (by simp) (hls a0 (by simp)) (hkids a0 (by simp)) (hnb a0 (by simp)) (by rcases hc0 with hc | hc <;> first | exact absurd hc hz | exact hc.ast | (rw [hc]; decide))
        obtain ⟨q1, p1⟩ := c_imps g1
        obtain ⟨l1, rfl, r1⟩ := list_of (hkids a1 (by simp)) q1
        have u1 : ∀ x ∈ l1, x.kind = 5 := p1
        have v1 : ∀ x ∈ l1, AstT x := fun x hx => ihl (.mk 1 ⟨#[]⟩ ⟨#[]⟩ 0 l1) (by simp) x hx (r1 x hx) ((hnb (.mk 1 ⟨#[]⟩ ⟨#[]⟩ 0 l1) (by simp)).kids x hx) (by have hc := u1 x hx; exact (by rw [hc]; decide))
        obtain ⟨q2, p2⟩ := c_stmts g2
        obtain ⟨l2, rfl, r2⟩ := list_of (hkids a2 (by simp)) q2
        have u2 : ∀ x ∈ l2, (stmtB x.kind ∧ x.kind ≠ 13) := fun x hx => ⟨p2 x hx, (hnb (.mk 1 ⟨#[]⟩ ⟨#[]⟩ 0 l2) (by simp)).kids x hx |>.kind⟩
        have v2 : ∀ x ∈ l2, AstT x := fun x hx => ihl (.mk 1 ⟨#[]⟩ ⟨#[]⟩ 0 l2) (by simp) x hx (r2 x hx) ((hnb (.mk 1 ⟨#[]⟩ ⟨#[]⟩ 0 l2) (by simp)).kids x hx) (by have hc := u2 x hx; exact hc.1.ast hc.2)
        exact .k3 t hf.1.2.2.2.1 m hf.1.2.2.2.2.1 a0 v0 (no_of (hkids a0 (by simp))) hc0 l1 v1 u1 l2 v2 u2
      · have hsh := hs (by decide)
        have ht0 : t = ⟨#[]⟩ := hf.1.1 (by decide)
        have hm0 : m = ⟨#[]⟩ := by
          rcases hf.1.2.2.1 with h | h | h
          · exact h
          · exact absurd h (by decide)
          · exact absurd h (by decide)
        have hn0 : n = 0 := hf.1.2.1 (by decide)
        subst ht0 hm0 hn0
        obtain ⟨a0, rfl, g0⟩ := form1 (c0 := 3) hsh (by decide) (by decide)
        have hc0 := c_id g0
        have v0 : AstT a0 := ih a0 (by simp) (hls a0 (by simp)) (hkids a0 (by simp)) (hnb a0 (by simp)) (by have hc := hc0; exact (by rw [hc]; decide))
        exact .k4 a0 v0 hc0
      · have hsh := hs (by decide)
        have ht0 : t = ⟨#[]⟩ := hf.1.1 (by decide)
        have hm0 : m = ⟨#[]⟩ := by
          rcases hf.1.2.2.1 with h | h | h
          · exact h
          · exact absurd h (by decide)
          · exact absurd h (by decide)
        have hn0 : n = 0 := hf.1.2.1 (by decide)
        subst ht0 hm0 hn0
        obtain ⟨a0, a1, rfl, g0, g1⟩ := form2 (c0 := 4) (c1 := 15) hsh (by decide) (by decide)
        have hc0 := c_idopt g0
        have v0 : a0.kind ≠ 0 → AstT a0 := fun hz => ih a0 (by simp) (hls a0 (by simp)) (hkids a0 (by simp)) (hnb a0 (by simp)) (by rcases hc0 with hc | hc <;> first | exact absurd hc hz | exact hc.ast | (rw [hc]; decide))
        have hc1 := c_str g1
        have v1 : AstT a1 := ih a1 (by simp) (hls a1 (by simp)) (hkids a1 (by simp)) (hnb a1 (by simp)) (by have hc := hc1; exact (by rw [hc]; decide))
        exact .k5 a0 v0 (no_of (hkids a0 (by simp))) hc0 a1 v1 hc1
      · have hsh := hs (by decide)
        have ht0 : t = ⟨#[]⟩ := hf.1.1 (by decide)
        have hm0 : m = ⟨#[]⟩ := by
          rcases hf.1.2.2.1 with h | h | h
          · exact h
          · exact absurd h (by decide)
          · exact absurd h (by decide)
        have hn0 : n = 0 := hf.1.2.1 (by decide)
        subst ht0 hm0 hn0
        have gl := formR0 (c := 1) hsh (by decide) (by decide)
        have ul : ∀ x ∈ ks, (stmtB x.kind ∧ x.kind ≠ 13) := fun x hx => ⟨c_stmt (gl x hx), (hnb x hx).kind⟩
        have vl : ∀ x ∈ ks, AstT x := fun x hx => ih x hx (hls x hx) (hkids x hx) (hnb x hx) (by have hc := ul x hx; exact hc.1.ast hc.2)
        exact .k6 ks vl ul
      · have hsh := hs (by decide)
        have hm0 : m = ⟨#[]⟩ := by
          rcases hf.1.2.2.1 with h | h | h
          · exact h
          · exact absurd h (by decide)
          · exact absurd h (by decide)
        have hn0 : n = 0 := hf.1.2.1 (by decide)
        subst hm0 hn0
        obtain rfl := form0 hsh (by decide) (by decide)
        exact .k7 t hf.1.2.2.2.1
      · have hsh := hs (by decide)
        have ht0 : t = ⟨#[]⟩ := hf.1.1 (by decide)
        have hm0 : m = ⟨#[]⟩ := by
          rcases hf.1.2.2.1 with h | h | h
          · exact h
          · exact absurd h (by decide)
          · exact absurd h (by decide)
        have hn0 : n = 0 := hf.1.2.1 (by decide)
        subst ht0 hm0 hn0
        obtain ⟨a0, rfl, g0⟩ := form1 (c0 := 0) hsh (by decide) (by decide)
        have hc0 := c_expr g0
        have v0 : AstT a0 := ih a0 (by simp) (hls a0 (by simp)) (hkids a0 (by simp)) (hnb a0 (by simp)) (by have hc := hc0; exact hc.ast)
        exact .k8 a0 v0 hc0
      · have hsh := hs (by decide)
        have ht0 : t = ⟨#[]⟩ := hf.1.1 (by decide)
        have hm0 : m = ⟨#[]⟩ := by
          rcases hf.1.2.2.1 with h | h | h
          · exact h
          · exact absurd h (by decide)
          · exact absurd h (by decide)
        have hn0 : n = 0 := hf.1.2.1 (by decide)
        subst ht0 hm0 hn0
        obtain ⟨a0, rfl, g0⟩ := form1 (c0 := 0) hsh (by decide) (by decide)
        have hc0 := c_expr g0
        have v0 : AstT a0 := ih a0 (by simp) (hls a0 (by simp)) (hkids a0 (by simp)) (hnb a0 (by simp)) (by have hc := hc0; exact hc.ast)
        exact .k9 a0 v0 hc0
      · have hsh := hs (by decide)
        have ht0 : t = ⟨#[]⟩ := hf.1.1 (by decide)
        have hm0 : m = ⟨#[]⟩ := by
          rcases hf.1.2.2.1 with h | h | h
          · exact h
          · exact absurd h (by decide)
          · exact absurd h (by decide)
        have hn0 : n = 0 := hf.1.2.1 (by decide)
        subst ht0 hm0 hn0
        obtain ⟨a0, a1, rfl, g0, g1⟩ := form2 (c0 := 3) (c1 := 0) hsh (by decide) (by decide)
        have hc0 := c_id g0
        have v0 : AstT a0 := ih a0 (by simp) (hls a0 (by simp)) (hkids a0 (by simp)) (hnb a0 (by simp)) (by have hc := hc0; exact (by rw [hc]; decide))
        have hc1 := c_expr g1
        have v1 : AstT a1 := ih a1 (by simp) (hls a1 (by simp)) (hkids a1 (by simp)) (hnb a1 (by simp)) (by have hc := hc1; exact hc.ast)
        exact .k10 a0 v0 hc0 a1 v1 hc1
      · have hsh := hs (by decide)
        have ht0 : t = ⟨#[]⟩ := hf.1.1 (by decide)
        have hm0 : m = ⟨#[]⟩ := by
          rcases hf.1.2.2.1 with h | h | h
          · exact h
          · exact absurd h (by decide)
          · exact absurd h (by decide)
        have hn0 : n = 0 := hf.1.2.1 (by decide)
        subst ht0 hm0 hn0
        obtain ⟨a0, a1, rfl, g0, g1⟩ := form2 (c0 := 13) (c1 := 0) hsh (by decide) (by decide)
        have hc0 := c_member g0
        have v0 : AstT a0 := ih a0 (by simp) (hls a0 (by simp)) (hkids a0 (by simp)) (hnb a0 (by simp)) (by have hc := hc0; exact (by rw [hc]; decide))
        have hc1 := c_expr g1
        have v1 : AstT a1 := ih a1 (by simp) (hls a1 (by simp)) (hkids a1 (by simp)) (hnb a1 (by simp)) (by have hc := hc1; exact hc.ast)
        exact .k11 a0 v0 hc0 a1 v1 hc1
      · have hsh := hs (by decide)
        have ht0 : t = ⟨#[]⟩ := hf.1.1 (by decide)
        have hm0 : m = ⟨#[]⟩ := by
          rcases hf.1.2.2.1 with h | h | h
          · exact h
          · exact absurd h (by decide)
          · exact absurd h (by decide)
        have hn0 : n = 0 := hf.1.2.1 (by decide)
        subst ht0 hm0 hn0
        obtain ⟨a0, rfl, g0⟩ := form1 (c0 := 12) hsh (by decide) (by decide)
        have hc0 := c_assign g0
        have v0 : AstT a0 := ih a0 (by simp) (hls a0 (by simp)) (hkids a0 (by simp)) (hnb a0 (by simp)) (by have hc := hc0; exact (by rcases hc with hc | hc <;> first | exact hc.ast | (rw [hc]; decide)))
        exact .k12 a0 v0 hc0
      · have hsh := hs (by decide)
        have ht0 : t = ⟨#[]⟩ := hf.1.1 (by decide)
        have hm0 : m = ⟨#[]⟩ := by
          rcases hf.1.2.2.1 with h | h | h
          · exact h
          · exact absurd h (by decide)
          · exact absurd h (by decide)
        have hn0 : n = 0 := hf.1.2.1 (by decide)
        subst ht0 hm0 hn0
        obtain ⟨a0, rfl, g0⟩ := form1 (c0 := 11) hsh (by decide) (by decide)
        have hc0 := c_var g0
        have v0 : AstT a0 := ih a0 (by simp) (hls a0 (by simp)) (hkids a0 (by simp)) (hnb a0 (by simp)) (by have hc := hc0; exact (by rw [hc]; decide))
        exact .k14 a0 v0 hc0
      · have hsh := hs (by decide)
        have ht0 : t = ⟨#[]⟩ := hf.1.1 (by decide)
        have hm0 : m = ⟨#[]⟩ := by
          rcases hf.1.2.2.1 with h | h | h
          · exact h
          · exact absurd h (by decide)
          · exact absurd h (by decide)
        have hn0 : n = 0 := hf.1.2.1 (by decide)
        subst ht0 hm0 hn0
        obtain ⟨a0, a1, a2, rfl, g0, g1, g2⟩ := form3 (c0 := 3) (c1 := 5) (c2 := 14) hsh (by decide) (by decide)
        have hc0 := c_id g0
        have v0 : AstT a0 := ih a0 (by simp) (hls a0 (by simp)) (hkids a0 (by simp)) (hnb a0 (by simp)) (by have hc := hc0; exact (by rw [hc]; decide))
        have hc1 := c_stropt g1
        have v1 : a1.kind ≠ 0 → AstT a1 := fun hz => ih a1 (by simp) (hls a1 (by simp)) (hkids a1 (by simp)) (hnb a1 (by simp)) (by rcases hc1 with hc | hc <;> first | exact absurd hc hz | exact hc.ast | (rw [hc]; decide))
        have hc2 := c_block g2
        have v2 : AstT a2 := ih a2 (by simp) (hls a2 (by simp)) (hkids a2 (by simp)) (hnb a2 (by simp)) (by have hc := hc2; exact (by rw [hc]; decide))
        exact .k15 a0 v0 hc0 a1 v1 (no_of (hkids a1 (by simp))) hc1 a2 v2 hc2
      · have hsh := hs (by decide)
        have ht0 : t = ⟨#[]⟩ := hf.1.1 (by decide)
        have hm0 : m = ⟨#[]⟩ := by
          rcases hf.1.2.2.1 with h | h | h
          · exact h
          · exact absurd h (by decide)
          · exact absurd h (by decide)
        have hn0 : n = 0 := hf.1.2.1 (by decide)
        subst ht0 hm0 hn0
        obtain ⟨a0, ks, rfl, g0, gl⟩ := formR1 (c0 := 0) (c := 0) hsh (by decide) (by decide)
        have hc0 := c_expr g0
        have v0 : AstT a0 := ih a0 (by simp) (hls a0 (by simp)) (hkids a0 (by simp)) (hnb a0 (by simp)) (by have hc := hc0; exact hc.ast)
        have ul : ∀ x ∈ ks, exprB x.kind := fun x hx => c_expr (gl x hx)
        have vl : ∀ x ∈ ks, AstT x := fun x hx => ih x (by simp [hx]) (hls x (by simp [hx])) (hkids x (by simp [hx])) (hnb x (by simp [hx])) (by have hc := ul x hx; exact hc.ast)
        exact .k16 a0 v0 hc0 ks vl ul
      · have hsh := hs (by decide)
        have ht0 : t = ⟨#[]⟩ := hf.1.1 (by decide)
        have hm0 : m = ⟨#[]⟩ := by
          rcases hf.1.2.2.1 with h | h | h
          · exact h
          · exact absurd h (by decide)
          · exact absurd h (by decide)
        have hn0 : n = 0 := hf.1.2.1 (by decide)
        subst ht0 hm0 hn0
        obtain ⟨a0, a1, rfl, g0, g1⟩ := form2 (c0 := 0) (c1 := 6) hsh (by decide) (by decide)
        have hc0 := c_expr g0
        have v0 : AstT a0 := ih a0 (by simp) (hls a0 (by simp)) (hkids a0 (by simp)) (hnb a0 (by simp)) (by have hc := hc0; exact hc.ast)
        have hc1 := c_key g1
        have v1 : AstT a1 := ih a1 (by simp) (hls a1 (by simp)) (hkids a1 (by simp)) (hnb a1 (by simp)) (by have hc := hc1; exact (by rcases hc with hc | hc <;> first | exact hc.ast | (rw [hc]; decide)))
        exact .k17 a0 v0 hc0 a1 v1 hc1
      · have hsh := hs (by decide)
        have ht0 : t = ⟨#[]⟩ := hf.1.1 (by decide)
        have hm0 : m = ⟨#[]⟩ := by
          rcases hf.1.2.2.1 with h | h | h
          · exact h
          · exact absurd h (by decide)
          · exact absurd h (by decide)
        have hn0 : n = 0 := hf.1.2.1 (by decide)
        subst ht0 hm0 hn0
        obtain ⟨a0, a1, rfl, g0, g1⟩ := form2 (c0 := 0) (c1 := 0) hsh (by decide) (by decide)
        have hc0 := c_expr g0
        have v0 : AstT a0 := ih a0 (by simp) (hls a0 (by simp)) (hkids a0 (by simp)) (hnb a0 (by simp)) (by have hc := hc0; exact hc.ast)
        have hc1 := c_expr g1
        have v1 : AstT a1 := ih a1 (by simp) (hls a1 (by simp)) (hkids a1 (by simp)) (hnb a1 (by simp)) (by have hc := hc1; exact hc.ast)
        exact .k18 a0 v0 hc0 a1 v1 hc1
      · have hsh := hs (by decide)
        have ht0 : t = ⟨#[]⟩ := hf.1.1 (by decide)
        have hm0 : m = ⟨#[]⟩ := by
          rcases hf.1.2.2.1 with h | h | h
          · exact h
          · exact absurd h (by decide)
          · exact absurd h (by decide)
        have hn0 : n = 0 := hf.1.2.1 (by decide)
        subst ht0 hm0 hn0
        obtain ⟨a0, a1, rfl, g0, g1⟩ := form2 (c0 := 0) (c1 := 9) hsh (by decide) (by decide)
        have hc0 := c_expr g0
        have v0 : AstT a0 := ih a0 (by simp) (hls a0 (by simp)) (hkids a0 (by simp)) (hnb a0 (by simp)) (by have hc := hc0; exact hc.ast)
        have hc1 := c_call g1
        have v1 : AstT a1 := ih a1 (by simp) (hls a1 (by simp)) (hkids a1 (by simp)) (hnb a1 (by simp)) (by have hc := hc1; exact (by rw [hc]; decide))
        exact .k19 a0 v0 hc0 a1 v1 hc1
      · have hsh := hs (by decide)
        have ht0 : t = ⟨#[]⟩ := hf.1.1 (by decide)
        have hm0 : m = ⟨#[]⟩ := by
          rcases hf.1.2.2.1 with h | h | h
          · exact h
          · exact absurd h (by decide)
          · exact absurd h (by decide)
        have hn0 : n = 0 := hf.1.2.1 (by decide)
        subst ht0 hm0 hn0
        obtain ⟨a0, a1, rfl, g0, g1⟩ := form2 (c0 := 16) (c1 := 7) hsh (by decide) (by decide)
        obtain ⟨q0, p0⟩ := c_props g0
        obtain ⟨l0, rfl, r0⟩ := list_of (hkids a0 (by simp)) q0
        have u0 : ∀ x ∈ l0, x.kind = 29 := p0
        have v0 : ∀ x ∈ l0, AstT x := fun x hx => ihl (.mk 1 ⟨#[]⟩ ⟨#[]⟩ 0 l0) (by simp) x hx (r0 x hx) ((hnb (.mk 1 ⟨#[]⟩ ⟨#[]⟩ 0 l0) (by simp)).kids x hx) (by have hc := u0 x hx; exact (by rw [hc]; decide))
        have hc1 := c_body g1
        have v1 : AstT a1 := ih a1 (by simp) (hls a1 (by simp)) (hkids a1 (by simp)) (hnb a1 (by simp)) (by have hc := hc1; exact (by rcases hc with hc | hc <;> first | exact hc.ast | (rw [hc]; decide)))
        exact .k20 l0 v0 u0 a1 v1 hc1
      · have hsh := hs (by decide)
        have hm0 : m = ⟨#[]⟩ := by
          rcases hf.1.2.2.1 with h | h | h
          · exact h
          · exact absurd h (by decide)
          · exact absurd h (by decide)
        have hn0 : n = 0 := hf.1.2.1 (by decide)
        subst hm0 hn0
        obtain ⟨a0, a1, rfl, g0, g1⟩ := form2 (c0 := 0) (c1 := 0) hsh (by decide) (by decide)
        have hc0 := c_expr g0
        have v0 : AstT a0 := ih a0 (by simp) (hls a0 (by simp)) (hkids a0 (by simp)) (hnb a0 (by simp)) (by have hc := hc0; exact hc.ast)
        have hc1 := c_expr g1
        have v1 : AstT a1 := ih a1 (by simp) (hls a1 (by simp)) (hkids a1 (by simp)) (hnb a1 (by simp)) (by have hc := hc1; exact hc.ast)
        exact .k21 t (hf.2.1 rfl).1 a0 v0 hc0 a1 v1 hc1
      · have hsh := hs (by decide)
        have hm0 : m = ⟨#[]⟩ := by
          rcases hf.1.2.2.1 with h | h | h
          · exact h
          · exact absurd h (by decide)
          · exact absurd h (by decide)
        have hn0 : n = 0 := hf.1.2.1 (by decide)
        subst hm0 hn0
        obtain ⟨a0, rfl, g0⟩ := form1 (c0 := 0) hsh (by decide) (by decide)
        have hc0 := c_expr g0
        have v0 : AstT a0 := ih a0 (by simp) (hls a0 (by simp)) (hkids a0 (by simp)) (hnb a0 (by simp)) (by have hc := hc0; exact hc.ast)
        exact .k22 t (hf.2.2.1 rfl) a0 v0 hc0
      · have hsh := hs (by decide)
        have hm0 : m = ⟨#[]⟩ := by
          rcases hf.1.2.2.1 with h | h | h
          · exact h
          · exact absurd h (by decide)
          · exact absurd h (by decide)
        have hn0 : n = 0 := hf.1.2.1 (by decide)
        subst hm0 hn0
        obtain ⟨a0, a1, rfl, g0, g1⟩ := form2 (c0 := 0) (c1 := 0) hsh (by decide) (by decide)
        have hc0 := c_expr g0
        have v0 : AstT a0 := ih a0 (by simp) (hls a0 (by simp)) (hkids a0 (by simp)) (hnb a0 (by simp)) (by have hc := hc0; exact hc.ast)
        have hc1 := c_expr g1
        have v1 : AstT a1 := ih a1 (by simp) (hls a1 (by simp)) (hkids a1 (by simp)) (hnb a1 (by simp)) (by have hc := hc1; exact hc.ast)
        exact .k23 t (hf.2.2.2.1 rfl) a0 v0 hc0 a1 v1 hc1
      · have hsh := hs (by decide)
        have ht0 : t = ⟨#[]⟩ := hf.1.1 (by decide)
        have hm0 : m = ⟨#[]⟩ := by
          rcases hf.1.2.2.1 with h | h | h
          · exact h
          · exact absurd h (by decide)
          · exact absurd h (by decide)
        have hn0 : n = 0 := hf.1.2.1 (by decide)
        subst ht0 hm0 hn0
        obtain ⟨a0, a1, a2, rfl, g0, g1, g2⟩ := form3 (c0 := 0) (c1 := 0) (c2 := 0) hsh (by decide) (by decide)
        have hc0 := c_expr g0
        have v0 : AstT a0 := ih a0 (by simp) (hls a0 (by simp)) (hkids a0 (by simp)) (hnb a0 (by simp)) (by have hc := hc0; exact hc.ast)
        have hc1 := c_expr g1
        have v1 : AstT a1 := ih a1 (by simp) (hls a1 (by simp)) (hkids a1 (by simp)) (hnb a1 (by simp)) (by have hc := hc1; exact hc.ast)
        have hc2 := c_expr g2
        have v2 : AstT a2 := ih a2 (by simp) (hls a2 (by simp)) (hkids a2 (by simp)) (hnb a2 (by simp)) (by have hc := hc2; exact hc.ast)
        exact .k24 a0 v0 hc0 a1 v1 hc1 a2 v2 hc2
      · have hsh := hs (by decide)
        have ht0 : t = ⟨#[]⟩ := hf.1.1 (by decide)
        have hm0 : m = ⟨#[]⟩ := by
          rcases hf.1.2.2.1 with h | h | h
          · exact h
          · exact absurd h (by decide)
          · exact absurd h (by decide)
        have hn0 : n = 0 := hf.1.2.1 (by decide)
        subst ht0 hm0 hn0
        obtain ⟨a0, rfl, g0⟩ := form1 (c0 := 0) hsh (by decide) (by decide)
        have hc0 := c_expr g0
        have v0 : AstT a0 := ih a0 (by simp) (hls a0 (by simp)) (hkids a0 (by simp)) (hnb a0 (by simp)) (by have hc := hc0; exact hc.ast)
        exact .k25 a0 v0 hc0
      · have hsh := hs (by decide)
        have ht0 : t = ⟨#[]⟩ := hf.1.1 (by decide)
        have hm0 : m = ⟨#[]⟩ := by
          rcases hf.1.2.2.1 with h | h | h
          · exact h
          · exact absurd h (by decide)
          · exact absurd h (by decide)
        have hn0 : n = 0 := hf.1.2.1 (by decide)
        subst ht0 hm0 hn0
        have gl := formR0 (c := 0) hsh (by decide) (by decide)
        have ul : ∀ x ∈ ks, exprB x.kind := fun x hx => c_expr (gl x hx)
        have vl : ∀ x ∈ ks, AstT x := fun x hx => ih x hx (hls x hx) (hkids x hx) (hnb x hx) (by have hc := ul x hx; exact hc.ast)
        exact .k26 ks vl ul
      · have hsh := hs (by decide)
        have ht0 : t = ⟨#[]⟩ := hf.1.1 (by decide)
        have hm0 : m = ⟨#[]⟩ := by
          rcases hf.1.2.2.1 with h | h | h
          · exact h
          · exact absurd h (by decide)
          · exact absurd h (by decide)
        have hn0 : n = 0 := hf.1.2.1 (by decide)
        subst ht0 hm0 hn0
        have gl := formR0 (c := 0) hsh (by decide) (by decide)
        have ul : ∀ x ∈ ks, exprB x.kind := fun x hx => c_expr (gl x hx)
        have vl : ∀ x ∈ ks, AstT x := fun x hx => ih x hx (hls x hx) (hkids x hx) (hnb x hx) (by have hc := ul x hx; exact hc.ast)
        exact .k27 ks vl ul (hd rfl)
      · have hsh := hs (by decide)
        have ht0 : t = ⟨#[]⟩ := hf.1.1 (by decide)
        have hm0 : m = ⟨#[]⟩ := by
          rcases hf.1.2.2.1 with h | h | h
          · exact h
          · exact absurd h (by decide)
          · exact absurd h (by decide)
        have hn0 : n = 0 := hf.1.2.1 (by decide)
        subst ht0 hm0 hn0
        obtain ⟨a0, ks, rfl, g0, gl⟩ := formR1 (c0 := 4) (c := 21) hsh (by decide) (by decide)
        have hc0 := c_idopt g0
        have v0 : a0.kind ≠ 0 → AstT a0 := fun hz => ih a0 (by simp) (hls a0 (by simp)) (hkids a0 (by simp)) (hnb a0 (by simp)) (by rcases hc0 with hc | hc <;> first | exact absurd hc hz | exact hc.ast | (rw [hc]; decide))
        have ul : ∀ x ∈ ks, x.kind = 29 := fun x hx => c_prop (gl x hx)
        have vl : ∀ x ∈ ks, AstT x := fun x hx => ih x (by simp [hx]) (hls x (by simp [hx])) (hkids x (by simp [hx])) (hnb x (by simp [hx])) (by have hc := ul x hx; exact (by rw [hc]; decide))
        exact .k28 a0 v0 (no_of (hkids a0 (by simp))) hc0 ks vl ul
      · have hsh := hs (by decide)
        have ht0 : t = ⟨#[]⟩ := hf.1.1 (by decide)
        have hm0 : m = ⟨#[]⟩ := by
          rcases hf.1.2.2.1 with h | h | h
          · exact h
          · exact absurd h (by decide)
          · exact absurd h (by decide)
        have hn0 : n = 0 := hf.1.2.1 (by decide)
        subst ht0 hm0 hn0
        obtain ⟨a0, a1, rfl, g0, g1⟩ := form2 (c0 := 6) (c1 := 8) hsh (by decide) (by decide)
        have hc0 := c_key g0
        have v0 : AstT a0 := ih a0 (by simp) (hls a0 (by simp)) (hkids a0 (by simp)) (hnb a0 (by simp)) (by have hc := hc0; exact (by rcases hc with hc | hc <;> first | exact hc.ast | (rw [hc]; decide)))
        have hc1 := c_xopt g1
        have v1 : a1.kind ≠ 0 → AstT a1 := fun hz => ih a1 (by simp) (hls a1 (by simp)) (hkids a1 (by simp)) (hnb a1 (by simp)) (by rcases hc1 with hc | hc <;> first | exact absurd hc hz | exact hc.ast | (rw [hc]; decide))
        exact .k29 a0 v0 hc0 a1 v1 (no_of (hkids a1 (by simp))) hc1
      · have hsh := hs (by decide)
        have ht0 : t = ⟨#[]⟩ := hf.1.1 (by decide)
        have hm0 : m = ⟨#[]⟩ := by
          rcases hf.1.2.2.1 with h | h | h
          · exact h
          · exact absurd h (by decide)
          · exact absurd h (by decide)
        have hn0 : n = 0 := hf.1.2.1 (by decide)
        subst ht0 hm0 hn0
        have gl := formR0 (c := 22) hsh (by decide) (by decide)
        have ul : ∀ x ∈ ks, (x.kind = 31 ∨ x.kind = 32) := fun x hx => c_part (gl x hx)
        have vl : ∀ x ∈ ks, AstT x := fun x hx => ih x hx (hls x hx) (hkids x hx) (hnb x hx) (by have hc := ul x hx; exact (by rcases hc with hc | hc <;> first | exact hc.ast | (rw [hc]; decide)))
        exact .k30 ks vl ul
      · have hsh := hs (by decide)
        have hm0 : m = ⟨#[]⟩ := by
          rcases hf.1.2.2.1 with h | h | h
          · exact h
          · exact absurd h (by decide)
          · exact absurd h (by decide)
        have hn0 : n = 0 := hf.1.2.1 (by decide)
        subst hm0 hn0
        obtain rfl := form0 hsh (by decide) (by decide)
        exact .k31 t hf.1.2.2.2.1
      · have hsh := hs (by decide)
        have ht0 : t = ⟨#[]⟩ := hf.1.1 (by decide)
        have hm0 : m = ⟨#[]⟩ := by
          rcases hf.1.2.2.1 with h | h | h
          · exact h
          · exact absurd h (by decide)
          · exact absurd h (by decide)
        have hn0 : n = 0 := hf.1.2.1 (by decide)
        subst ht0 hm0 hn0
        obtain ⟨a0, rfl, g0⟩ := form1 (c0 := 0) hsh (by decide) (by decide)
        have hc0 := c_expr g0
        have v0 : AstT a0 := ih a0 (by simp) (hls a0 (by simp)) (hkids a0 (by simp)) (hnb a0 (by simp)) (by have hc := hc0; exact hc.ast)
        exact .k32 a0 v0 hc0
      · have hsh := hs (by decide)
        have hm0 : m = ⟨#[]⟩ := by
          rcases hf.1.2.2.1 with h | h | h
          · exact h
          · exact absurd h (by decide)
          · exact absurd h (by decide)
        have hn0 : n = 0 := hf.1.2.1 (by decide)
        subst hm0 hn0
        obtain rfl := form0 hsh (by decide) (by decide)
        exact .k33 t hf.1.2.2.2.1 (hf.2.2.2.2.2.2.2 rfl)
      · have hsh := hs (by decide)
        have hm0 : m = ⟨#[]⟩ := by
          rcases hf.1.2.2.1 with h | h | h
          · exact h
          · exact absurd h (by decide)
          · exact absurd h (by decide)
        have hn0 : n = 0 := hf.1.2.1 (by decide)
        subst hm0 hn0
        obtain rfl := form0 hsh (by decide) (by decide)
        exact .k34 t hf.1.2.2.2.1
      · have hsh := hs (by decide)
        have ht0 : t = ⟨#[]⟩ := hf.1.1 (by decide)
        have hm0 : m = ⟨#[]⟩ := by
          rcases hf.1.2.2.1 with h | h | h
          · exact h
          · exact absurd h (by decide)
          · exact absurd h (by decide)
        subst ht0 hm0
        obtain rfl := form0 hsh (by decide) (by decide)
        exact .k35 n ⟨hnn.1, hf.2.2.2.2.1 rfl⟩
      · have hsh := hs (by decide)
        have ht0 : t = ⟨#[]⟩ := hf.1.1 (by decide)
        have hm0 : m = ⟨#[]⟩ := by
          rcases hf.1.2.2.1 with h | h | h
          · exact h
          · exact absurd h (by decide)
          · exact absurd h (by decide)
        subst ht0 hm0
        obtain rfl := form0 hsh (by decide) (by decide)
        exact .k36 n hnn
      · have hsh := hs (by decide)
        have ht0 : t = ⟨#[]⟩ := hf.1.1 (by decide)
        have hm0 : m = ⟨#[]⟩ := by
          rcases hf.1.2.2.1 with h | h | h
          · exact h
          · exact absurd h (by decide)
          · exact absurd h (by decide)
        subst ht0 hm0
        obtain rfl := form0 hsh (by decide) (by decide)
        exact .k37 n hnn
      · have hsh := hs (by decide)
        have ht0 : t = ⟨#[]⟩ := hf.1.1 (by decide)
        have hm0 : m = ⟨#[]⟩ := by
          rcases hf.1.2.2.1 with h | h | h
          · exact h
          · exact absurd h (by decide)
          · exact absurd h (by decide)
        subst ht0 hm0
        obtain rfl := form0 hsh (by decide) (by decide)
        exact .k38 n hnn
      · have hsh := hs (by decide)
        have ht0 : t = ⟨#[]⟩ := hf.1.1 (by decide)
        have hm0 : m = ⟨#[]⟩ := by
          rcases hf.1.2.2.1 with h | h | h
          · exact h
          · exact absurd h (by decide)
          · exact absurd h (by decide)
        have hn0 : n = 0 := hf.1.2.1 (by decide)
        subst ht0 hm0 hn0
        have gl := formR0 (c := 23) hsh (by decide) (by decide)
        obtain ⟨l, rfl, hl⟩ := mags_of ks hkids hls fun x hx => c_mags (gl x hx)
        exact .k39 l hl
      · have hsh := hs (by decide)
        have ht0 : t = ⟨#[]⟩ := hf.1.1 (by decide)
        have hm0 : m = ⟨#[]⟩ := by
          rcases hf.1.2.2.1 with h | h | h
          · exact h
          · exact absurd h (by decide)
          · exact absurd h (by decide)
        subst ht0 hm0
        obtain rfl := form0 hsh (by decide) (by decide)
        exact .k41 n hnn
      · have hsh := hs (by decide)
        have hm0 : m = ⟨#[]⟩ := by
          rcases hf.1.2.2.1 with h | h | h
          · exact h
          · exact absurd h (by decide)
          · exact absurd h (by decide)
        have hn0 : n = 0 := hf.1.2.1 (by decide)
        subst hm0 hn0
        obtain rfl := form0 hsh (by decide) (by decide)
        exact .k42 t hf.1.2.2.2.1
      · have hsh := hs (by decide)
        have ht0 : t = ⟨#[]⟩ := hf.1.1 (by decide)
        have hm0 : m = ⟨#[]⟩ := by
          rcases hf.1.2.2.1 with h | h | h
          · exact h
          · exact absurd h (by decide)
          · exact absurd h (by decide)
        have hn0 : n = 0 := hf.1.2.1 (by decide)
        subst ht0 hm0 hn0
        obtain rfl := form0 hsh (by decide) (by decide)
        exact .k43 

end Go.Proofs.YtkohgndmhgcgeaaGreatDoor
