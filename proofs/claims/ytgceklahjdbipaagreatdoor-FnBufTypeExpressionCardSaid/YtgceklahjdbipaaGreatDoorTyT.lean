/- Types' trees, and that their tables are written: one induction, over any reading of the tables. Every type's table is made. -/
import Derived.Test.YtgceklahjdbipaaGreatDoorWr
namespace Go.Proofs.YtgceklahjdbipaaGreatDoor
open Go Go.RowKit
set_option linter.unusedVariables false
set_option linter.unusedSimpArgs false

def idT (x : ByteArray) : Tr := .mk 33 x ⟨#[]⟩ 0 []
def noT : Tr := .mk 0 ⟨#[]⟩ ⟨#[]⟩ 0 []

/-- Trees of types. -/
inductive TyT : Tr → Prop
  | id (x : ByteArray) (hx : x.size ≤ 300) (h0 : x ≠ ⟨#[]⟩) (hv : Lib.validD x.data.toList = true) : TyT (idT x)
  | name (k : Int) (hk : k = 45 ∨ k = 46) (x : ByteArray) (h : TyT (idT x)) : TyT (.mk k ⟨#[]⟩ ⟨#[]⟩ 0 [idT x])
  | array (e : Tr) (he : typeB e.kind) (h : TyT e) : TyT (.mk 47 ⟨#[]⟩ ⟨#[]⟩ 0 [e])
  | dict (e1 e2 : Tr) (he1 : typeB e1.kind) (h1 : TyT e1) (he2 : typeB e2.kind) (h2 : TyT e2) : TyT (.mk 48 ⟨#[]⟩ ⟨#[]⟩ 0 [e1, e2])
  | record (ks : List Tr) (hk : ∀ x ∈ ks, x.kind = 50) (h : ∀ x ∈ ks, TyT x) : TyT (.mk 49 ⟨#[]⟩ ⟨#[]⟩ 0 (noT :: ks))
  | recordWith (x : ByteArray) (hx : TyT (idT x)) (ks : List Tr) (hk : ∀ x ∈ ks, x.kind = 50) (h : ∀ x ∈ ks, TyT x) : TyT (.mk 49 ⟨#[]⟩ ⟨#[]⟩ 0 (idT x :: ks))
  | prop (x : ByteArray) (hx : TyT (idT x)) (e : Tr) (he : typeB e.kind) (h : TyT e) : TyT (.mk 50 ⟨#[]⟩ ⟨#[]⟩ 0 [idT x, e])
  | func (e : Tr) (he : typeB e.kind) (h1 : TyT e) (ks : List Tr) (hk : ∀ x ∈ ks, x.kind = 52) (h : ∀ x ∈ ks, TyT x) : TyT (.mk 51 ⟨#[]⟩ ⟨#[]⟩ 0 (e :: ks))
  | param (n : Nat) (hn : n ≤ 2) (e : Tr) (he : typeB e.kind) (h : TyT e) : TyT (.mk 52 ⟨#[]⟩ ⟨#[]⟩ n [noT, e])
  | paramWith (n : Nat) (hn : n ≤ 2) (x : ByteArray) (hx : TyT (idT x)) (e : Tr) (he : typeB e.kind) (h : TyT e) : TyT (.mk 52 ⟨#[]⟩ ⟨#[]⟩ n [idT x, e])
  | cons (x : ByteArray) (hx : TyT (idT x)) (ks : List Tr) (hk : ∀ x ∈ ks, x.kind = 33) (h : ∀ x ∈ ks, TyT x) : TyT (.mk 53 ⟨#[]⟩ ⟨#[]⟩ 0 (idT x :: ks))
  | expr (e : Tr) (he : typeB e.kind) (h1 : TyT e) (ks : List Tr) (hk : ∀ x ∈ ks, x.kind = 53) (h : ∀ x ∈ ks, TyT x) : TyT (.mk 44 ⟨#[]⟩ ⟨#[]⟩ 0 (e :: ks))

theorem typeB.ne {k : Int} (h : typeB k) : k ≠ 0 := by unfold typeB at h; omega

/-- What a table over slots says. -/
def TabT (base : Bool) (fs : List SlotQ) (q1 q2 : List Nat) (z1 z2 : Nat) : List UInt8 → Nat → Prop := TabQ (if base then z2 else z1) (if base then q2 else q1) (fsB base fs)

abbrev Reads := Tr → (List UInt8 → Nat → Prop) → Prop

/-- Lists are read tree by tree. -/
structure ListR (R : Reads) (kids : List Tr) (ps : List PartQ) : Prop where
  len : ps.length = kids.length
  few : kids.length ≤ 400
  ok : ∀ p ∈ ps, PartOk p.P p.sz p.Q
  rd : ∀ i (h : i < kids.length) (h2 : i < ps.length), R kids[i] ps[i].Q

/-- A reading of types' tables, kind by kind. -/
structure TyR (base : Bool) (R : Reads) : Prop where
  id : ∀ x, x.size ≤ 300 → TyT (idT x) → R (idT x) (LeafText x)
  name : ∀ k (hk : k = 45 ∨ k = 46) x P s Q, TyT (.mk k ⟨#[]⟩ ⟨#[]⟩ 0 [idT x]) → PartOk P s Q → R (idT x) Q → R (.mk k ⟨#[]⟩ ⟨#[]⟩ 0 [idT x]) (TabT base [kidQ 1 P s Q] [0, 4] [8, 4] 8 12)
  array : ∀ e (he : typeB e.kind) P s Q, TyT (.mk 47 ⟨#[]⟩ ⟨#[]⟩ 0 [e]) → PartOk P s Q → R e Q → R (.mk 47 ⟨#[]⟩ ⟨#[]⟩ 0 [e]) (TabT base [numQ 1 1 (choiceOf e.kind).toNat, kidQ 2 P s Q] [0, 8, 4] [8, 12, 4] 9 13)
  dict : ∀ e1 e2 (he1 : typeB e1.kind) (he2 : typeB e2.kind) P1 s1 Q1 P2 s2 Q2, TyT (.mk 48 ⟨#[]⟩ ⟨#[]⟩ 0 [e1, e2]) → PartOk P1 s1 Q1 → R e1 Q1 → PartOk P2 s2 Q2 → R e2 Q2 → R (.mk 48 ⟨#[]⟩ ⟨#[]⟩ 0 [e1, e2]) (TabT base ([numQ 1 1 (choiceOf e1.kind).toNat, kidQ 2 P1 s1 Q1] ++ [numQ 3 1 (choiceOf e2.kind).toNat, kidQ 4 P2 s2 Q2]) [0, 12, 4, 13, 8] [12, 16, 4, 17, 8] 14 18)
  record : ∀ ks (hk : ∀ x ∈ ks, x.kind = 50) ps, TyT (.mk 49 ⟨#[]⟩ ⟨#[]⟩ 0 (noT :: ks)) → ListR R ks ps → R (.mk 49 ⟨#[]⟩ ⟨#[]⟩ 0 (noT :: ks)) (TabT base [listQ 1 ps] [0, 4] [8, 4] 8 12)
  recordWith : ∀ x ks (hk : ∀ x ∈ ks, x.kind = 50) ps P s Q, TyT (.mk 49 ⟨#[]⟩ ⟨#[]⟩ 0 (idT x :: ks)) → ListR R ks ps → PartOk P s Q → R (idT x) Q → R (.mk 49 ⟨#[]⟩ ⟨#[]⟩ 0 (idT x :: ks)) (TabT base ([listQ 1 ps] ++ [kidQ 2 P s Q]) [0, 4, 8] [12, 4, 8] 12 16)
  prop : ∀ x e (he : typeB e.kind) P1 s1 Q1 P2 s2 Q2, TyT (.mk 50 ⟨#[]⟩ ⟨#[]⟩ 0 [idT x, e]) → PartOk P1 s1 Q1 → R (idT x) Q1 → PartOk P2 s2 Q2 → R e Q2 → R (.mk 50 ⟨#[]⟩ ⟨#[]⟩ 0 [idT x, e]) (TabT base ([kidQ 1 P1 s1 Q1] ++ [numQ 2 1 (choiceOf e.kind).toNat, kidQ 3 P2 s2 Q2]) [0, 4, 12, 8] [12, 4, 16, 8] 13 17)
  func : ∀ e (he : typeB e.kind) ks (hk : ∀ x ∈ ks, x.kind = 52) ps P s Q, TyT (.mk 51 ⟨#[]⟩ ⟨#[]⟩ 0 (e :: ks)) → ListR R ks ps → PartOk P s Q → R e Q → R (.mk 51 ⟨#[]⟩ ⟨#[]⟩ 0 (e :: ks)) (TabT base ([listQ 1 ps] ++ [numQ 2 1 (choiceOf e.kind).toNat, kidQ 3 P s Q]) [0, 4, 12, 8] [12, 4, 16, 8] 13 17)
  param : ∀ (n : Nat) (hn : n ≤ 2) e (he : typeB e.kind) P s Q, TyT (.mk 52 ⟨#[]⟩ ⟨#[]⟩ n [noT, e]) → PartOk P s Q → R e Q → R (.mk 52 ⟨#[]⟩ ⟨#[]⟩ n [noT, e]) (TabT base ([] ++ [numQ 2 1 (choiceOf e.kind).toNat, kidQ 3 P s Q] ++ [numQ 4 1 n]) [0, 0, 8, 4, 9] [8, 0, 12, 4, 13] 10 14)
  paramWith : ∀ (n : Nat) (hn : n ≤ 2) x e (he : typeB e.kind) P1 s1 Q1 P2 s2 Q2, TyT (.mk 52 ⟨#[]⟩ ⟨#[]⟩ n [idT x, e]) → PartOk P1 s1 Q1 → R (idT x) Q1 → PartOk P2 s2 Q2 → R e Q2 → R (.mk 52 ⟨#[]⟩ ⟨#[]⟩ n [idT x, e]) (TabT base ([kidQ 1 P1 s1 Q1] ++ [numQ 2 1 (choiceOf e.kind).toNat, kidQ 3 P2 s2 Q2] ++ [numQ 4 1 n]) [0, 4, 12, 8, 13] [12, 4, 16, 8, 17] 14 18)
  cons : ∀ x ks (hk : ∀ x ∈ ks, x.kind = 33) ps P s Q, TyT (.mk 53 ⟨#[]⟩ ⟨#[]⟩ 0 (idT x :: ks)) → ListR R ks ps → PartOk P s Q → R (idT x) Q → R (.mk 53 ⟨#[]⟩ ⟨#[]⟩ 0 (idT x :: ks)) (TabT base [kidQ 1 P s Q, listQ 2 ps] [0, 4, 8] [12, 4, 8] 12 16)
  expr : ∀ e (he : typeB e.kind) ks (hk : ∀ x ∈ ks, x.kind = 53) ps P s Q, TyT (.mk 44 ⟨#[]⟩ ⟨#[]⟩ 0 (e :: ks)) → ListR R ks ps → PartOk P s Q → R e Q → R (.mk 44 ⟨#[]⟩ ⟨#[]⟩ 0 (e :: ks)) (TabT base ([numQ 1 1 (choiceOf e.kind).toNat, kidQ 2 P s Q] ++ [listQ 3 ps]) [0, 12, 4, 8] [12, 16, 4, 8] 13 17)

theorem count_pos (t : Tr) : 1 ≤ t.count := by
  cases t with
  | mk k t m n ks => rw [Tr.count_mk]; omega

theorem count_mem {x : Tr} : ∀ {l : List Tr}, x ∈ l → x.count ≤ (l.map Tr.count).sum
  | y :: l, h => by
    rw [List.map_cons, List.sum_cons]
    rcases List.mem_cons.1 h with rfl | h
    · omega
    · have := count_mem h
      omega

theorem count_len : ∀ (l : List Tr), l.length ≤ (l.map Tr.count).sum
  | [] => Nat.le_refl _
  | y :: l => by
    rw [List.map_cons, List.sum_cons, List.length_cons]
    have := count_len l
    have := count_pos y
    omega

/-- A tree's table, of some size, read in some way. -/
def Made (base : Bool) (R : Reads) (tr : Tr) : Prop := ∃ P sz Q, Wr base tr P sz Q ∧ sz + 4 ≤ 1200 * tr.count ∧ R tr Q

theorem list_made {base : Bool} {R : Reads} : ∀ (l : List Tr), (∀ x ∈ l, Made base R x) → ∃ ps : List PartQ, ps.length = l.length ∧ szParts ps + 4 * ps.length ≤ 1200 * (l.map Tr.count).sum ∧ ∀ i (h : i < l.length) (h2 : i < ps.length), Wr base l[i] ps[i].P ps[i].sz ps[i].Q ∧ R l[i] ps[i].Q
  | [], _ => ⟨[], rfl, Nat.le_refl _, fun i h => by simp at h⟩
  | x :: l, h => by
    obtain ⟨P, sz, Q, h1, h2, h3⟩ := h x (List.mem_cons_self ..)
    obtain ⟨ps, g1, g2, g3⟩ := list_made l fun y hy => h y (List.mem_cons_of_mem _ hy)
    refine ⟨⟨P, sz, Q⟩ :: ps, by rw [List.length_cons, List.length_cons, g1], ?_, fun i hi hi2 => ?_⟩
    · rw [List.map_cons, List.sum_cons, List.length_cons]
      show sz + szParts ps + 4 * (ps.length + 1) ≤ _
      omega
    · cases i with
      | zero => exact ⟨h1, h3⟩
      | succ i => exact g3 i (by simpa using hi) (by simpa using hi2)

theorem list_fin {base : Bool} {R : Reads} {l : List Tr} (h : ∀ x ∈ l, Made base R x) (hl : l.length ≤ 400) : ∃ ps : List PartQ, ListWr base l ps ∧ ListR R l ps ∧ szParts ps + 4 * ps.length ≤ 1200 * (l.map Tr.count).sum := by
  obtain ⟨ps, g1, g2, g3⟩ := list_made l h
  have hw : ListWr base l ps := ⟨g1, by omega, fun i h h2 => (g3 i h h2).1⟩
  exact ⟨ps, hw, ⟨g1, hl, hw.ok, fun i h h2 => (g3 i h h2).2⟩, g2⟩

theorem WrT.made {base : Bool} {R : Reads} {tr : Tr} {fs : List SlotQ} {q1 q2 : List Nat} {z1 z2 : Nat} (h : WrT base tr fs q1 q2 z1 z2) (hr : R tr (TabT base fs q1 q2 z1 z2)) (a1 : q1.length ≤ 5 ∧ q2.length ≤ 5 ∧ z1 ≤ 18 ∧ z2 ≤ 18) (hs : szSum fs + 200 ≤ 1200 * tr.count) : Made base R tr := by
  refine ⟨_, _, _, h, ?_, hr⟩
  have h1 := szSum_base base fs
  have h2 : (if base then q2 else q1).length ≤ 5 := by split <;> omega
  have h3 : (if base then z2 else z1) ≤ 18 := by split <;> omega
  omega

theorem two_kinds {a b : Tr} {k : Int} {t m : ByteArray} {n : Int} : (Tr.mk k t m n [a, b]).count = 1 + (a.count + (b.count + 0)) := by rw [Tr.count_mk]; rfl
theorem one_kind {a : Tr} {k : Int} {t m : ByteArray} {n : Int} : (Tr.mk k t m n [a]).count = 1 + (a.count + 0) := by rw [Tr.count_mk]; rfl
theorem many_kinds {a : Tr} {l : List Tr} {k : Int} {t m : ByteArray} {n : Int} : (Tr.mk k t m n (a :: l)).count = 1 + (a.count + (l.map Tr.count).sum) := by rw [Tr.count_mk]; rfl

theorem sum_kid {i : Nat} {P : List UInt8 → List UInt8 × Nat} {s : Nat} {Q : List UInt8 → Nat → Prop} {fs : List SlotQ} : szSum (kidQ i P s Q :: fs) = s + szSum fs := rfl
theorem sum_num {i wd u : Nat} {fs : List SlotQ} : szSum (numQ i wd u :: fs) = 0 + szSum fs := rfl
theorem sum_list {i : Nat} {ps : List PartQ} {fs : List SlotQ} : szSum (listQ i ps :: fs) = (8 + 4 * ps.length + szParts ps) + szSum fs := rfl
theorem sum_nil : szSum [] = 0 := rfl

theorem ty_made {base : Bool} {R : Reads} (hR : TyR base R) {tr : Tr} (h : TyT tr) : tr.count ≤ 400 → Made base R tr := by
  induction h with
  | id x hx h0 hv =>
    intro _
    refine ⟨_, 1000, _, wr_text base 33 (.inl rfl) x hx, ?_, hR.id x hx (.id x hx h0 hv)⟩
    have := count_pos (.mk 33 x ⟨#[]⟩ 0 [])
    show 1000 + 4 ≤ 1200 * (Tr.mk 33 x ⟨#[]⟩ 0 []).count
    omega
  | name k hk x h ih =>
    intro hc
    rw [one_kind] at hc
    obtain ⟨P, s, Q, w, b, r⟩ := ih (by omega)
    refine (wr_name k hk w).made (hR.name k hk x P s Q (.name k hk x h) w.part r) (by decide) ?_
    rw [one_kind, sum_kid, sum_nil]
    omega
  | array e he h ih =>
    intro hc
    rw [one_kind] at hc
    obtain ⟨P, s, Q, w, b, r⟩ := ih (by omega)
    refine (wr_array w he.ne).made (hR.array e he P s Q (.array e he h) w.part r) (by decide) ?_
    rw [one_kind, sum_num, sum_kid, sum_nil]
    omega
  | dict e1 e2 he1 h1 he2 h2 ih1 ih2 =>
    intro hc
    rw [two_kinds] at hc
    obtain ⟨P1, s1, Q1, w1, b1, r1⟩ := ih1 (by omega)
    obtain ⟨P2, s2, Q2, w2, b2, r2⟩ := ih2 (by omega)
    refine (wr_dict w1 he1.ne w2 he2.ne).made (hR.dict e1 e2 he1 he2 P1 s1 Q1 P2 s2 Q2 (.dict e1 e2 he1 h1 he2 h2) w1.part r1 w2.part r2) (by decide) ?_
    simp only [List.cons_append, List.nil_append]
    rw [two_kinds, sum_num, sum_kid, sum_num, sum_kid, sum_nil]
    omega
  | record ks hk h ih =>
    intro hc
    rw [many_kinds] at hc
    have hlen := count_len ks
    obtain ⟨ps, w, r, b⟩ := list_fin (base := base) (R := R) (l := ks) (fun x hx => ih x hx (by have := count_mem hx; omega)) (by omega)
    refine (wr_rec w rfl).made (hR.record ks hk ps (.record ks hk h) r) (by decide) ?_
    have := count_pos noT
    rw [many_kinds, sum_list, sum_nil]
    omega
  | recordWith x hx ks hk h ihx ih =>
    intro hc
    rw [many_kinds] at hc
    have hlen := count_len ks
    obtain ⟨P, s, Q, w1, b1, r1⟩ := ihx (by omega)
    obtain ⟨ps, w, r, b⟩ := list_fin (base := base) (R := R) (l := ks) (fun x hx => ih x hx (by have := count_mem hx; omega)) (by omega)
    refine (wr_recWith w w1 (by decide : (33 : Int) ≠ 0)).made (hR.recordWith x ks hk ps P s Q (.recordWith x hx ks hk h) r w1.part r1) (by decide) ?_
    simp only [List.cons_append, List.nil_append]
    rw [many_kinds, sum_list, sum_kid, sum_nil]
    omega
  | prop x hx e he h ihx ih =>
    intro hc
    rw [two_kinds] at hc
    obtain ⟨P1, s1, Q1, w1, b1, r1⟩ := ihx (by omega)
    obtain ⟨P2, s2, Q2, w2, b2, r2⟩ := ih (by omega)
    refine (wr_prop w1 w2 he.ne).made (hR.prop x e he P1 s1 Q1 P2 s2 Q2 (.prop x hx e he h) w1.part r1 w2.part r2) (by decide) ?_
    simp only [List.cons_append, List.nil_append]
    rw [two_kinds, sum_kid, sum_num, sum_kid, sum_nil]
    omega
  | func e he h1 ks hk h ih1 ih =>
    intro hc
    rw [many_kinds] at hc
    have hlen := count_len ks
    obtain ⟨P, s, Q, w1, b1, r1⟩ := ih1 (by omega)
    obtain ⟨ps, w, r, b⟩ := list_fin (base := base) (R := R) (l := ks) (fun x hx => ih x hx (by have := count_mem hx; omega)) (by omega)
    refine (wr_func w w1 he.ne).made (hR.func e he ks hk ps P s Q (.func e he h1 ks hk h) r w1.part r1) (by decide) ?_
    simp only [List.cons_append, List.nil_append]
    rw [many_kinds, sum_list, sum_num, sum_kid, sum_nil]
    omega
  | param n hn e he h ih =>
    intro hc
    rw [two_kinds] at hc
    obtain ⟨P, s, Q, w, b, r⟩ := ih (by omega)
    refine (wr_param n (by omega) rfl w he.ne).made (hR.param n hn e he P s Q (.param n hn e he h) w.part r) (by decide) ?_
    have := count_pos noT
    simp only [List.cons_append, List.nil_append]
    rw [two_kinds, sum_num, sum_kid, sum_num, sum_nil]
    omega
  | paramWith n hn x hx e he h ihx ih =>
    intro hc
    rw [two_kinds] at hc
    obtain ⟨P1, s1, Q1, w1, b1, r1⟩ := ihx (by omega)
    obtain ⟨P2, s2, Q2, w2, b2, r2⟩ := ih (by omega)
    refine (wr_paramWith n (by omega) w1 (by decide : (33 : Int) ≠ 0) w2 he.ne).made (hR.paramWith n hn x e he P1 s1 Q1 P2 s2 Q2 (.paramWith n hn x hx e he h) w1.part r1 w2.part r2) (by decide) ?_
    simp only [List.cons_append, List.nil_append]
    rw [two_kinds, sum_kid, sum_num, sum_kid, sum_num, sum_nil]
    omega
  | cons x hx ks hk h ihx ih =>
    intro hc
    rw [many_kinds] at hc
    have hlen := count_len ks
    obtain ⟨P, s, Q, w1, b1, r1⟩ := ihx (by omega)
    obtain ⟨ps, w, r, b⟩ := list_fin (base := base) (R := R) (l := ks) (fun x hx => ih x hx (by have := count_mem hx; omega)) (by omega)
    refine (wr_cons w1 w).made (hR.cons x ks hk ps P s Q (.cons x hx ks hk h) r w1.part r1) (by decide) ?_
    rw [many_kinds, sum_kid, sum_list, sum_nil]
    omega
  | expr e he h1 ks hk h ih1 ih =>
    intro hc
    rw [many_kinds] at hc
    have hlen := count_len ks
    obtain ⟨P, s, Q, w1, b1, r1⟩ := ih1 (by omega)
    obtain ⟨ps, w, r, b⟩ := list_fin (base := base) (R := R) (l := ks) (fun x hx => ih x hx (by have := count_mem hx; omega)) (by omega)
    refine (wr_expr w1 he.ne w).made (hR.expr e he ks hk ps P s Q (.expr e he h1 ks hk h) r w1.part r1) (by decide) ?_
    simp only [List.cons_append, List.nil_append]
    rw [many_kinds, sum_num, sum_kid, sum_list, sum_nil]
    omega

end Go.Proofs.YtgceklahjdbipaaGreatDoor
