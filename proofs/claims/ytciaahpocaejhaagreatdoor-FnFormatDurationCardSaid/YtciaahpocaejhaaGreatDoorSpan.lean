/- spec's lexer: a duration's literal. -/
import Derived.Test.YtciaahpocaejhaaGreatDoorNumber
namespace Go.Proofs.YtciaahpocaejhaaGreatDoor
open Go Go.RowKit
set_option linter.unusedVariables false
set_option linter.unusedSimpArgs false

/-- The units that a tree may hold. -/
def plainU : List (List UInt8) := [[121], [109, 111], [119], [100], [104], [109], [115], [109, 115], [117, 115], [110, 115]]

/-- One number with its unit. -/
def PartOk1 (x : List UInt8 × List UInt8) : Prop := x.1 ≠ [] ∧ (∀ c ∈ x.1, 48 ≤ c.toNat ∧ c.toNat ≤ 57) ∧ x.2 ∈ plainU

def spanB (l : List (List UInt8 × List UInt8)) : List UInt8 := l.flatMap fun x => x.1 ++ x.2
theorem spanB_append (a b) : spanB (a ++ b) = spanB a ++ spanB b := by simp [spanB]
theorem spanB_cons (x) (l) : spanB (x :: l) = x.1 ++ x.2 ++ spanB l := by simp [spanB]

/-- Nothing, or a digit first. -/
def DigitFirst (l : List UInt8) : Prop := ∀ r t, l = r :: t → 48 ≤ r.toNat ∧ r.toNat ≤ 57

theorem spanB_first (l : List (List UInt8 × List UInt8)) (h : ∀ x ∈ l, PartOk1 x) : DigitFirst (spanB l) := by
  intro r t e
  cases l with
  | nil => simp [spanB] at e
  | cons x l =>
    obtain ⟨h1, h2, _⟩ := h x (by simp)
    rw [spanB_cons] at e
    obtain ⟨c, cs, hc⟩ := List.exists_cons_of_ne_nil h1
    rw [hc] at e
    simp at e
    have := h2 c (by rw [hc]; simp)
    rwa [e.1] at this

theorem unit_begin (s : ByteArray) (p : Nat) (u rest : List UInt8) (hu : u ∈ plainU) (hr : DigitFirst rest) (hp : p ≤ s.size) (hd : s.data.toList.drop p = u ++ rest) :
    ∃ i, i < 11 ∧ unitL.getD i [] = u ∧ BeginsAt s p (unitL.getD i []) ∧ ∀ j, j < i → ¬ BeginsAt s p (unitL.getD j []) := by
  have hlen : p + u.length ≤ s.size := by
    have := congrArg List.length hd
    simp at this
    omega
  have key : ∀ i, i < 11 → unitL.getD i [] = u → (∀ c ∈ unitL.take i, (u ++ rest).take c.length ≠ c) → ∃ i, i < 11 ∧ unitL.getD i [] = u ∧ BeginsAt s p (unitL.getD i []) ∧ ∀ j, j < i → ¬ BeginsAt s p (unitL.getD j []) := by
    intro i hi he hn
    refine ⟨i, hi, he, ⟨by rw [he]; exact hlen, by rw [he, hd]; simp⟩, fun j hj hb => ?_⟩
    have hjl : j < unitL.length := Nat.lt_trans hj hi
    have hm : unitL.getD j [] ∈ unitL.take i := by
      rw [List.getD, List.getElem?_eq_getElem hjl]
      exact List.mem_take_iff_getElem.2 ⟨j, by have : unitL.length = 11 := rfl; omega, rfl⟩
    have := hb.2
    rw [hd] at this
    exact hn _ hm this
  have hne : ∀ (x : UInt8) t, rest = x :: t → x ≠ 111 ∧ x ≠ 115 := fun x t e => by
    have := hr x t e
    constructor <;> (intro e2; subst e2; revert this; decide)
  cases rest with
  | nil =>
    simp only [plainU, List.mem_cons, List.mem_nil_iff, or_false] at hu
    rcases hu with rfl | rfl | rfl | rfl | rfl | rfl | rfl | rfl | rfl | rfl
    · exact key 5 (by omega) rfl (by decide)
    · exact key 0 (by omega) rfl (by decide)
    · exact key 6 (by omega) rfl (by decide)
    · exact key 7 (by omega) rfl (by decide)
    · exact key 8 (by omega) rfl (by decide)
    · exact key 9 (by omega) rfl (by decide)
    · exact key 10 (by omega) rfl (by decide)
    · exact key 1 (by omega) rfl (by decide)
    · exact key 2 (by omega) rfl (by decide)
    · exact key 4 (by omega) rfl (by decide)
  | cons x t =>
    obtain ⟨n1, n2⟩ := hne x t rfl
    simp only [plainU, List.mem_cons, List.mem_nil_iff, or_false] at hu
    rcases hu with rfl | rfl | rfl | rfl | rfl | rfl | rfl | rfl | rfl | rfl
    · exact key 5 (by omega) rfl (by simp [unitL])
    · exact key 0 (by omega) rfl (by simp [unitL])
    · exact key 6 (by omega) rfl (by simp [unitL])
    · exact key 7 (by omega) rfl (by simp [unitL])
    · exact key 8 (by omega) rfl (by simp [unitL])
    · exact key 9 (by omega) rfl (by simp [unitL, n1, n2])
    · exact key 10 (by omega) rfl (by simp [unitL])
    · exact key 1 (by omega) rfl (by simp [unitL])
    · exact key 2 (by omega) rfl (by simp [unitL])
    · exact key 4 (by omega) rfl (by simp [unitL])

/-- What stands at a part's number, and behind it. -/
theorem part_at (s : ByteArray) (pre post : List (List UInt8 × List UInt8)) (x : List UInt8 × List UInt8) (hs : s.data.toList = spanB (pre ++ x :: post)) (hok : ∀ y ∈ pre ++ x :: post, PartOk1 y) :
    DigitsAt s (spanB pre).length x.1.length ∧ (spanB pre).length + x.1.length < s.size ∧ (∀ h : (spanB pre).length + x.1.length < s.size, s[(spanB pre).length + x.1.length] ≠ 45 ∧ s[(spanB pre).length + x.1.length] ≠ 46) ∧
      (∃ i, i < 11 ∧ unitL.getD i [] = x.2 ∧ BeginsAt s ((spanB pre).length + x.1.length) (unitL.getD i []) ∧ ∀ j, j < i → ¬ BeginsAt s ((spanB pre).length + x.1.length) (unitL.getD j [])) ∧
      (spanB pre).length + x.1.length + x.2.length = (spanB (pre ++ [x])).length ∧ 1 ≤ x.1.length ∧ x.2 ≠ [] ∧ (spanB (pre ++ [x])).length ≤ s.size := by
  obtain ⟨h1, h2, h3⟩ := hok x (by simp)
  have hs2 : s.data.toList = spanB pre ++ (x.1 ++ (x.2 ++ spanB post)) := by rw [hs, spanB_append, spanB_cons]; simp
  have hu : ∃ c t, x.2 = c :: t ∧ 97 ≤ c.toNat := by
    simp only [plainU, List.mem_cons, List.mem_nil_iff, or_false] at h3
    rcases h3 with e | e | e | e | e | e | e | e | e | e <;> exact ⟨_, _, e, by decide⟩
  obtain ⟨c, t, hc, hc97⟩ := hu
  have hsz : s.size = (spanB pre).length + x.1.length + x.2.length + (spanB post).length := by
    have := congrArg List.length hs2
    simp at this
    omega
  have hx2 : 1 ≤ x.2.length := by rw [hc]; simp
  have hdig : ∀ j (h : j < s.size), (spanB pre).length ≤ j → j < (spanB pre).length + x.1.length → s[j] ∈ x.1 := by
    intro j h ha hb
    have : s[j] = s.data.toList[j]'(by simpa using h) := rfl
    rw [this]
    have e : s.data.toList[j]'(by simpa using h) = x.1[j - (spanB pre).length]'(by omega) := by
      simp only [hs2]
      rw [List.getElem_append_right ha, List.getElem_append_left]
    rw [e]
    exact List.getElem_mem _
  have hnext : ∀ h : (spanB pre).length + x.1.length < s.size, s[(spanB pre).length + x.1.length] = c := by
    intro h
    rw [at_list s _ h, hs2, List.getD, List.getElem?_append_right (by omega), List.getElem?_append_right (by omega), hc]
    simp
  refine ⟨⟨by omega, fun j h ha hb => h2 _ (hdig j h ha hb), fun h => ?_⟩, by omega, fun h => ?_, ?_, ?_, ?_, by rw [hc]; simp, ?_⟩
  · rw [hnext h]; omega
  · rw [hnext h]
    constructor <;> (intro e; subst e; revert hc97; decide)
  · refine unit_begin s _ x.2 (spanB post) h3 (spanB_first post fun y hy => hok y (by simp [hy])) (by omega) ?_
    rw [hs2, ← List.append_assoc, ← List.length_append, List.drop_left]
  · rw [spanB_append, show spanB [x] = x.1 ++ x.2 by simp [spanB], List.length_append, List.length_append]
    omega
  · exact List.length_pos_iff.2 h1
  · rw [spanB_append, show spanB [x] = x.1 ++ x.2 by simp [spanB], List.length_append, List.length_append]
    omega

theorem unitC (b q i : Nat) (s t : ByteArray) (k d : Int) (u : List UInt8) (hsz : s.size ≤ 10000) (hp : q ≤ s.size) (hi : i < 11) (he : unitL.getD i [] = u) (hne : u ≠ []) (hu : BeginsAt s q (unitL.getD i [])) (hn : ∀ j, j < i → ¬ BeginsAt s q (unitL.getD j [])) :
    ∃ x : ByteArray, x.toList.isEmpty = false ∧ x.size = u.length ∧ ∀ w, RdAt b s q k t d w → Calls Tryz.prog 112 #[.pointer (some ⟨b, 0, none⟩)] w fun e w' => e = .returned (.string x) ∧ Below w.heap.size w w' := by
  refine ⟨⟨(unitL.getD i []).toArray⟩, ?_, ?_, fun w h => unit_any b q i s t k d hsz hp hi hu hn w h⟩
  · rw [ByteArray.toList_eq, he]
    cases u with
    | nil => exact absurd rfl hne
    | cons a l => rfl
  · show (unitL.getD i []).toArray.size = _
    rw [he]
    simp

/-- Where the lexer stands. -/
def rdPos (b : Nat) (w : World) : Nat := match w.cell? ⟨b, 1, none⟩ with
  | some (.int _ i) => i.toNat
  | _ => 0
theorem RdAt.pos {b p : Nat} {s t : ByteArray} {k d : Int} {w : World} (h : RdAt b s p k t d w) : rdPos b w = p := by
  unfold rdPos
  rw [h.c1]
  simp

def NumPost (b : Nat) (s : ByteArray) (k : Int) (t : ByteArray) (d : Int) (w : World) (e : Ending) (w' : World) : Prop :=
  e = .returned (.agg #[.int .i64 8, .string s]) ∧ RdAt b s s.size k t d w' ∧ w.grownBy w' (some b)

set_option maxHeartbeats 8000000 in
set_option maxRecDepth 100000 in
theorem number_any (b : Nat) (s t : ByteArray) (k d : Int) (x : List UInt8 × List UInt8) (post : List (List UInt8 × List UInt8)) (hs : s.data.toList = spanB (x :: post)) (hok : ∀ y ∈ x :: post, PartOk1 y) (hsz : s.size ≤ 10000) (w : World) (h : RdAt b s 0 k t d w) :
    Calls Tryz.prog 90 #[.pointer (some ⟨b, 0, none⟩)] w (NumPost b s k t d w) := by
  obtain ⟨p1, p2, p3, ⟨i, pi, pe, pb, pn⟩, p5, p6, p7, p8⟩ := part_at s [] post x hs hok
  simp only [spanB, List.flatMap_nil, List.length_nil, Nat.zero_add] at p1 p2 p3 pb pn p5
  obtain ⟨n, hn⟩ : ∃ n, n = x.1.length := ⟨_, rfl⟩
  rw [← hn] at p1 p2 p3 pb pn p5 p6
  have hlt := h.lt
  have H1 := Lib.hid (h.alloc (.cells #[.int .i64 0, .string ⟨#[]⟩] 61))
  have G1 := Lib.hid (World.grownBy_alloc w (.cells #[.int .i64 0, .string ⟨#[]⟩] 61) (some b))
  have K1 : Hid ((w.alloc (.cells #[.int .i64 0, .string ⟨#[]⟩] 61)).heap[w.heap.size]? = some (.cells #[.int .i64 0, .string ⟨#[]⟩] 61 (0, 0))) := Lib.hid (heap_alloc_new w _)
  have HD := Lib.hid (digits_any b 0 n s t k d hsz p1 _ H1.out)
  have q1 := H1.out.c1
  have HS := Lib.hid hs
  have HOK := Lib.hid hok
  have P5 := Lib.hid p5
  have PB := Lib.hid pb
  have PN := Lib.hid pn
  have PE := Lib.hid pe
  have HNX := Lib.hid hn
  have e45 : s[n] ≠ 45 := (p3 p2).1
  have e46 : s[n] ≠ 46 := (p3 p2).2
  have m45 : ((s[n].toNat : Int) == 45) = false := by
    simp; intro h; apply e45; apply UInt8.toNat_inj.1; simp; omega
  have m46 : ((s[n].toNat : Int) == 46) = false := by
    simp; intro h; apply e46; apply UInt8.toNat_inj.1; simp; omega
  have hn1 : (n : Int) < s.size := by omega
  have hin : (0 : Int) ≤ n ∧ (n : Int) < s.size := by omega
  clear h hs hok p1 p3 pb pn pe p5 e45 e46 hn
  go_enter Tryz.func90, Tryz.ntmps90
  go_wp2_with fail
  ((with_reducible refine HD.out.mono ?_))
  rintro e w1 ⟨rfl, hr1, hg1⟩
  rw [Nat.zero_add] at hr1
  have c0 := hr1.c0
  have c1 := hr1.c1
  have f1 := hr1.fz 1
  have HR1 := Lib.hid hr1
  have HG1 := Lib.hid (Lib.grownBy_trans G1.out hg1)
  have hk1 := (hg1.block _ (Array.getElem?_eq_some_iff.1 K1.out).1 (by intro e; cases e; omega)).trans K1.out
  have HK1 := Lib.hid hk1
  clear hr1 hg1 hk1 q1
  obtain ⟨u, hu0, hus, hU⟩ := unitC b n i s t k d x.2 hsz (by omega) pi PE.out p7 PB.out PN.out
  have HU := Lib.hid hU
  have HU0 := Lib.hid hu0
  clear hU hu0 hus
  have HRD : Hid (∀ m, RdAt b s n k t d (w1.drewN m)) := Lib.hid fun m => HR1.out
  have HKD : Hid (∀ m, (w1.drewN m).heap[w.heap.size]? = some (.cells #[.int .i64 0, .string ⟨#[]⟩] 61 (0, 0))) := Lib.hid fun m => HK1.out
  rcases Bool.eq_false_or_eq_true ((n : Int) == 4) with m4 | m4
  all_goals
    go_wp2
    simp only [List.append_eq, List.cons_append, List.nil_append]
    go_big_quiet (fail)
    go_wp2
    go_big_quiet (fail)
    go_wp2_with fail
    ((with_reducible refine (HU.out _ (HRD.out _)).mono ?_))
    rintro e w2 ⟨rfl, hb2⟩
    have HR2 := Lib.hid ((HRD.out _).below hb2)
    have HG2 := Lib.hid (Lib.grownBy_below (grownBy_drewN HG1.out _) hb2)
    have hk2 := (hb2.block _ (Array.getElem?_eq_some_iff.1 (HKD.out _)).1).trans (HKD.out _)
    have HK2 := Lib.hid hk2
    have hu1 := HU0.out
    clear hb2 hk2
    go_wp2
    go_loopw [5] (fun _ wr => ∃ (pre : List (List UInt8 × List UInt8)) (y : List UInt8 × List UInt8) (rest : List (List UInt8 × List UInt8)), Hid (pre ++ y :: rest = x :: post) ∧ Hid (RdAt b s ((spanB pre).length + y.1.length) k t d wr) ∧ Hid (w.grownBy wr (some b)) ∧ Hid (wr.heap[w.heap.size]? = some (.cells #[.int .i64 0, .string ⟨#[]⟩] 61 (0, 0)))) (fun _ wr => s.size - rdPos b wr)
    case atStart => exact ⟨[], x, post, Lib.hid rfl, Lib.hid (by have := HNX.out; simpa [spanB, ← this] using HR2.out), HG2, HK2⟩
    case round =>
      obtain ⟨pre, y, rest, hpp, hr, hg, hk⟩ := hrel
      obtain ⟨r1, r2, _, ⟨i2, ri, re, rb, rn⟩, r5, r6, r7, r8⟩ := part_at s pre rest y (by rw [HS.out, hpp.out]) (by rw [hpp.out]; exact HOK.out)
      obtain ⟨q, hq⟩ : ∃ q, q = (spanB pre).length + y.1.length := ⟨_, rfl⟩
      rw [← hq] at hr r2 rb rn r5
      obtain ⟨v, hv0, hvs, hV⟩ := unitC b q i2 s t k d y.2 hsz (by omega) ri re r7 rb rn
      have HV := Lib.hid hV
      have HVS := Lib.hid hvs
      have hvl : v.size ≤ 3 := by
        rw [hvs]
        have h3 := (HOK.out y (by rw [← hpp.out]; simp)).2.2
        simp only [plainU, List.mem_cons, List.mem_nil_iff, or_false] at h3
        rcases h3 with e | e | e | e | e | e | e | e | e | e <;> rw [e] <;> decide
      obtain ⟨q2, hq2⟩ : ∃ q2, q2 = (spanB (pre ++ [y])).length := ⟨_, rfl⟩
      rw [← hq2] at r5 r8
      have HQ := Lib.hid hq
      have HQ2 := Lib.hid hq2
      have HR5 := Lib.hid r5
      clear hV r1 rb rn hq hq2 hvs r5
      go_wp2_with fail
      ((with_reducible refine (HV.out _ hr.out).mono ?_))
      rintro e w3 ⟨rfl, hb3⟩
      have HR3 := Lib.hid (hr.out.below hb3)
      have HR3d : Hid (RdAt b s q k t d w3.drew) := Lib.hid HR3.out.drew
      have HG3 := Lib.hid (Lib.grownBy_below hg.out hb3)
      have hk3 := (hb3.block _ (Array.getElem?_eq_some_iff.1 hk.out).1).trans hk.out
      have HK3 := Lib.hid hk3
      have c3 := HR3.out.c1
      have f3 := HR3.out.fz 1
      have hw3 : IntKind.i64.wrap ((q : Int) + v.size) = (q : Int) + v.size := by rw [IntKind.wrap_i64]; omega
      clear hb3 hk3
      go_wp2_with fail
      go_region_with ((go_at_call 112; ((with_reducible refine (HV.out _ (by first | exact HR3.out | exact HR3d.out)).mono ?_)); rintro e w4 ⟨rfl, hb4⟩; have c4 := (HR3d.out.below hb4).c1; have f4 := (HR3d.out.below hb4).fz 1))
      all_goals
        have hR4 : RdAt b s q2 k t d (w4.setCell ⟨b, 1, none⟩ (.int .i64 ((q : Int) + v.size))) := by
          have h1 := (HR3d.out.below hb4).put1 q2
          have e : ((q : Int) + v.size) = ((q2 : Nat) : Int) := by
            have h1 := HVS.out
            have h2 := HR5.out
            omega
          rw [e]
          exact h1
        have hG4 : w.grownBy (w4.setCell ⟨b, 1, none⟩ (.int .i64 ((q : Int) + v.size))) (some b) := Lib.grownBy_setB (Lib.grownBy_below (w := w3.drew) ⟨HG3.out.os, HG3.out.tape, HG3.out.output, HG3.out.size, HG3.out.block⟩ hb4) 1 _
        have hK4 : (w4.setCell ⟨b, 1, none⟩ (.int .i64 ((q : Int) + v.size))).heap[w.heap.size]? = some (.cells #[.int .i64 0, .string ⟨#[]⟩] 61 (0, 0)) := row_kept ((hb4.block _ (Array.getElem?_eq_some_iff.1 HK3.out).1).trans HK3.out) b 1 _ (by omega)
        have HR4 := Lib.hid hR4
        have HG4 := Lib.hid hG4
        have HK4 := Lib.hid hK4
        clear hR4 hG4 hK4 c4 f4 hb4 c3 f3 hw3
        generalize (w4.setCell ⟨b, 1, none⟩ (.int .i64 ((q : Int) + v.size))) = W4 at HR4 HG4 HK4 ⊢
        have c1 := HR4.out.c1
        cases rest with
        | nil =>
          have hq2s : q2 = s.size := by
            have e1 := HS.out
            rw [← hpp.out] at e1
            have e2 := congrArg List.length e1
            simp at e2
            have := HQ2.out
            omega
          have HQS := Lib.hid hq2s
          have hD0 : DigitsAt s q2 0 := ⟨by omega, fun j h a b => by omega, fun h => by omega⟩
          have HD0 := Lib.hid (digits_any b q2 0 s t k d hsz hD0 _ HR4.out)
          clear hD0 hq2s
          go_wp2_with fail
          ((with_reducible refine HD0.out.mono ?_))
          rintro e w5 ⟨rfl, h5, g5⟩
          rw [Nat.add_zero, HQS.out] at h5
          have k5 := (g5.block _ (Array.getElem?_eq_some_iff.1 HK4.out).1 (by intro e; cases e; omega)).trans HK4.out
          have H5 := Lib.hid h5
          have G5 := Lib.hid (Lib.grownBy_trans HG4.out g5)
          have c0 := h5.c0
          have c1 := h5.c1
          have z0 : w5.cell? ⟨w.heap.size, 0, none⟩ = some (.int .i64 0) := by rw [Lib.cell_of_heap k5]; rfl
          have z1 : w5.cell? ⟨w.heap.size, 1, none⟩ = some (.string ⟨#[]⟩) := by rw [Lib.cell_of_heap k5]; rfl
          have y0 := Lib.frozen_of_heap k5 0
          have y1 := Lib.frozen_of_heap k5 1
          have K5 := Lib.hid k5
          clear h5 g5 k5
          have hsl0 := fun W => run_slice_string (P := Tryz.prog) W 9 s .i64 .i64 (0 : Int) (s.size : Int) Tryz.underlying9 (by omega) (by omega) (by omega)
          have hsl : ∀ W, (Instr.slice 9 (.string s) (some (.int .i64 0)) (some (.int .i64 (s.size : Int))) none).run Tryz.prog W = .ok (.string s) W := fun W => by
            have h := hsl0 W
            simpa using h
          clear hsl0
          go_wp2
          go_region
          all_goals
            have H5d : RdAt b s s.size k t d w5.drew := H5.out.drew
            have G5d : w.grownBy w5.drew (some b) := ⟨G5.out.os, G5.out.tape, G5.out.output, G5.out.size, G5.out.block⟩
            have H5d := Lib.hid H5d
            have G5d := Lib.hid G5d
            go_wp2
            refine bodyPost_ret (v := .agg #[.int .i64 8, .string s]) (by simp [results, Tryz.results90, go_sem, z0, z1]) rfl ⟨rfl, ?_, ?_⟩
            · exact row_kept (row_kept H5d.out _ _ _ (by omega)) _ _ _ (by omega)
            · exact grownBy_new (grownBy_new G5d.out (Nat.le_refl _) _ _) (Nat.le_refl _) _ _
        | cons z rest' =>
          have hpp2 : (pre ++ [y]) ++ z :: rest' = x :: post := by rw [← hpp.out]; simp
          obtain ⟨t1, t2, _, ⟨i3, ti, te, tb, tn⟩, t5, t6, t7, t8⟩ := part_at s (pre ++ [y]) rest' z (by rw [HS.out, hpp2]) (by rw [hpp2]; exact HOK.out)
          rw [← HQ2.out] at t1 t2 tb tn
          have HPP2 := Lib.hid hpp2
          obtain ⟨m, hm⟩ : ∃ m, m = z.1.length := ⟨_, rfl⟩
          rw [← hm] at t1 t2 tb tn t6
          have HM := Lib.hid hm
          have HDG := Lib.hid (digits_any b q2 m s t k d hsz t1 _ HR4.out)
          have hm0 : ((m : Int) == 0) = false := by simp; omega
          obtain ⟨q3, hq3⟩ : ∃ q3, q3 = q2 + m := ⟨_, rfl⟩
          rw [← hq3] at t2 tb tn
          obtain ⟨v2, hv20, _, hV2⟩ := unitC b q3 i3 s t k d z.2 hsz (by omega) ti te t7 tb tn
          have HV2 := Lib.hid hV2
          have HQ3 := Lib.hid hq3
          clear hpp2 hm t1 tb tn hV2 hq3 te t5 t8
          go_wp2_with fail
          ((with_reducible refine HDG.out.mono ?_))
          rintro e w5 ⟨rfl, h5, g5⟩
          rw [← HQ3.out] at h5
          have k5 := (g5.block _ (Array.getElem?_eq_some_iff.1 HK4.out).1 (by intro e; cases e; omega)).trans HK4.out
          have H5 := Lib.hid h5
          have G5 := Lib.hid (Lib.grownBy_trans HG4.out g5)
          have K5 := Lib.hid k5
          clear h5 g5 k5 c1
          go_wp2_with fail
          ((with_reducible refine (HV2.out _ H5.out).mono ?_))
          rintro e w6 ⟨rfl, hb6⟩
          have H6 := Lib.hid (H5.out.below hb6)
          have G6 := Lib.hid (Lib.grownBy_below G5.out hb6)
          have K6 := Lib.hid ((hb6.block _ (Array.getElem?_eq_some_iff.1 K5.out).1).trans K5.out)
          have HHR := Lib.hid hr.out
          clear hb6
          go_wp2
          go_roundw
          case rel => exact ⟨pre ++ [y], z, rest', HPP2, Lib.hid (by rw [← HQ2.out, ← HM.out, ← HQ3.out]; exact H6.out), G6, K6⟩
          case measure =>
            rw [H6.out.pos, HHR.out.pos]
            have h1 := HQ3.out
            have h2 := HR5.out
            omega

end Go.Proofs.YtciaahpocaejhaaGreatDoor
