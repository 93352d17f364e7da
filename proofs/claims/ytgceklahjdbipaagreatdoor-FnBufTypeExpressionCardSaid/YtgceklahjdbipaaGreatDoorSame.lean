/- spec.Same: a tree is the same as itself, wherever it lies. spec.Buffered and spec.PlainLiterals over trees of types and plain literals. -/
import Derived.Test.YtgceklahjdbipaaGreatDoorClass
import Derived.Test.YtgceklahjdbipaaGreatDoorFields
import Derived.Test.YtgceklahjdbipaaGreatDoorFits
namespace Go.Proofs.YtgceklahjdbipaaGreatDoor
open Go Go.RowKit
set_option linter.unusedVariables false
set_option linter.unusedSimpArgs false

theorem NodeIn.drew {w : World} {B : Nat → Prop} {t : Tr} {v : Value} (h : NodeIn w B t v) : NodeIn w.drew B t v := NodeIn.keep (w := w) (w' := w.drew) (B := B) (fun _ _ => rfl) h
theorem below_cell {w w' : World} (hb : Below w.heap.size w w') {a : Addr} {v : Value} (h : w.cell? a = some v) : w'.cell? a = some v := (hb.cell (p := a) (cell_lt h)).trans h

def SamePost (w : World) (e : Ending) (w' : World) : Prop := e = .returned (.bool true) ∧ Below w.heap.size w w'

set_option maxHeartbeats 4000000 in
set_option maxRecDepth 100000 in
theorem same_refl (t : Tr) : ∀ (v1 v2 : Value) (N : Nat) (w : World), NodeIn w (· < N) t v1 → NodeIn w (· < N) t v2 → N ≤ w.heap.size →
    Calls Tryz.prog 11 #[v1, v2] w (SamePost w) := by
  induction t using Tr.ind with
  | h k x m n ks ih =>
    intro v1 v2 N w hv1 hv2 hN
    obtain ⟨k', x', m', n', ks', a1, c1, heq, rfl⟩ := hv1.form
    cases heq
    obtain ⟨k', x', m', n', ks', a2, c2, heq, rfl⟩ := hv2.form
    cases heq
    obtain ⟨_, hl, _⟩ := hv1.len
    have HK1 := Lib.hid hv1.kidsAt
    have HK2 := Lib.hid hv2.kidsAt
    have HI := Lib.hid ih
    have hb0 : Below w.heap.size w ((w.alloc (.cells #[.int .i64 k, .string x, .string m, .int .u64 n, .slice a1 ks.length c1] 25)).alloc (.cells #[.int .i64 k, .string x, .string m, .int .u64 n, .slice a2 ks.length c2] 25)) := ((Below.refl _ w).alloc (Nat.le_refl _) _).alloc (by simp) _
    have hx1 : BoxAt w.heap.size k x m n a1 ks.length c1 ((w.alloc (.cells #[.int .i64 k, .string x, .string m, .int .u64 n, .slice a1 ks.length c1] 25)).alloc (.cells #[.int .i64 k, .string x, .string m, .int .u64 n, .slice a2 ks.length c2] 25)) := (Below.heap_alloc _ _ _ (by simp)).trans (heap_alloc_new w _)
    have hx2 : BoxAt (w.heap.size + 1) k x m n a2 ks.length c2 ((w.alloc (.cells #[.int .i64 k, .string x, .string m, .int .u64 n, .slice a1 ks.length c1] 25)).alloc (.cells #[.int .i64 k, .string x, .string m, .int .u64 n, .slice a2 ks.length c2] 25)) := row_two _ _ _
    have HB0 := Lib.hid hb0
    have HX1 := Lib.hid hx1
    have HX2 := Lib.hid hx2
    unfold nodeU
    clear hv1 hv2 ih hb0 hx1 hx2
    go_enter Tryz.func11, Tryz.ntmps11
    go_wp2
    go_loopw [44] (fun i wr => ∃ j : Nat, i = .int .i64 j ∧ j ≤ ks.length ∧ BoxAt w.heap.size k x m n a1 ks.length c1 wr ∧ BoxAt (w.heap.size + 1) k x m n a2 ks.length c2 wr ∧ Below w.heap.size w wr) (fun i _ => ks.length - (intOf i).toNat)
    case atStart => exact ⟨0, rfl, Nat.zero_le _, HX1.out, HX2.out, HB0.out⟩
    case round =>
      obtain ⟨j, rfl, hj, hx1, hx2, hb⟩ := hrel
      have HB := Lib.hid hb
      have HY1 := Lib.hid hx1
      have HY2 := Lib.hid hx2
      obtain ⟨_, _, _, _, p4⟩ := hx1.five
      obtain ⟨_, _, _, _, q4⟩ := hx2.five
      clear hb hx1 hx2
      by_cases hlt : j < ks.length
      · obtain ⟨b1, o1, rfl, _, hkid1⟩ := HK1.out (by omega)
        obtain ⟨b2, o2, rfl, _, hkid2⟩ := HK2.out (by omega)
        obtain ⟨e1, g1, hin1, d0, d1, d2, d3, d4⟩ := hkid1 wr (Keep.of_below HB.out hN) j hlt
        obtain ⟨e2, g2, hin2, f0, f1, f2, f3, f4⟩ := hkid2 wr (Keep.of_below HB.out hN) j hlt
        have hih := HI.out ks[j] (List.getElem_mem hlt) _ _ N wr.drew hin1.drew hin2.drew (Nat.le_trans hN HB.out.size)
        clear hkid1 hkid2 hin1 hin2
        generalize ks[j] = q at *
        unfold nodeU at hih
        have HIH := Lib.hid hih
        clear hih
        have hi1 : (j : Int) < ks.length := by omega
        have hi0 : (0 : Int) ≤ j := by omega
        go_wp2_with fail
        go_region_held3 (fun w' => w'.cell? ⟨w.heap.size, 4, none⟩ = some (.slice (some ⟨b1, o1, none⟩) ks.length c1) ∧ w'.cell? ⟨w.heap.size + 1, 4, none⟩ = some (.slice (some ⟨b2, o2, none⟩) ks.length c2) ∧ w'.cell? ⟨b1, o1 + j * 5, none⟩ = some (.int .i64 q.kind) ∧ w'.cell? ⟨b1, o1 + j * 5 + 1, none⟩ = some (.string q.text) ∧ w'.cell? ⟨b1, o1 + j * 5 + 2, none⟩ = some (.string q.more) ∧ w'.cell? ⟨b1, o1 + j * 5 + 3, none⟩ = some (.int .u64 q.num) ∧ w'.cell? ⟨b1, o1 + j * 5 + 4, none⟩ = some (.slice e1 q.kids.length g1) ∧ w'.cell? ⟨b2, o2 + j * 5, none⟩ = some (.int .i64 q.kind) ∧ w'.cell? ⟨b2, o2 + j * 5 + 1, none⟩ = some (.string q.text) ∧ w'.cell? ⟨b2, o2 + j * 5 + 2, none⟩ = some (.string q.more) ∧ w'.cell? ⟨b2, o2 + j * 5 + 3, none⟩ = some (.int .u64 q.num) ∧ w'.cell? ⟨b2, o2 + j * 5 + 4, none⟩ = some (.slice e2 q.kids.length g2)) (first | go_keep | (exact ⟨below_cell hbc p4, below_cell hbc q4, below_cell hbc d0, below_cell hbc d1, below_cell hbc d2, below_cell hbc d3, below_cell hbc d4, below_cell hbc f0, below_cell hbc f1, below_cell hbc f2, below_cell hbc f3, below_cell hbc f4⟩)) ((go_at_call 11; ((with_reducible refine HIH.out.mono ?_)); rintro e w4 ⟨rfl, hbc⟩))
        all_goals
          have HBC := Lib.hid ((Below.drew HB.out).trans (hbc.mono HB.out.size))
          have HZ1 : Hid (BoxAt w.heap.size k x m n (some ⟨b1, o1, none⟩) ks.length c1 w4) := Lib.hid ((hbc.block _ HY1.out.lt).trans HY1.out)
          have HZ2 : Hid (BoxAt (w.heap.size + 1) k x m n (some ⟨b2, o2, none⟩) ks.length c2 w4) := Lib.hid ((hbc.block _ HY2.out.lt).trans HY2.out)
          clear hbc d0 d1 d2 d3 d4 f0 f1 f2 f3 f4 p4 q4
          go_wp2
          go_roundw
          case rel => exact ⟨j + 1, by go_num, by omega, HZ1.out, HZ2.out, HBC.out⟩
          case measure => simp [intOf]; omega
      · go_wp2
        go_ret
        exact ⟨rfl, HB.out⟩

/-- The kinds at which buffers or literals are asked more. -/
def askedKinds : List Int := [13, 15, 16, 27, 41, 42]

/-- Trees of other kinds alone. -/
inductive SimpleT : Tr → Prop
  | mk {k : Int} {t m : ByteArray} {n : Int} {ks : List Tr} (hk : k ∉ askedKinds) (h : ∀ x ∈ ks, SimpleT x) : SimpleT (.mk k t m n ks)

theorem SimpleT.kinds {k : Int} (h : k ∉ askedKinds) : (k == 13) = false ∧ (k == 15) = false ∧ (k == 16) = false ∧ (k == 27) = false ∧ (k == 41) = false ∧ (k == 42) = false := by
  simp only [askedKinds, List.mem_cons, List.mem_nil_iff, or_false, not_or] at h
  obtain ⟨h1, h2, h3, h4, h5, h6⟩ := h
  exact ⟨beq_eq_false_iff_ne.2 h1, beq_eq_false_iff_ne.2 h2, beq_eq_false_iff_ne.2 h3, beq_eq_false_iff_ne.2 h4, beq_eq_false_iff_ne.2 h5, beq_eq_false_iff_ne.2 h6⟩

set_option maxHeartbeats 4000000 in
set_option maxRecDepth 100000 in
theorem buffered_simple (t : Tr) : ∀ (v : Value) (N : Nat) (w : World), SimpleT t → NodeIn w (· < N) t v → N ≤ w.heap.size →
    Calls Tryz.prog 16 #[v] w fun e w' => e = .returned (.bool true) ∧ Below w.heap.size w w' := by
  induction t using Tr.ind with
  | h k x m n ks ih =>
    intro v N w hs hv hN
    obtain ⟨k', x', m', n', ks', a1, c1, heq, rfl⟩ := hv.form
    cases heq
    obtain ⟨_, hl, _⟩ := hv.len
    have hks : ∀ y ∈ ks, SimpleT y := by cases hs with | mk hk h => exact h
    have hk0 : k ∉ askedKinds := by cases hs with | mk hk h => exact hk
    obtain ⟨k1, k2, k3, k4, k5, k6⟩ := SimpleT.kinds hk0
    have HK1 := Lib.hid hv.kidsAt
    have HI := Lib.hid ih
    have HS := Lib.hid hks
    have hb0 : Below w.heap.size w (w.alloc (.cells #[.int .i64 k, .string x, .string m, .int .u64 n, .slice a1 ks.length c1] 25)) := (Below.refl _ w).alloc (Nat.le_refl _) _
    have hx1 : BoxAt w.heap.size k x m n a1 ks.length c1 (w.alloc (.cells #[.int .i64 k, .string x, .string m, .int .u64 n, .slice a1 ks.length c1] 25)) := heap_alloc_new w _
    have HB0 := Lib.hid hb0
    have HX1 := Lib.hid hx1
    unfold nodeU
    clear hv ih hb0 hx1 hs hks hk0
    go_enter Tryz.func16, Tryz.ntmps16
    go_wp2
    go_loopw [54] (fun i wr => ∃ j : Nat, i = .int .i64 j ∧ j ≤ ks.length ∧ Hid (Below w.heap.size w wr)) (fun i _ => ks.length - (intOf i).toNat)
    case atStart => exact ⟨0, rfl, Nat.zero_le _, HB0⟩
    case round =>
      obtain ⟨j, rfl, hj, HB⟩ := hrel
      by_cases hlt : j < ks.length
      · obtain ⟨b1, o1, rfl, _, hkid1⟩ := HK1.out (by omega)
        obtain ⟨e1, g1, hin1, d0, d1, d2, d3, d4⟩ := hkid1 wr (Keep.of_below HB.out hN) j hlt
        have HQS := Lib.hid (HS.out ks[j] (List.getElem_mem hlt))
        have HIN := Lib.hid hin1
        have HIK := Lib.hid (HI.out ks[j] (List.getElem_mem hlt))
        clear hkid1 hin1
        generalize ks[j] = q at *
        have hi1 : (j : Int) < ks.length := by omega
        have hi0 : (0 : Int) ≤ j := by omega
        have hbq := (Below.refl wr.heap.size wr).alloc (Nat.le_refl _) (.cells #[.int .i64 q.kind, .string q.text, .string q.more, .int .u64 q.num, .slice e1 q.kids.length g1] 25)
        have hih := HIK.out _ N _ HQS.out (HIN.out.keep (Keep.of_below hbq (Nat.le_trans hN HB.out.size))) (Nat.le_trans (Nat.le_trans hN HB.out.size) hbq.size)
        unfold nodeU at hih
        have HIH := Lib.hid hih
        have HBQ := Lib.hid (HB.out.trans (hbq.mono HB.out.size))
        clear hih hbq
        go_wp2_with fail
        ((with_reducible refine HIH.out.mono ?_))
        rintro e w4 ⟨rfl, hb4⟩
        have HB4 := Lib.hid (HBQ.out.trans (hb4.mono HBQ.out.size))
        clear hb4 d0 d1 d2 d3 d4
        go_wp2
        go_roundw
        case rel => exact ⟨j + 1, by go_num, by omega, HB4⟩
        case measure => simp [intOf]; omega
      · go_wp2
        go_ret
        exact ⟨rfl, HB.out⟩

set_option maxHeartbeats 4000000 in
set_option maxRecDepth 100000 in
theorem plain_simple (t : Tr) : ∀ (v : Value) (N : Nat) (w : World), SimpleT t → NodeIn w (· < N) t v → N ≤ w.heap.size →
    Calls Tryz.prog 17 #[v] w fun e w' => e = .returned (.bool true) ∧ Below w.heap.size w w' := by
  induction t using Tr.ind with
  | h k x m n ks ih =>
    intro v N w hs hv hN
    obtain ⟨k', x', m', n', ks', a1, c1, heq, rfl⟩ := hv.form
    cases heq
    obtain ⟨_, hl, _⟩ := hv.len
    have hks : ∀ y ∈ ks, SimpleT y := by cases hs with | mk hk h => exact h
    have hk0 : k ∉ askedKinds := by cases hs with | mk hk h => exact hk
    obtain ⟨k1, k2, k3, k4, k5, k6⟩ := SimpleT.kinds hk0
    have HK1 := Lib.hid hv.kidsAt
    have HI := Lib.hid ih
    have HS := Lib.hid hks
    have hb0 : Below w.heap.size w (w.alloc (.cells #[.int .i64 k, .string x, .string m, .int .u64 n, .slice a1 ks.length c1] 25)) := (Below.refl _ w).alloc (Nat.le_refl _) _
    have hx1 : BoxAt w.heap.size k x m n a1 ks.length c1 (w.alloc (.cells #[.int .i64 k, .string x, .string m, .int .u64 n, .slice a1 ks.length c1] 25)) := heap_alloc_new w _
    have HB0 := Lib.hid hb0
    have HX1 := Lib.hid hx1
    unfold nodeU
    clear hv ih hb0 hx1 hs hks hk0
    go_enter Tryz.func17, Tryz.ntmps17
    go_wp2
    go_loopw [21] (fun i wr => ∃ j : Nat, i = .int .i64 j ∧ j ≤ ks.length ∧ Hid (Below w.heap.size w wr)) (fun i _ => ks.length - (intOf i).toNat)
    case atStart => exact ⟨0, rfl, Nat.zero_le _, HB0⟩
    case round =>
      obtain ⟨j, rfl, hj, HB⟩ := hrel
      by_cases hlt : j < ks.length
      · obtain ⟨b1, o1, rfl, _, hkid1⟩ := HK1.out (by omega)
        obtain ⟨e1, g1, hin1, d0, d1, d2, d3, d4⟩ := hkid1 wr (Keep.of_below HB.out hN) j hlt
        have HQS := Lib.hid (HS.out ks[j] (List.getElem_mem hlt))
        have HIN := Lib.hid hin1
        have HIK := Lib.hid (HI.out ks[j] (List.getElem_mem hlt))
        clear hkid1 hin1
        generalize ks[j] = q at *
        have hi1 : (j : Int) < ks.length := by omega
        have hi0 : (0 : Int) ≤ j := by omega
        have hbq := (Below.refl wr.heap.size wr).alloc (Nat.le_refl _) (.cells #[.int .i64 q.kind, .string q.text, .string q.more, .int .u64 q.num, .slice e1 q.kids.length g1] 25)
        have hih := HIK.out _ N _ HQS.out (HIN.out.keep (Keep.of_below hbq (Nat.le_trans hN HB.out.size))) (Nat.le_trans (Nat.le_trans hN HB.out.size) hbq.size)
        unfold nodeU at hih
        have HIH := Lib.hid hih
        have HBQ := Lib.hid (HB.out.trans (hbq.mono HB.out.size))
        clear hih hbq
        go_wp2_with fail
        ((with_reducible refine HIH.out.mono ?_))
        rintro e w4 ⟨rfl, hb4⟩
        have HB4 := Lib.hid (HBQ.out.trans (hb4.mono HBQ.out.size))
        clear hb4 d0 d1 d2 d3 d4
        go_wp2
        go_roundw
        case rel => exact ⟨j + 1, by go_num, by omega, HB4⟩
        case measure => simp [intOf]; omega
      · go_wp2
        go_ret
        exact ⟨rfl, HB.out⟩

set_option maxHeartbeats 4000000 in
set_option maxRecDepth 100000 in
/-- laws.buffered over any tree, at a kind whose trees are simple. -/
theorem bufferedS_any (kd : Int) (hsm : ∀ tr, FitsT tr → tr.kind = kd → SimpleT tr) (tr : Tr) (v : Value) (N : Nat) (w : World) (hv : NodeIn w (· < N) tr v) (hN : N ≤ w.heap.size) (hT : Lib.Utf8Tabs 1 2 w) :
    Calls Tryz.prog 8 #[v, .int .i64 kd] w (YesB (BigFits tr ∧ tr.kind = kd) w) := by
  obtain ⟨k, x, m, n, ks, a, c, rfl, rfl⟩ := hv.form
  have hb0 : Below w.heap.size w (w.alloc (.cells #[.int .i64 k, .string x, .string m, .int .u64 n, .slice a ks.length c] 25)) := (Below.refl _ w).alloc (Nat.le_refl _) _
  have hx0 : BoxAt w.heap.size k x m n a ks.length c (w.alloc (.cells #[.int .i64 k, .string x, .string m, .int .u64 n, .slice a ks.length c] 25)) := heap_alloc_new w _
  have hF := Fits_any _ _ N _ (hv.keep (Keep.of_below hb0 hN)) (Nat.le_trans hN hb0.size) (Utf8Tabs_below hT hb0)
  have HNO : Hid (∀ w', Below w.heap.size w w' → YesB (BigFits (.mk k x m n ks) ∧ (Tr.mk k x m n ks).kind = kd) w (.returned (.bool false)) w') := Lib.hid fun w' h => ⟨false, rfl, (fun h => by cases h), h⟩
  unfold nodeU at hF ⊢
  have HB0 := Lib.hid hb0
  have HX0 := Lib.hid hx0
  have HF := Lib.hid hF
  have HV := Lib.hid hv
  have HSM := Lib.hid hsm
  clear hv hT hb0 hx0 hF hsm
  go_enter Tryz.func8, Tryz.ntmps8
  go_wp2_with fail
  ((with_reducible refine HF.out.mono ?_))
  rintro e w1 ⟨b, rfl, hb, hb1⟩
  have HB1 := Lib.hid (HB0.out.trans (hb1.mono HB0.out.size))
  have HX1 := Lib.hid (HX0.out.below hb1)
  clear hb1
  cases b with
  | false =>
    go_wp2
    go_ret
    exact HNO.out _ HB1.out
  | true =>
    have HFIT := Lib.hid (hb rfl)
    obtain ⟨c0, c1, c2, c3, c4⟩ := HX1.out.five
    clear hb
    by_cases hk : k = kd
    · subst hk
      have HST := Lib.hid (HSM.out _ HFIT.out.1 rfl)
      have HYES : Hid (∀ w', Below w.heap.size w w' → YesB (BigFits (.mk k x m n ks) ∧ (Tr.mk k x m n ks).kind = k) w (.returned (.bool true)) w') := Lib.hid fun w' h => ⟨true, rfl, fun _ => ⟨HFIT.out, rfl⟩, h⟩
      have hK := buffered_simple _ _ N w1 HST.out (HV.out.keep (Keep.of_below HB1.out hN)) (Nat.le_trans hN HB1.out.size)
      unfold nodeU at hK
      have HKE := Lib.hid hK
      clear hK
      go_wp2_with fail
      ((with_reducible refine HKE.out.mono ?_))
      rintro e w2 ⟨rfl, hb2⟩
      have HB2 := Lib.hid (HB1.out.trans (hb2.mono HB1.out.size))
      have HX2 : Hid (BoxAt w.heap.size k x m n a ks.length c w2) := Lib.hid (HX1.out.below hb2)
      have hP := plain_simple _ _ N w2 HST.out (HV.out.keep (Keep.of_below HB2.out hN)) (Nat.le_trans hN HB2.out.size)
      unfold nodeU at hP
      have HPL := Lib.hid hP
      clear hb2 hP c0 c1 c2 c3 c4
      obtain ⟨c0, c1, c2, c3, c4⟩ := HX2.out.five
      go_wp2_with fail
      ((with_reducible refine HPL.out.mono ?_))
      rintro e w3 ⟨rfl, hb3⟩
      have HB3 := Lib.hid (HB2.out.trans (hb3.mono HB2.out.size))
      clear hb3
      go_wp2
      go_ret
      exact HYES.out _ HB3.out
    · have hkb : (k == kd) = false := beq_eq_false_iff_ne.2 hk
      go_wp2
      go_ret
      exact HNO.out _ HB1.out

end Go.Proofs.YtgceklahjdbipaaGreatDoor
