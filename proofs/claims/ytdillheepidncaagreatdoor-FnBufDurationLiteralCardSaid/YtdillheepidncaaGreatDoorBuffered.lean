/- laws.buffered over any tree, at the kinds of leaves. -/
import Derived.Test.YtdillheepidncaaGreatDoorBufLeaf
namespace Go.Proofs.YtdillheepidncaaGreatDoor
open Go Go.RowKit
set_option linter.unusedVariables false
set_option linter.unusedSimpArgs false

set_option maxHeartbeats 2000000 in
set_option maxRecDepth 100000 in
theorem zzFits1_any (k : Int) (t m : ByteArray) (n : Int) (a : Option Addr) (l c : Nat) (w : World) :
    Calls Tryz.prog 6 #[nodeU k t m n a l c] w (YesB True w) := by
  have HB : Hid (Below w.heap.size w (w.alloc (.cells #[.int .i64 k, .string t, .string m, .int .u64 n, .slice a l c] 25))) := Lib.hid ((Below.refl _ w).alloc (Nat.le_refl _) _)
  have HF : Hid (YesB True w (.returned (.bool false)) (w.alloc (.cells #[.int .i64 k, .string t, .string m, .int .u64 n, .slice a l c] 25))) := Lib.hid ⟨false, rfl, fun _ => trivial, HB.out⟩
  have HY : Hid (YesB True w (.returned (.bool true)) (w.alloc (.cells #[.int .i64 k, .string t, .string m, .int .u64 n, .slice a l c] 25))) := Lib.hid ⟨true, rfl, fun _ => trivial, HB.out⟩
  unfold nodeU
  go_enter Tryz.func6, Tryz.ntmps6
  go_wp2
  all_goals (go_ret; first | exact HF.out | exact HY.out)

/-- The kinds of leaves. -/
def leafKinds : List Int := [7, 33, 34, 37, 38]

theorem leaf_shape : ∀ k ∈ leafKinds, shapeFixed k = [] ∧ shapeRest k = 28 ∧ k ≠ 1 ∧ k ≠ 2 ∧ k ≠ 3 := by decide

theorem fits_leaf (tr : Tr) (h : FitsT tr) (hk : tr.kind ∈ leafKinds) : ∃ k t n, tr = .mk k t ⟨#[]⟩ n [] ∧ k = tr.kind ∧ t.size ≤ 300 ∧ (k ∉ textKinds → t = ⟨#[]⟩) ∧ (k ∉ numKinds → n = 0) := by
  cases h with
  | none => exact absurd hk (by decide)
  | @node k t m n ks hk1 hf hs hkids hd =>
    have hk2 : k ∈ leafKinds := hk
    obtain ⟨s1, s2, s3, s4, s5⟩ := leaf_shape k hk2
    obtain ⟨a1, a2, _⟩ := hs s3
    rw [s1] at a1 a2
    have h0 : ks = [] := by
      cases ks with
      | nil => rfl
      | cons x ks => exact absurd s2 (a2 (by simp))
    subst h0
    obtain ⟨b1, b2, b3, b4, _⟩ := hf.1
    have hm : m = ⟨#[]⟩ := by
      rcases b3 with h | h | h
      · exact h
      · exact absurd h s4
      · exact absurd h s5
    subst hm
    exact ⟨k, t, n, rfl, rfl, b4, b1, b2⟩

set_option maxHeartbeats 2000000 in
set_option maxRecDepth 100000 in
theorem bufferedLeaf_any (k : Int) (hk : k ∈ leafKinds) (t m : ByteArray) (n : Int) (a : Option Addr) (c : Nat) (w : World) :
    Calls Tryz.prog 14 #[.agg #[.int .i64 k, .string t, .string m, .int .u64 n, .slice a 0 c]] w fun e w' => e = .returned (.bool true) ∧ Below w.heap.size w w' := by
  have hb := (Below.refl w.heap.size w).alloc (Nat.le_refl _) (.cells #[.int .i64 k, .string t, .string m, .int .u64 n, .slice a 0 c] 25)
  have HB := Lib.hid hb
  clear hb
  simp only [leafKinds, List.mem_cons, List.mem_nil_iff, or_false] at hk
  go_enter Tryz.func14, Tryz.ntmps14
  rcases hk with rfl | rfl | rfl | rfl | rfl
  all_goals
    go_wp2
    refine wp_loop_rounds 1 ?_
    rw [rounds_succ]
    go_wp2
    go_ret
    exact ⟨rfl, HB.out⟩

set_option maxHeartbeats 2000000 in
set_option maxRecDepth 100000 in
theorem plainLeaf_any (k : Int) (hk : k ∈ leafKinds) (t m : ByteArray) (n : Int) (a : Option Addr) (c : Nat) (w : World) :
    Calls Tryz.prog 15 #[.agg #[.int .i64 k, .string t, .string m, .int .u64 n, .slice a 0 c]] w fun e w' => e = .returned (.bool true) ∧ Below w.heap.size w w' := by
  have hb := (Below.refl w.heap.size w).alloc (Nat.le_refl _) (.cells #[.int .i64 k, .string t, .string m, .int .u64 n, .slice a 0 c] 25)
  have HB := Lib.hid hb
  clear hb
  simp only [leafKinds, List.mem_cons, List.mem_nil_iff, or_false] at hk
  go_enter Tryz.func15, Tryz.ntmps15
  rcases hk with rfl | rfl | rfl | rfl | rfl
  all_goals
    go_wp2
    refine wp_loop_rounds 1 ?_
    rw [rounds_succ]
    go_wp2
    go_ret
    exact ⟨rfl, HB.out⟩

set_option maxHeartbeats 4000000 in
set_option maxRecDepth 100000 in
theorem buffered_any (kd : Int) (hkd : kd ∈ leafKinds) (tr : Tr) (v : Value) (N : Nat) (w : World) (hv : NodeIn w (· < N) tr v) (hN : N ≤ w.heap.size) (hT : Lib.Utf8Tabs 1 2 w) :
    Calls Tryz.prog 7 #[v, .int .i64 kd] w (YesB (BigFits tr ∧ tr.kind = kd) w) := by
  obtain ⟨k, x, m, n, ks, a, c, rfl, rfl⟩ := hv.form
  have hb0 : Below w.heap.size w (w.alloc (.cells #[.int .i64 k, .string x, .string m, .int .u64 n, .slice a ks.length c] 25)) := (Below.refl _ w).alloc (Nat.le_refl _) _
  have hx0 : BoxAt w.heap.size k x m n a ks.length c (w.alloc (.cells #[.int .i64 k, .string x, .string m, .int .u64 n, .slice a ks.length c] 25)) := heap_alloc_new w _
  have hF := Fits_any _ _ N _ (hv.keep (Keep.of_below hb0 hN)) (Nat.le_trans hN hb0.size) (Utf8Tabs_below hT hb0)
  have HNO : Hid (∀ w', Below w.heap.size w w' → YesB (BigFits (.mk k x m n ks) ∧ (Tr.mk k x m n ks).kind = kd) w (.returned (.bool false)) w') := Lib.hid fun w' h => ⟨false, rfl, (fun h => by cases h), h⟩
  unfold nodeU at hF ⊢
  have HB0 := Lib.hid hb0
  have HX0 := Lib.hid hx0
  have HF := Lib.hid hF
  have HKD := Lib.hid hkd
  clear hv hT hb0 hx0 hF hkd
  go_enter Tryz.func7, Tryz.ntmps7
  go_wp2_with fail
  ((with_reducible refine HF.out.mono ?_))
  rintro e w1 ⟨b, rfl, hb, hb1⟩
  have HB1 := Lib.hid (HB0.out.trans (hb1.mono HB0.out.size))
  have HX1 := Lib.hid (HX0.out.below hb1)
  clear hb1
  cases b with
  | false =>
    go_wp2
    go_ret
    exact HNO.out _ HB1.out
  | true =>
    have HFIT := Lib.hid (hb rfl)
    obtain ⟨c0, c1, c2, c3, c4⟩ := HX1.out.five
    clear hb
    by_cases hk : k = kd
    · subst hk
      obtain ⟨k', t', n', e, hke, h300, hte, hne⟩ := fits_leaf _ HFIT.out.1 HKD.out
      injection e with e1 e2 e3 e4 e5
      subst e3
      subst e5
      have HKE := Lib.hid (bufferedLeaf_any k HKD.out x ⟨#[]⟩ n a c w1)
      have HYES : Hid (∀ w', Below w.heap.size w w' → YesB (BigFits (.mk k x ⟨#[]⟩ n []) ∧ (Tr.mk k x ⟨#[]⟩ n []).kind = k) w (.returned (.bool true)) w') := Lib.hid fun w' h => ⟨true, rfl, fun _ => ⟨HFIT.out, rfl⟩, h⟩
      clear hke e1 e2 e4 hte hne h300
      go_wp2_with fail
      ((with_reducible refine HKE.out.mono ?_))
      rintro e w2 ⟨rfl, hb2⟩
      have HB2 := Lib.hid (HB1.out.trans (hb2.mono HB1.out.size))
      have HX2 : Hid (BoxAt w.heap.size k x ⟨#[]⟩ n a 0 c w2) := Lib.hid (HX1.out.below hb2)
      have HPL := Lib.hid (plainLeaf_any k HKD.out x ⟨#[]⟩ n a c w2)
      clear hb2 c0 c1 c2 c3 c4
      obtain ⟨c0, c1, c2, c3, c4⟩ := HX2.out.five
      go_wp2_with fail
      ((with_reducible refine HPL.out.mono ?_))
      rintro e w3 ⟨rfl, hb3⟩
      have HB3 := Lib.hid (HB2.out.trans (hb3.mono HB2.out.size))
      clear hb3
      go_wp2
      go_ret
      exact HYES.out _ HB3.out
    · have hkb : (k == kd) = false := beq_eq_false_iff_ne.2 hk
      go_wp2
      go_ret
      exact HNO.out _ HB1.out

end Go.Proofs.YtdillheepidncaaGreatDoor
