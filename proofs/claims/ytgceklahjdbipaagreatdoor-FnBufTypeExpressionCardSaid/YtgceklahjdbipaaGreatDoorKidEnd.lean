/- laws.buffered over any tree, at the kinds of leaves. What spec.Fits says of types of one identifier. What is read of a node of one node. -/
import Derived.Test.YtgceklahjdbipaaGreatDoorBufLeaf
import Derived.Test.YtgceklahjdbipaaGreatDoorSame
import Derived.Test.YtgceklahjdbipaaGreatDoorNodeKid
namespace Go.Proofs.YtgceklahjdbipaaGreatDoor
open Go Go.RowKit
set_option linter.unusedVariables false
set_option linter.unusedSimpArgs false

set_option maxHeartbeats 2000000 in
set_option maxRecDepth 100000 in
theorem zzFits1_any (k : Int) (t m : ByteArray) (n : Int) (a : Option Addr) (l c : Nat) (w : World) :
    Calls Tryz.prog 7 #[nodeU k t m n a l c] w (YesB True w) := by
  have HB : Hid (Below w.heap.size w (w.alloc (.cells #[.int .i64 k, .string t, .string m, .int .u64 n, .slice a l c] 25))) := Lib.hid ((Below.refl _ w).alloc (Nat.le_refl _) _)
  have HF : Hid (YesB True w (.returned (.bool false)) (w.alloc (.cells #[.int .i64 k, .string t, .string m, .int .u64 n, .slice a l c] 25))) := Lib.hid ⟨false, rfl, fun _ => trivial, HB.out⟩
  have HY : Hid (YesB True w (.returned (.bool true)) (w.alloc (.cells #[.int .i64 k, .string t, .string m, .int .u64 n, .slice a l c] 25))) := Lib.hid ⟨true, rfl, fun _ => trivial, HB.out⟩
  unfold nodeU
  go_enter Tryz.func7, Tryz.ntmps7
  go_wp2
  all_goals (go_ret; first | exact HF.out | exact HY.out)

/-- The kinds of leaves. -/
def leafKinds : List Int := [7, 33, 34, 37, 38]

theorem leaf_shape : ∀ k ∈ leafKinds, shapeFixed k = [] ∧ shapeRest k = 28 ∧ k ≠ 1 ∧ k ≠ 2 ∧ k ≠ 3 := by decide

theorem fits_leaf (tr : Tr) (h : FitsT tr) (hk : tr.kind ∈ leafKinds) : ∃ k t n, tr = .mk k t ⟨#[]⟩ n [] ∧ k = tr.kind ∧ t.size ≤ 300 ∧ (k ∉ textKinds → t = ⟨#[]⟩) ∧ (k ∉ numKinds → n = 0) := by
  cases h with
  | none => exact absurd hk (by decide)
  | @node k t m n ks hk1 hf hs hkids hd =>
    have hk2 : k ∈ leafKinds := hk
    obtain ⟨s1, s2, s3, s4, s5⟩ := leaf_shape k hk2
    obtain ⟨a1, a2, _⟩ := hs s3
    rw [s1] at a1 a2
    have h0 : ks = [] := by
      cases ks with
      | nil => rfl
      | cons x ks => exact absurd s2 (a2 (by simp))
    subst h0
    obtain ⟨b1, b2, b3, b4, _⟩ := hf.1
    have hm : m = ⟨#[]⟩ := by
      rcases b3 with h | h | h
      · exact h
      · exact absurd h s4
      · exact absurd h s5
    subst hm
    exact ⟨k, t, n, rfl, rfl, b4, b1, b2⟩

set_option maxHeartbeats 2000000 in
set_option maxRecDepth 100000 in
theorem bufferedLeaf_any (k : Int) (hk : k ∈ leafKinds) (t m : ByteArray) (n : Int) (a : Option Addr) (c : Nat) (w : World) :
    Calls Tryz.prog 16 #[.agg #[.int .i64 k, .string t, .string m, .int .u64 n, .slice a 0 c]] w fun e w' => e = .returned (.bool true) ∧ Below w.heap.size w w' := by
  have hb := (Below.refl w.heap.size w).alloc (Nat.le_refl _) (.cells #[.int .i64 k, .string t, .string m, .int .u64 n, .slice a 0 c] 25)
  have HB := Lib.hid hb
  clear hb
  simp only [leafKinds, List.mem_cons, List.mem_nil_iff, or_false] at hk
  go_enter Tryz.func16, Tryz.ntmps16
  rcases hk with rfl | rfl | rfl | rfl | rfl
  all_goals
    go_wp2
    refine wp_loop_rounds 1 ?_
    rw [rounds_succ]
    go_wp2
    go_ret
    exact ⟨rfl, HB.out⟩

set_option maxHeartbeats 2000000 in
set_option maxRecDepth 100000 in
theorem plainLeaf_any (k : Int) (hk : k ∈ leafKinds) (t m : ByteArray) (n : Int) (a : Option Addr) (c : Nat) (w : World) :
    Calls Tryz.prog 17 #[.agg #[.int .i64 k, .string t, .string m, .int .u64 n, .slice a 0 c]] w fun e w' => e = .returned (.bool true) ∧ Below w.heap.size w w' := by
  have hb := (Below.refl w.heap.size w).alloc (Nat.le_refl _) (.cells #[.int .i64 k, .string t, .string m, .int .u64 n, .slice a 0 c] 25)
  have HB := Lib.hid hb
  clear hb
  simp only [leafKinds, List.mem_cons, List.mem_nil_iff, or_false] at hk
  go_enter Tryz.func17, Tryz.ntmps17
  rcases hk with rfl | rfl | rfl | rfl | rfl
  all_goals
    go_wp2
    refine wp_loop_rounds 1 ?_
    rw [rounds_succ]
    go_wp2
    go_ret
    exact ⟨rfl, HB.out⟩

set_option maxHeartbeats 4000000 in
set_option maxRecDepth 100000 in
theorem buffered_any (kd : Int) (hkd : kd ∈ leafKinds) (tr : Tr) (v : Value) (N : Nat) (w : World) (hv : NodeIn w (· < N) tr v) (hN : N ≤ w.heap.size) (hT : Lib.Utf8Tabs 1 2 w) :
    Calls Tryz.prog 8 #[v, .int .i64 kd] w (YesB (BigFits tr ∧ tr.kind = kd) w) := by
  obtain ⟨k, x, m, n, ks, a, c, rfl, rfl⟩ := hv.form
  have hb0 : Below w.heap.size w (w.alloc (.cells #[.int .i64 k, .string x, .string m, .int .u64 n, .slice a ks.length c] 25)) := (Below.refl _ w).alloc (Nat.le_refl _) _
  have hx0 : BoxAt w.heap.size k x m n a ks.length c (w.alloc (.cells #[.int .i64 k, .string x, .string m, .int .u64 n, .slice a ks.length c] 25)) := heap_alloc_new w _
  have hF := Fits_any _ _ N _ (hv.keep (Keep.of_below hb0 hN)) (Nat.le_trans hN hb0.size) (Utf8Tabs_below hT hb0)
  have HNO : Hid (∀ w', Below w.heap.size w w' → YesB (BigFits (.mk k x m n ks) ∧ (Tr.mk k x m n ks).kind = kd) w (.returned (.bool false)) w') := Lib.hid fun w' h => ⟨false, rfl, (fun h => by cases h), h⟩
  unfold nodeU at hF ⊢
  have HB0 := Lib.hid hb0
  have HX0 := Lib.hid hx0
  have HF := Lib.hid hF
  have HKD := Lib.hid hkd
  clear hv hT hb0 hx0 hF hkd
  go_enter Tryz.func8, Tryz.ntmps8
  go_wp2_with fail
  ((with_reducible refine HF.out.mono ?_))
  rintro e w1 ⟨b, rfl, hb, hb1⟩
  have HB1 := Lib.hid (HB0.out.trans (hb1.mono HB0.out.size))
  have HX1 := Lib.hid (HX0.out.below hb1)
  clear hb1
  cases b with
  | false =>
    go_wp2
    go_ret
    exact HNO.out _ HB1.out
  | true =>
    have HFIT := Lib.hid (hb rfl)
    obtain ⟨c0, c1, c2, c3, c4⟩ := HX1.out.five
    clear hb
    by_cases hk : k = kd
    · subst hk
      obtain ⟨k', t', n', e, hke, h300, hte, hne⟩ := fits_leaf _ HFIT.out.1 HKD.out
      injection e with e1 e2 e3 e4 e5
      subst e3
      subst e5
      have HKE := Lib.hid (bufferedLeaf_any k HKD.out x ⟨#[]⟩ n a c w1)
      have HYES : Hid (∀ w', Below w.heap.size w w' → YesB (BigFits (.mk k x ⟨#[]⟩ n []) ∧ (Tr.mk k x ⟨#[]⟩ n []).kind = k) w (.returned (.bool true)) w') := Lib.hid fun w' h => ⟨true, rfl, fun _ => ⟨HFIT.out, rfl⟩, h⟩
      clear hke e1 e2 e4 hte hne h300
      go_wp2_with fail
      ((with_reducible refine HKE.out.mono ?_))
      rintro e w2 ⟨rfl, hb2⟩
      have HB2 := Lib.hid (HB1.out.trans (hb2.mono HB1.out.size))
      have HX2 : Hid (BoxAt w.heap.size k x ⟨#[]⟩ n a 0 c w2) := Lib.hid (HX1.out.below hb2)
      have HPL := Lib.hid (plainLeaf_any k HKD.out x ⟨#[]⟩ n a c w2)
      clear hb2 c0 c1 c2 c3 c4
      obtain ⟨c0, c1, c2, c3, c4⟩ := HX2.out.five
      go_wp2_with fail
      ((with_reducible refine HPL.out.mono ?_))
      rintro e w3 ⟨rfl, hb3⟩
      have HB3 := Lib.hid (HB2.out.trans (hb3.mono HB2.out.size))
      clear hb3
      go_wp2
      go_ret
      exact HYES.out _ HB3.out
    · have hkb : (k == kd) = false := beq_eq_false_iff_ne.2 hk
      go_wp2
      go_ret
      exact HNO.out _ HB1.out

theorem tvar_shape (k : Int) (hk : k = 45 ∨ k = 46) : shapeFixed k = [3] ∧ shapeRest k = 28 := by
  rcases hk with rfl | rfl <;> exact ⟨by decide, by decide⟩

theorem fits_tvar (tr : Tr) (h : FitsT tr) (hk : tr.kind = 45 ∨ tr.kind = 46) : ∃ x, tr = .mk tr.kind ⟨#[]⟩ ⟨#[]⟩ 0 [.mk 33 x ⟨#[]⟩ 0 []] ∧ x.size ≤ 300 := by
  cases h with
  | none => exact absurd hk (by decide)
  | @node k t m n ks hk1 hf hs hkids hd =>
    have hk2 : k = 45 ∨ k = 46 := hk
    obtain ⟨s1, s2⟩ := tvar_shape k hk2
    obtain ⟨a1, a2, a3⟩ := hs (by omega)
    rw [s1] at a1 a2
    obtain ⟨b1, b2, b3, b4, _⟩ := hf.1
    have ht : t = ⟨#[]⟩ := b1 (by rcases hk2 with rfl | rfl <;> decide)
    have hn : n = 0 := b2 (by rcases hk2 with rfl | rfl <;> decide)
    have hm : m = ⟨#[]⟩ := by
      rcases b3 with h | h | h
      · exact h
      · omega
      · omega
    match ks, a1, a2, a3, hkids with
    | [kid], _, _, a3, hkids =>
      have hc := a3 0 (by simp)
      have hc3 : classAt k 0 = 3 := by unfold classAt; rw [s1]; rfl
      rw [hc3] at hc
      have hfl := hc.2.2.2 (by decide) (by decide) (by decide)
      have hk33 : kid.kind = 33 := by
        have h33 := hfl.2.2.2.2.2 (by decide) (by decide) (by decide) (by decide) (by decide)
        have e3 : classFew 3 = [33] := by decide
        rw [e3] at h33
        simpa using h33
      obtain ⟨k', t', n', e, hke, h300, hte, hne⟩ := fits_leaf kid (hkids kid (by simp)) (by rw [hk33]; decide)
      have hn0 : n' = 0 := hne (by rw [hke, hk33]; decide)
      subst ht hn hm hn0
      rw [hk33] at hke
      subst hke
      exact ⟨t', by rw [e]; rfl, h300⟩
    | x :: y :: r, _, a2, _, _ => exact absurd s2 (a2 (by simp))

theorem simple_tvar (tr : Tr) (h : FitsT tr) (hk : tr.kind = 45 ∨ tr.kind = 46) : SimpleT tr := by
  obtain ⟨x, e, _⟩ := fits_tvar tr h hk
  rw [e]
  refine .mk (by rcases hk with h | h <;> rw [h] <;> decide) fun y hy => ?_
  rw [List.mem_singleton] at hy
  rw [hy]
  exact .mk (by decide) fun z hz => by cases hz

theorem kid_nodeIn {w : World} {g : Nat} (k : Int) (hk : -9223372036854775808 ≤ k ∧ k ≤ 9223372036854775807) (x : ByteArray) (hx : x.size ≤ maxLen) (h : w.heap[g]? = some (.cells #[.int .i64 33, .string x, .string ⟨#[]⟩, .int .u64 0, .slice none 0 0] 25 (0, 0))) :
    NodeIn w (· < w.heap.size) (.mk k ⟨#[]⟩ ⟨#[]⟩ 0 [.mk 33 x ⟨#[]⟩ 0 []]) (nodeU k ⟨#[]⟩ ⟨#[]⟩ 0 (some ⟨g, 0, none⟩) 1 1) :=
  .mk (ks := [.mk 33 x ⟨#[]⟩ 0 []]) g 0 (fun _ => nodeU 33 x ⟨#[]⟩ 0 none 0 0) hk (by omega) (by decide) (by decide) (by show 1 ≤ maxLen; decide) (by show 1 ≤ 1; decide) (fun _ => ⟨rfl, (Array.getElem?_eq_some_iff.1 h).1⟩)
    (fun i hi => by
      have h0 : i = 0 := by simpa using hi
      subst h0
      intro j hj
      rw [Lib.cell_of_heap h]
      show (#[Value.int .i64 33, .string x, .string ⟨#[]⟩, .int .u64 0, .slice none 0 0] : Array Value)[0 + 0 * 5 + j]? = _
      simp)
    (fun i hi => by
      have h0 : i = 0 := by simpa using hi
      subst h0
      exact .leaf (by omega) (by omega) hx (by decide) none 0)

theorem impl_end_other {w w8 : World} {r : Nat} (h1 : r ≠ w.heap.size) (h2 : r ≠ w.heap.size + 1) (v0 v1 v2 v3 v4 v5 : Value) :
    ((((((w8.setCell ⟨w.heap.size, 0, none⟩ v0).setCell ⟨w.heap.size, 1, none⟩ v1).setCell ⟨w.heap.size, 2, none⟩ v2).setCell ⟨w.heap.size, 3, none⟩ v3).setCell ⟨w.heap.size, 4, none⟩ v4).setCell ⟨w.heap.size + 1, 0, none⟩ v5).heap[r]? = w8.heap[r]? := by
  rw [Below.heap_setCell _ _ _ _ (by show r ≠ w.heap.size + 1; exact h2), Below.heap_setCell _ _ _ _ (by show r ≠ w.heap.size; exact h1), Below.heap_setCell _ _ _ _ (by show r ≠ w.heap.size; exact h1), Below.heap_setCell _ _ _ _ (by show r ≠ w.heap.size; exact h1), Below.heap_setCell _ _ _ _ (by show r ≠ w.heap.size; exact h1), Below.heap_setCell _ _ _ _ (by show r ≠ w.heap.size; exact h1)]

/-- A node of one identifier is returned, and true. -/
def KidRes (k : Int) (x : ByteArray) (w : World) (e : Ending) (w' : World) : Prop :=
  ∃ g, e = .returned (.tuple #[.agg #[.int .i64 k, .string ⟨#[]⟩, .string ⟨#[]⟩, .int .u64 0, .slice (some ⟨g, 0, none⟩) 1 1], .bool true]) ∧ w.heap.size ≤ g ∧ w'.heap[g]? = some (.cells #[.int .i64 33, .string x, .string ⟨#[]⟩, .int .u64 0, .slice none 0 0] 25 (0, 0)) ∧ Below w.heap.size w w'

end Go.Proofs.YtgceklahjdbipaaGreatDoor
