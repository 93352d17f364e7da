/- The laws on buffers of leaves: their walks. -/
import Derived.Test.YtgoklibifdhbeaaGreatDoorBuffered
import Derived.Test.YtgoklibifdhbeaaGreatDoorUtfTabs
namespace Go.Proofs.YtgoklibifdhbeaaGreatDoor
open Go Go.RowKit Go.Shelf
set_option linter.unusedVariables false
set_option linter.unusedSimpArgs false

theorem num_bounds {w : World} {B : Nat → Prop} {k : Int} {t m : ByteArray} {n : Int} {ks : List Tr} {v : Value} (h : NodeIn w B (.mk k t m n ks) v) : 0 ≤ n ∧ n ≤ 18446744073709551615 := by
  cases h with
  | mk b o f hk hn => exact hn


set_option maxHeartbeats 8000000 in
set_option maxRecDepth 100000 in
/-- At a leaf of the kind. -/
theorem lawBadStatement_leaf (base : Bool) (x : ByteArray) (h300 : x.size ≤ 300) (a : Option Addr) (c : Nat) (w w0 : World) (HB : Hid (Below w0.heap.size w0 w)) (HX : Hid (BoxAt w0.heap.size 7 x ⟨#[]⟩ 0 a 0 c w)) :
    (∀ W, Calls Tryz.prog 11 #[.agg #[.int .i64 7, .string x, .string ⟨#[]⟩, .int .u64 0, .slice a 0 c], .bool base] W (LeafBuf (TextRef x) W)) ∧
    (∀ (g L c1 : Nat) (bs : List UInt8) (q size p0 p1 : Nat) W, RowAt g L c1 bs W → rd bs 0 4 = q → LeafQ bs q size p0 p1 → (TextRef x) bs (q + p1) →
      Calls Tryz.prog 10 #[.slice (some ⟨g, 0, none⟩) L c1] W fun e w' => e = .returned (.tuple #[.agg #[.int .i64 7, .string x, .string ⟨#[]⟩, .int .u64 0, .slice none 0 0], .bool true]) ∧ Below W.heap.size W w') ∧
    (∀ W, Calls Tryz.prog 12 #[.agg #[.int .i64 7, .string x, .string ⟨#[]⟩, .int .u64 0, .slice a 0 c], .agg #[.int .i64 7, .string x, .string ⟨#[]⟩, .int .u64 0, .slice none 0 0]] W (SamePost W)) := by
  refine ⟨fun W => buf_text base 7 (by decide) x ⟨#[]⟩ h300 0 (.slice a 0 c) ⟨a, 0, c, rfl⟩ W (fun M W hM => slots_bad M base _ (textQ 1 x) x ⟨#[]⟩ 0 _ ⟨a, 0, c, rfl⟩ W hM (fun W2 h2 => statement_bad M base _ x ⟨#[]⟩ 0 _ ⟨a, 0, c, rfl⟩ (by omega) W2 h2)), fun g L c1 bs q size p0 p1 W h1 h2 h3 h4 => ?_, fun W => ?_⟩
  · exact bufBadStatement_any g L c1 q size p0 p1 bs h2 h3 x h4 W h1
  · exact same_refl (.mk 7 x ⟨#[]⟩ 0 []) _ _ 0 W (.leaf (by omega) (by omega) (by unfold maxLen; omega) (by decide) a c) (.leaf (by omega) (by omega) (by unfold maxLen; omega) (by decide) none 0) (Nat.zero_le _)

set_option maxHeartbeats 8000000 in
set_option maxRecDepth 100000 in
theorem lawBadStatement_any (tr : Tr) (v : Value) (N : Nat) (w : World) (hv : NodeIn w (· < N) tr v) (hN : N ≤ w.heap.size) (base : Bool) (hT : Lib.Utf8Tabs 1 2 w) :
    Calls Tryz.prog 3 #[v, .bool base] w fun e w' => e = .returned (.bool true) ∧ Below w.heap.size w w' := by
  obtain ⟨k, x, m, n, ks, a, c, rfl, rfl⟩ := hv.form
  have hb0 : Below w.heap.size w (w.alloc (.cells #[.int .i64 k, .string x, .string m, .int .u64 n, .slice a ks.length c] 25)) := (Below.refl _ w).alloc (Nat.le_refl _) _
  have hx0 : BoxAt w.heap.size k x m n a ks.length c (w.alloc (.cells #[.int .i64 k, .string x, .string m, .int .u64 n, .slice a ks.length c] 25)) := heap_alloc_new w _
  have hz := zzFits1_any k x m n a ks.length c (w.alloc (.cells #[.int .i64 k, .string x, .string m, .int .u64 n, .slice a ks.length c] 25))
  unfold nodeU at hz ⊢
  have HV := Lib.hid hv
  have HT := Lib.hid hT
  have HB0 := Lib.hid hb0
  have HX0 := Lib.hid hx0
  have HZ := Lib.hid hz
  clear hv hT hb0 hx0 hz
  go_enter Tryz.func3, Tryz.ntmps3
  go_wp2_with fail
  ((with_reducible refine HZ.out.mono ?_))
  rintro e w1 ⟨b, rfl, _, hb1⟩
  have HB1 := Lib.hid (HB0.out.trans (hb1.mono HB0.out.size))
  have HX1 := Lib.hid (HX0.out.below hb1)
  clear hb1
  cases b with
  | false =>
    go_wp2
    go_ret
    exact ⟨rfl, HB1.out⟩
  | true =>
    have hF := buffered_any 7 (by decide) _ _ N w1 (HV.out.keep (Keep.of_below HB1.out hN)) (Nat.le_trans hN HB1.out.size) (Utf8Tabs_below HT.out HB1.out)
    unfold nodeU at hF
    have HF := Lib.hid hF
    obtain ⟨c0, cc1, c2, c3, c4⟩ := HX1.out.five
    clear hF
    go_wp2_with fail
    ((with_reducible refine HF.out.mono ?_))
    rintro e w2 ⟨b, rfl, hb, hb2⟩
    have HB2 := Lib.hid (HB1.out.trans (hb2.mono HB1.out.size))
    have HX2 := Lib.hid (HX1.out.below hb2)
    clear c0 cc1 c2 c3 c4 hb2
    cases b with
    | false =>
      go_wp2
      go_ret
      exact ⟨rfl, HB2.out⟩
    | true =>
      obtain ⟨hfit, hkind⟩ := hb rfl
      have hk : k = 7 := hkind
      obtain ⟨k', t', n', e, hke, h300, hte, hne⟩ := fits_leaf _ hfit.1 (by rw [hkind]; decide)
      injection e with e1 e2 e3 e4 e5
      have hv := HV.out
      subst e2 e3 e4 e5 hk
      rw [← e1] at hne hte
      have ht0 := hne (by decide)
      subst ht0
      have HX3 : Hid (BoxAt w.heap.size 7 x ⟨#[]⟩ 0 a 0 c w2) := HX2
      obtain ⟨h1, h2, h3⟩ := lawBadStatement_leaf base x h300 a c w2 w HB2 HX3
      have HBU := Lib.hid h1
      have HIM := Lib.hid h2
      have HSA := Lib.hid h3
      obtain ⟨c0, cc1, c2, c3, c4⟩ := HX3.out.five
      clear h1 h2 h3 hb hfit hkind e1 hke h300 hte hne hv HV HB0 HX0 HZ HX1 HF HX2
      go_wp2_with fail
      ((with_reducible refine (HBU.out _).mono ?_))
      rintro e w4 ⟨g, L, c1, bs, q, size, p0, p1, rfl, hrw, hb4, hr, hq, hs⟩
      have HI := Lib.hid (HIM.out g L c1 bs q size p0 p1 w4 hrw hr hq hs)
      have HB4 := Lib.hid (HB2.out.trans (hb4.mono HB2.out.size))
      have HX4 := Lib.hid (HX3.out.below hb4)
      clear hrw hr hq hs hb4 c0 cc1 c2 c3 c4
      go_wp2_with fail
      ((with_reducible refine HI.out.mono ?_))
      rintro e w5 ⟨rfl, hb5⟩
      have HB5 := Lib.hid (HB4.out.trans (hb5.mono HB4.out.size))
      have hx5 := HX4.out.below hb5
      obtain ⟨c0, cc1, c2, c3, c4⟩ := hx5.five
      have hlt5 := hx5.lt
      clear hb5 hx5
      go_wp2_with fail
      ((with_reducible refine (HSA.out _).mono ?_))
      rintro e w6 ⟨rfl, hb6⟩
      go_wp2
      go_ret
      exact ⟨rfl, (HB5.out.alloc HB5.out.size _).trans (hb6.mono (HB5.out.alloc HB5.out.size _).size)⟩


set_option maxHeartbeats 8000000 in
set_option maxRecDepth 100000 in
/-- At a leaf of the kind. -/
theorem lawIdentifier_leaf (base : Bool) (x : ByteArray) (h300 : x.size ≤ 300) (a : Option Addr) (c : Nat) (w w0 : World) (HB : Hid (Below w0.heap.size w0 w)) (HX : Hid (BoxAt w0.heap.size 33 x ⟨#[]⟩ 0 a 0 c w)) :
    (∀ W, Calls Tryz.prog 11 #[.agg #[.int .i64 33, .string x, .string ⟨#[]⟩, .int .u64 0, .slice a 0 c], .bool base] W (LeafBuf (TextRef x) W)) ∧
    (∀ (g L c1 : Nat) (bs : List UInt8) (q size p0 p1 : Nat) W, RowAt g L c1 bs W → rd bs 0 4 = q → LeafQ bs q size p0 p1 → (TextRef x) bs (q + p1) →
      Calls Tryz.prog 14 #[.slice (some ⟨g, 0, none⟩) L c1] W fun e w' => e = .returned (.tuple #[.agg #[.int .i64 33, .string x, .string ⟨#[]⟩, .int .u64 0, .slice none 0 0], .bool true]) ∧ Below W.heap.size W w') ∧
    (∀ W, Calls Tryz.prog 12 #[.agg #[.int .i64 33, .string x, .string ⟨#[]⟩, .int .u64 0, .slice a 0 c], .agg #[.int .i64 33, .string x, .string ⟨#[]⟩, .int .u64 0, .slice none 0 0]] W (SamePost W)) := by
  refine ⟨fun W => buf_text base 33 (by decide) x ⟨#[]⟩ h300 0 (.slice a 0 c) ⟨a, 0, c, rfl⟩ W (fun M W hM => slots_lit M base _ (textQ 1 x) 33 (by decide) x ⟨#[]⟩ 0 _ ⟨a, 0, c, rfl⟩ W hM (fun W2 h2 => literal_text M base _ 33 (by decide) x ⟨#[]⟩ 0 _ ⟨a, 0, c, rfl⟩ (by omega) W2 h2)), fun g L c1 bs q size p0 p1 W h1 h2 h3 h4 => ?_, fun W => ?_⟩
  · exact bufIdentifier_any g L c1 q size p0 p1 bs h2 h3 x h4 W h1
  · exact same_refl (.mk 33 x ⟨#[]⟩ 0 []) _ _ 0 W (.leaf (by omega) (by omega) (by unfold maxLen; omega) (by decide) a c) (.leaf (by omega) (by omega) (by unfold maxLen; omega) (by decide) none 0) (Nat.zero_le _)

set_option maxHeartbeats 8000000 in
set_option maxRecDepth 100000 in
theorem lawIdentifier_any (tr : Tr) (v : Value) (N : Nat) (w : World) (hv : NodeIn w (· < N) tr v) (hN : N ≤ w.heap.size) (base : Bool) (hT : Lib.Utf8Tabs 1 2 w) :
    Calls Tryz.prog 5 #[v, .bool base] w fun e w' => e = .returned (.bool true) ∧ Below w.heap.size w w' := by
  obtain ⟨k, x, m, n, ks, a, c, rfl, rfl⟩ := hv.form
  have hb0 : Below w.heap.size w (w.alloc (.cells #[.int .i64 k, .string x, .string m, .int .u64 n, .slice a ks.length c] 25)) := (Below.refl _ w).alloc (Nat.le_refl _) _
  have hx0 : BoxAt w.heap.size k x m n a ks.length c (w.alloc (.cells #[.int .i64 k, .string x, .string m, .int .u64 n, .slice a ks.length c] 25)) := heap_alloc_new w _
  have hz := zzFits1_any k x m n a ks.length c (w.alloc (.cells #[.int .i64 k, .string x, .string m, .int .u64 n, .slice a ks.length c] 25))
  unfold nodeU at hz ⊢
  have HV := Lib.hid hv
  have HT := Lib.hid hT
  have HB0 := Lib.hid hb0
  have HX0 := Lib.hid hx0
  have HZ := Lib.hid hz
  clear hv hT hb0 hx0 hz
  go_enter Tryz.func5, Tryz.ntmps5
  go_wp2_with fail
  ((with_reducible refine HZ.out.mono ?_))
  rintro e w1 ⟨b, rfl, _, hb1⟩
  have HB1 := Lib.hid (HB0.out.trans (hb1.mono HB0.out.size))
  have HX1 := Lib.hid (HX0.out.below hb1)
  clear hb1
  cases b with
  | false =>
    go_wp2
    go_ret
    exact ⟨rfl, HB1.out⟩
  | true =>
    have hF := buffered_any 33 (by decide) _ _ N w1 (HV.out.keep (Keep.of_below HB1.out hN)) (Nat.le_trans hN HB1.out.size) (Utf8Tabs_below HT.out HB1.out)
    unfold nodeU at hF
    have HF := Lib.hid hF
    obtain ⟨c0, cc1, c2, c3, c4⟩ := HX1.out.five
    clear hF
    go_wp2_with fail
    ((with_reducible refine HF.out.mono ?_))
    rintro e w2 ⟨b, rfl, hb, hb2⟩
    have HB2 := Lib.hid (HB1.out.trans (hb2.mono HB1.out.size))
    have HX2 := Lib.hid (HX1.out.below hb2)
    clear c0 cc1 c2 c3 c4 hb2
    cases b with
    | false =>
      go_wp2
      go_ret
      exact ⟨rfl, HB2.out⟩
    | true =>
      obtain ⟨hfit, hkind⟩ := hb rfl
      have hk : k = 33 := hkind
      obtain ⟨k', t', n', e, hke, h300, hte, hne⟩ := fits_leaf _ hfit.1 (by rw [hkind]; decide)
      injection e with e1 e2 e3 e4 e5
      have hv := HV.out
      subst e2 e3 e4 e5 hk
      rw [← e1] at hne hte
      have ht0 := hne (by decide)
      subst ht0
      have HX3 : Hid (BoxAt w.heap.size 33 x ⟨#[]⟩ 0 a 0 c w2) := HX2
      obtain ⟨h1, h2, h3⟩ := lawIdentifier_leaf base x h300 a c w2 w HB2 HX3
      have HBU := Lib.hid h1
      have HIM := Lib.hid h2
      have HSA := Lib.hid h3
      obtain ⟨c0, cc1, c2, c3, c4⟩ := HX3.out.five
      clear h1 h2 h3 hb hfit hkind e1 hke h300 hte hne hv HV HB0 HX0 HZ HX1 HF HX2
      go_wp2_with fail
      ((with_reducible refine (HBU.out _).mono ?_))
      rintro e w4 ⟨g, L, c1, bs, q, size, p0, p1, rfl, hrw, hb4, hr, hq, hs⟩
      have HI := Lib.hid (HIM.out g L c1 bs q size p0 p1 w4 hrw hr hq hs)
      have HB4 := Lib.hid (HB2.out.trans (hb4.mono HB2.out.size))
      have HX4 := Lib.hid (HX3.out.below hb4)
      clear hrw hr hq hs hb4 c0 cc1 c2 c3 c4
      go_wp2_with fail
      ((with_reducible refine HI.out.mono ?_))
      rintro e w5 ⟨rfl, hb5⟩
      have HB5 := Lib.hid (HB4.out.trans (hb5.mono HB4.out.size))
      have hx5 := HX4.out.below hb5
      obtain ⟨c0, cc1, c2, c3, c4⟩ := hx5.five
      have hlt5 := hx5.lt
      clear hb5 hx5
      go_wp2_with fail
      ((with_reducible refine (HSA.out _).mono ?_))
      rintro e w6 ⟨rfl, hb6⟩
      go_wp2
      go_ret
      exact ⟨rfl, (HB5.out.alloc HB5.out.size _).trans (hb6.mono (HB5.out.alloc HB5.out.size _).size)⟩


set_option maxHeartbeats 8000000 in
set_option maxRecDepth 100000 in
/-- At a leaf of the kind. -/
theorem lawStringLiteral_leaf (base : Bool) (x : ByteArray) (h300 : x.size ≤ 300) (a : Option Addr) (c : Nat) (w w0 : World) (HB : Hid (Below w0.heap.size w0 w)) (HX : Hid (BoxAt w0.heap.size 34 x ⟨#[]⟩ 0 a 0 c w)) :
    (∀ W, Calls Tryz.prog 11 #[.agg #[.int .i64 34, .string x, .string ⟨#[]⟩, .int .u64 0, .slice a 0 c], .bool base] W (LeafBuf (TextRef x) W)) ∧
    (∀ (g L c1 : Nat) (bs : List UInt8) (q size p0 p1 : Nat) W, RowAt g L c1 bs W → rd bs 0 4 = q → LeafQ bs q size p0 p1 → (TextRef x) bs (q + p1) →
      Calls Tryz.prog 13 #[.slice (some ⟨g, 0, none⟩) L c1] W fun e w' => e = .returned (.tuple #[.agg #[.int .i64 34, .string x, .string ⟨#[]⟩, .int .u64 0, .slice none 0 0], .bool true]) ∧ Below W.heap.size W w') ∧
    (∀ W, Calls Tryz.prog 12 #[.agg #[.int .i64 34, .string x, .string ⟨#[]⟩, .int .u64 0, .slice a 0 c], .agg #[.int .i64 34, .string x, .string ⟨#[]⟩, .int .u64 0, .slice none 0 0]] W (SamePost W)) := by
  refine ⟨fun W => buf_text base 34 (by decide) x ⟨#[]⟩ h300 0 (.slice a 0 c) ⟨a, 0, c, rfl⟩ W (fun M W hM => slots_lit M base _ (textQ 1 x) 34 (by decide) x ⟨#[]⟩ 0 _ ⟨a, 0, c, rfl⟩ W hM (fun W2 h2 => literal_text M base _ 34 (by decide) x ⟨#[]⟩ 0 _ ⟨a, 0, c, rfl⟩ (by omega) W2 h2)), fun g L c1 bs q size p0 p1 W h1 h2 h3 h4 => ?_, fun W => ?_⟩
  · exact bufStringLiteral_any g L c1 q size p0 p1 bs h2 h3 x h4 W h1
  · exact same_refl (.mk 34 x ⟨#[]⟩ 0 []) _ _ 0 W (.leaf (by omega) (by omega) (by unfold maxLen; omega) (by decide) a c) (.leaf (by omega) (by omega) (by unfold maxLen; omega) (by decide) none 0) (Nat.zero_le _)

set_option maxHeartbeats 8000000 in
set_option maxRecDepth 100000 in
theorem lawStringLiteral_any (tr : Tr) (v : Value) (N : Nat) (w : World) (hv : NodeIn w (· < N) tr v) (hN : N ≤ w.heap.size) (base : Bool) (hT : Lib.Utf8Tabs 1 2 w) :
    Calls Tryz.prog 4 #[v, .bool base] w fun e w' => e = .returned (.bool true) ∧ Below w.heap.size w w' := by
  obtain ⟨k, x, m, n, ks, a, c, rfl, rfl⟩ := hv.form
  have hb0 : Below w.heap.size w (w.alloc (.cells #[.int .i64 k, .string x, .string m, .int .u64 n, .slice a ks.length c] 25)) := (Below.refl _ w).alloc (Nat.le_refl _) _
  have hx0 : BoxAt w.heap.size k x m n a ks.length c (w.alloc (.cells #[.int .i64 k, .string x, .string m, .int .u64 n, .slice a ks.length c] 25)) := heap_alloc_new w _
  have hz := zzFits1_any k x m n a ks.length c (w.alloc (.cells #[.int .i64 k, .string x, .string m, .int .u64 n, .slice a ks.length c] 25))
  unfold nodeU at hz ⊢
  have HV := Lib.hid hv
  have HT := Lib.hid hT
  have HB0 := Lib.hid hb0
  have HX0 := Lib.hid hx0
  have HZ := Lib.hid hz
  clear hv hT hb0 hx0 hz
  go_enter Tryz.func4, Tryz.ntmps4
  go_wp2_with fail
  ((with_reducible refine HZ.out.mono ?_))
  rintro e w1 ⟨b, rfl, _, hb1⟩
  have HB1 := Lib.hid (HB0.out.trans (hb1.mono HB0.out.size))
  have HX1 := Lib.hid (HX0.out.below hb1)
  clear hb1
  cases b with
  | false =>
    go_wp2
    go_ret
    exact ⟨rfl, HB1.out⟩
  | true =>
    have hF := buffered_any 34 (by decide) _ _ N w1 (HV.out.keep (Keep.of_below HB1.out hN)) (Nat.le_trans hN HB1.out.size) (Utf8Tabs_below HT.out HB1.out)
    unfold nodeU at hF
    have HF := Lib.hid hF
    obtain ⟨c0, cc1, c2, c3, c4⟩ := HX1.out.five
    clear hF
    go_wp2_with fail
    ((with_reducible refine HF.out.mono ?_))
    rintro e w2 ⟨b, rfl, hb, hb2⟩
    have HB2 := Lib.hid (HB1.out.trans (hb2.mono HB1.out.size))
    have HX2 := Lib.hid (HX1.out.below hb2)
    clear c0 cc1 c2 c3 c4 hb2
    cases b with
    | false =>
      go_wp2
      go_ret
      exact ⟨rfl, HB2.out⟩
    | true =>
      obtain ⟨hfit, hkind⟩ := hb rfl
      have hk : k = 34 := hkind
      obtain ⟨k', t', n', e, hke, h300, hte, hne⟩ := fits_leaf _ hfit.1 (by rw [hkind]; decide)
      injection e with e1 e2 e3 e4 e5
      have hv := HV.out
      subst e2 e3 e4 e5 hk
      rw [← e1] at hne hte
      have ht0 := hne (by decide)
      subst ht0
      have HX3 : Hid (BoxAt w.heap.size 34 x ⟨#[]⟩ 0 a 0 c w2) := HX2
      obtain ⟨h1, h2, h3⟩ := lawStringLiteral_leaf base x h300 a c w2 w HB2 HX3
      have HBU := Lib.hid h1
      have HIM := Lib.hid h2
      have HSA := Lib.hid h3
      obtain ⟨c0, cc1, c2, c3, c4⟩ := HX3.out.five
      clear h1 h2 h3 hb hfit hkind e1 hke h300 hte hne hv HV HB0 HX0 HZ HX1 HF HX2
      go_wp2_with fail
      ((with_reducible refine (HBU.out _).mono ?_))
      rintro e w4 ⟨g, L, c1, bs, q, size, p0, p1, rfl, hrw, hb4, hr, hq, hs⟩
      have HI := Lib.hid (HIM.out g L c1 bs q size p0 p1 w4 hrw hr hq hs)
      have HB4 := Lib.hid (HB2.out.trans (hb4.mono HB2.out.size))
      have HX4 := Lib.hid (HX3.out.below hb4)
      clear hrw hr hq hs hb4 c0 cc1 c2 c3 c4
      go_wp2_with fail
      ((with_reducible refine HI.out.mono ?_))
      rintro e w5 ⟨rfl, hb5⟩
      have HB5 := Lib.hid (HB4.out.trans (hb5.mono HB4.out.size))
      have hx5 := HX4.out.below hb5
      obtain ⟨c0, cc1, c2, c3, c4⟩ := hx5.five
      have hlt5 := hx5.lt
      clear hb5 hx5
      go_wp2_with fail
      ((with_reducible refine (HSA.out _).mono ?_))
      rintro e w6 ⟨rfl, hb6⟩
      go_wp2
      go_ret
      exact ⟨rfl, (HB5.out.alloc HB5.out.size _).trans (hb6.mono (HB5.out.alloc HB5.out.size _).size)⟩


set_option maxHeartbeats 8000000 in
set_option maxRecDepth 100000 in
/-- At a leaf of the kind. -/
theorem lawUnsignedIntegerLiteral_leaf (base : Bool) (n : Nat) (hn64 : n < 18446744073709551616) (a : Option Addr) (c : Nat) (w w0 : World) (HB : Hid (Below w0.heap.size w0 w)) (HX : Hid (BoxAt w0.heap.size 37 ⟨#[]⟩ ⟨#[]⟩ n a 0 c w)) :
    (∀ W, Calls Tryz.prog 11 #[.agg #[.int .i64 37, .string ⟨#[]⟩, .string ⟨#[]⟩, .int .u64 n, .slice a 0 c], .bool base] W (LeafBuf ((fun bs p => rd bs p 8 = n ∧ p + 8 ≤ bs.length)) W)) ∧
    (∀ (g L c1 : Nat) (bs : List UInt8) (q size p0 p1 : Nat) W, RowAt g L c1 bs W → rd bs 0 4 = q → LeafQ bs q size p0 p1 → ((fun bs p => rd bs p 8 = n ∧ p + 8 ≤ bs.length)) bs (q + p1) →
      Calls Tryz.prog 15 #[.slice (some ⟨g, 0, none⟩) L c1] W fun e w' => e = .returned (.tuple #[.agg #[.int .i64 37, .string ⟨#[]⟩, .string ⟨#[]⟩, .int .u64 n, .slice none 0 0], .bool true]) ∧ Below W.heap.size W w') ∧
    (∀ W, Calls Tryz.prog 12 #[.agg #[.int .i64 37, .string ⟨#[]⟩, .string ⟨#[]⟩, .int .u64 n, .slice a 0 c], .agg #[.int .i64 37, .string ⟨#[]⟩, .string ⟨#[]⟩, .int .u64 n, .slice none 0 0]] W (SamePost W)) := by
  refine ⟨fun W => buf_num base 37 (by decide) ⟨#[]⟩ ⟨#[]⟩ n hn64 n (.slice a 0 c) ⟨a, 0, c, rfl⟩ W (fun M W hM => slots_lit M base _ (numQ 1 8 n) 37 (by decide) ⟨#[]⟩ ⟨#[]⟩ n _ ⟨a, 0, c, rfl⟩ W hM (fun W2 h2 => literal_num M base _ 37 (by decide) ⟨#[]⟩ ⟨#[]⟩ n _ ⟨a, 0, c, rfl⟩ W2 h2)), fun g L c1 bs q size p0 p1 W h1 h2 h3 h4 => ?_, fun W => ?_⟩
  · exact bufUnsignedIntegerLiteral_any g L c1 q size p0 p1 bs h2 h3 n h4.1 h4.2 W h1
  · exact same_refl (.mk 37 ⟨#[]⟩ ⟨#[]⟩ n []) _ _ 0 W (.leaf (by omega) (by omega) (by decide) (by decide) a c) (.leaf (by omega) (by omega) (by decide) (by decide) none 0) (Nat.zero_le _)

set_option maxHeartbeats 8000000 in
set_option maxRecDepth 100000 in
theorem lawUnsignedIntegerLiteral_any (tr : Tr) (v : Value) (N : Nat) (w : World) (hv : NodeIn w (· < N) tr v) (hN : N ≤ w.heap.size) (base : Bool) (hT : Lib.Utf8Tabs 1 2 w) :
    Calls Tryz.prog 6 #[v, .bool base] w fun e w' => e = .returned (.bool true) ∧ Below w.heap.size w w' := by
  obtain ⟨k, x, m, n, ks, a, c, rfl, rfl⟩ := hv.form
  have hb0 : Below w.heap.size w (w.alloc (.cells #[.int .i64 k, .string x, .string m, .int .u64 n, .slice a ks.length c] 25)) := (Below.refl _ w).alloc (Nat.le_refl _) _
  have hx0 : BoxAt w.heap.size k x m n a ks.length c (w.alloc (.cells #[.int .i64 k, .string x, .string m, .int .u64 n, .slice a ks.length c] 25)) := heap_alloc_new w _
  have hz := zzFits1_any k x m n a ks.length c (w.alloc (.cells #[.int .i64 k, .string x, .string m, .int .u64 n, .slice a ks.length c] 25))
  unfold nodeU at hz ⊢
  have HV := Lib.hid hv
  have HT := Lib.hid hT
  have HB0 := Lib.hid hb0
  have HX0 := Lib.hid hx0
  have HZ := Lib.hid hz
  clear hv hT hb0 hx0 hz
  go_enter Tryz.func6, Tryz.ntmps6
  go_wp2_with fail
  ((with_reducible refine HZ.out.mono ?_))
  rintro e w1 ⟨b, rfl, _, hb1⟩
  have HB1 := Lib.hid (HB0.out.trans (hb1.mono HB0.out.size))
  have HX1 := Lib.hid (HX0.out.below hb1)
  clear hb1
  cases b with
  | false =>
    go_wp2
    go_ret
    exact ⟨rfl, HB1.out⟩
  | true =>
    have hF := buffered_any 37 (by decide) _ _ N w1 (HV.out.keep (Keep.of_below HB1.out hN)) (Nat.le_trans hN HB1.out.size) (Utf8Tabs_below HT.out HB1.out)
    unfold nodeU at hF
    have HF := Lib.hid hF
    obtain ⟨c0, cc1, c2, c3, c4⟩ := HX1.out.five
    clear hF
    go_wp2_with fail
    ((with_reducible refine HF.out.mono ?_))
    rintro e w2 ⟨b, rfl, hb, hb2⟩
    have HB2 := Lib.hid (HB1.out.trans (hb2.mono HB1.out.size))
    have HX2 := Lib.hid (HX1.out.below hb2)
    clear c0 cc1 c2 c3 c4 hb2
    cases b with
    | false =>
      go_wp2
      go_ret
      exact ⟨rfl, HB2.out⟩
    | true =>
      obtain ⟨hfit, hkind⟩ := hb rfl
      have hk : k = 37 := hkind
      obtain ⟨k', t', n', e, hke, h300, hte, hne⟩ := fits_leaf _ hfit.1 (by rw [hkind]; decide)
      injection e with e1 e2 e3 e4 e5
      have hv := HV.out
      subst e2 e3 e4 e5 hk
      rw [← e1] at hne hte
      have ht0 := hte (by decide)
      subst ht0
      obtain ⟨n, rfl⟩ := Int.eq_ofNat_of_zero_le (num_bounds hv).1
      have hn64 : n < 18446744073709551616 := by have := (num_bounds hv).2; omega
      have HX3 : Hid (BoxAt w.heap.size 37 ⟨#[]⟩ ⟨#[]⟩ n a 0 c w2) := HX2
      obtain ⟨h1, h2, h3⟩ := lawUnsignedIntegerLiteral_leaf base n hn64 a c w2 w HB2 HX3
      have HBU := Lib.hid h1
      have HIM := Lib.hid h2
      have HSA := Lib.hid h3
      obtain ⟨c0, cc1, c2, c3, c4⟩ := HX3.out.five
      clear h1 h2 h3 hb hfit hkind e1 hke h300 hte hne hv HV HB0 HX0 HZ HX1 HF HX2
      go_wp2_with fail
      ((with_reducible refine (HBU.out _).mono ?_))
      rintro e w4 ⟨g, L, c1, bs, q, size, p0, p1, rfl, hrw, hb4, hr, hq, hs⟩
      have HI := Lib.hid (HIM.out g L c1 bs q size p0 p1 w4 hrw hr hq hs)
      have HB4 := Lib.hid (HB2.out.trans (hb4.mono HB2.out.size))
      have HX4 := Lib.hid (HX3.out.below hb4)
      clear hrw hr hq hs hb4 c0 cc1 c2 c3 c4
      go_wp2_with fail
      ((with_reducible refine HI.out.mono ?_))
      rintro e w5 ⟨rfl, hb5⟩
      have HB5 := Lib.hid (HB4.out.trans (hb5.mono HB4.out.size))
      have hx5 := HX4.out.below hb5
      obtain ⟨c0, cc1, c2, c3, c4⟩ := hx5.five
      have hlt5 := hx5.lt
      clear hb5 hx5
      go_wp2_with fail
      ((with_reducible refine (HSA.out _).mono ?_))
      rintro e w6 ⟨rfl, hb6⟩
      go_wp2
      go_ret
      exact ⟨rfl, (HB5.out.alloc HB5.out.size _).trans (hb6.mono (HB5.out.alloc HB5.out.size _).size)⟩


set_option maxHeartbeats 8000000 in
set_option maxRecDepth 100000 in
/-- At a leaf of the kind. -/
theorem lawFloatLiteral_leaf (base : Bool) (n : Nat) (hn64 : n < 18446744073709551616) (a : Option Addr) (c : Nat) (w w0 : World) (HB : Hid (Below w0.heap.size w0 w)) (HX : Hid (BoxAt w0.heap.size 38 ⟨#[]⟩ ⟨#[]⟩ n a 0 c w)) :
    (∀ W, Calls Tryz.prog 11 #[.agg #[.int .i64 38, .string ⟨#[]⟩, .string ⟨#[]⟩, .int .u64 n, .slice a 0 c], .bool base] W (LeafBuf ((fun bs p => rd bs p 8 = n ∧ p + 8 ≤ bs.length)) W)) ∧
    (∀ (g L c1 : Nat) (bs : List UInt8) (q size p0 p1 : Nat) W, RowAt g L c1 bs W → rd bs 0 4 = q → LeafQ bs q size p0 p1 → ((fun bs p => rd bs p 8 = n ∧ p + 8 ≤ bs.length)) bs (q + p1) →
      Calls Tryz.prog 16 #[.slice (some ⟨g, 0, none⟩) L c1] W fun e w' => e = .returned (.tuple #[.agg #[.int .i64 38, .string ⟨#[]⟩, .string ⟨#[]⟩, .int .u64 n, .slice none 0 0], .bool true]) ∧ Below W.heap.size W w') ∧
    (∀ W, Calls Tryz.prog 12 #[.agg #[.int .i64 38, .string ⟨#[]⟩, .string ⟨#[]⟩, .int .u64 n, .slice a 0 c], .agg #[.int .i64 38, .string ⟨#[]⟩, .string ⟨#[]⟩, .int .u64 n, .slice none 0 0]] W (SamePost W)) := by
  refine ⟨fun W => buf_num base 38 (by decide) ⟨#[]⟩ ⟨#[]⟩ n hn64 n (.slice a 0 c) ⟨a, 0, c, rfl⟩ W (fun M W hM => slots_lit M base _ (numQ 1 8 n) 38 (by decide) ⟨#[]⟩ ⟨#[]⟩ n _ ⟨a, 0, c, rfl⟩ W hM (fun W2 h2 => literal_num M base _ 38 (by decide) ⟨#[]⟩ ⟨#[]⟩ n _ ⟨a, 0, c, rfl⟩ W2 h2)), fun g L c1 bs q size p0 p1 W h1 h2 h3 h4 => ?_, fun W => ?_⟩
  · exact bufFloatLiteral_any g L c1 q size p0 p1 bs h2 h3 n h4.1 h4.2 W h1
  · exact same_refl (.mk 38 ⟨#[]⟩ ⟨#[]⟩ n []) _ _ 0 W (.leaf (by omega) (by omega) (by decide) (by decide) a c) (.leaf (by omega) (by omega) (by decide) (by decide) none 0) (Nat.zero_le _)

set_option maxHeartbeats 8000000 in
set_option maxRecDepth 100000 in
theorem lawFloatLiteral_any (tr : Tr) (v : Value) (N : Nat) (w : World) (hv : NodeIn w (· < N) tr v) (hN : N ≤ w.heap.size) (base : Bool) (hT : Lib.Utf8Tabs 1 2 w) :
    Calls Tryz.prog 7 #[v, .bool base] w fun e w' => e = .returned (.bool true) ∧ Below w.heap.size w w' := by
  obtain ⟨k, x, m, n, ks, a, c, rfl, rfl⟩ := hv.form
  have hb0 : Below w.heap.size w (w.alloc (.cells #[.int .i64 k, .string x, .string m, .int .u64 n, .slice a ks.length c] 25)) := (Below.refl _ w).alloc (Nat.le_refl _) _
  have hx0 : BoxAt w.heap.size k x m n a ks.length c (w.alloc (.cells #[.int .i64 k, .string x, .string m, .int .u64 n, .slice a ks.length c] 25)) := heap_alloc_new w _
  have hz := zzFits1_any k x m n a ks.length c (w.alloc (.cells #[.int .i64 k, .string x, .string m, .int .u64 n, .slice a ks.length c] 25))
  unfold nodeU at hz ⊢
  have HV := Lib.hid hv
  have HT := Lib.hid hT
  have HB0 := Lib.hid hb0
  have HX0 := Lib.hid hx0
  have HZ := Lib.hid hz
  clear hv hT hb0 hx0 hz
  go_enter Tryz.func7, Tryz.ntmps7
  go_wp2_with fail
  ((with_reducible refine HZ.out.mono ?_))
  rintro e w1 ⟨b, rfl, _, hb1⟩
  have HB1 := Lib.hid (HB0.out.trans (hb1.mono HB0.out.size))
  have HX1 := Lib.hid (HX0.out.below hb1)
  clear hb1
  cases b with
  | false =>
    go_wp2
    go_ret
    exact ⟨rfl, HB1.out⟩
  | true =>
    have hF := buffered_any 38 (by decide) _ _ N w1 (HV.out.keep (Keep.of_below HB1.out hN)) (Nat.le_trans hN HB1.out.size) (Utf8Tabs_below HT.out HB1.out)
    unfold nodeU at hF
    have HF := Lib.hid hF
    obtain ⟨c0, cc1, c2, c3, c4⟩ := HX1.out.five
    clear hF
    go_wp2_with fail
    ((with_reducible refine HF.out.mono ?_))
    rintro e w2 ⟨b, rfl, hb, hb2⟩
    have HB2 := Lib.hid (HB1.out.trans (hb2.mono HB1.out.size))
    have HX2 := Lib.hid (HX1.out.below hb2)
    clear c0 cc1 c2 c3 c4 hb2
    cases b with
    | false =>
      go_wp2
      go_ret
      exact ⟨rfl, HB2.out⟩
    | true =>
      obtain ⟨hfit, hkind⟩ := hb rfl
      have hk : k = 38 := hkind
      obtain ⟨k', t', n', e, hke, h300, hte, hne⟩ := fits_leaf _ hfit.1 (by rw [hkind]; decide)
      injection e with e1 e2 e3 e4 e5
      have hv := HV.out
      subst e2 e3 e4 e5 hk
      rw [← e1] at hne hte
      have ht0 := hte (by decide)
      subst ht0
      obtain ⟨n, rfl⟩ := Int.eq_ofNat_of_zero_le (num_bounds hv).1
      have hn64 : n < 18446744073709551616 := by have := (num_bounds hv).2; omega
      have HX3 : Hid (BoxAt w.heap.size 38 ⟨#[]⟩ ⟨#[]⟩ n a 0 c w2) := HX2
      obtain ⟨h1, h2, h3⟩ := lawFloatLiteral_leaf base n hn64 a c w2 w HB2 HX3
      have HBU := Lib.hid h1
      have HIM := Lib.hid h2
      have HSA := Lib.hid h3
      obtain ⟨c0, cc1, c2, c3, c4⟩ := HX3.out.five
      clear h1 h2 h3 hb hfit hkind e1 hke h300 hte hne hv HV HB0 HX0 HZ HX1 HF HX2
      go_wp2_with fail
      ((with_reducible refine (HBU.out _).mono ?_))
      rintro e w4 ⟨g, L, c1, bs, q, size, p0, p1, rfl, hrw, hb4, hr, hq, hs⟩
      have HI := Lib.hid (HIM.out g L c1 bs q size p0 p1 w4 hrw hr hq hs)
      have HB4 := Lib.hid (HB2.out.trans (hb4.mono HB2.out.size))
      have HX4 := Lib.hid (HX3.out.below hb4)
      clear hrw hr hq hs hb4 c0 cc1 c2 c3 c4
      go_wp2_with fail
      ((with_reducible refine HI.out.mono ?_))
      rintro e w5 ⟨rfl, hb5⟩
      have HB5 := Lib.hid (HB4.out.trans (hb5.mono HB4.out.size))
      have hx5 := HX4.out.below hb5
      obtain ⟨c0, cc1, c2, c3, c4⟩ := hx5.five
      have hlt5 := hx5.lt
      clear hb5 hx5
      go_wp2_with fail
      ((with_reducible refine (HSA.out _).mono ?_))
      rintro e w6 ⟨rfl, hb6⟩
      go_wp2
      go_ret
      exact ⟨rfl, (HB5.out.alloc HB5.out.size _).trans (hb6.mono (HB5.out.alloc HB5.out.size _).size)⟩


end Go.Proofs.YtgoklibifdhbeaaGreatDoor
