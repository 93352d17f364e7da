/- The laws on buffers of types: their walks. -/
import Derived.Test.YtgceklahjdbipaaGreatDoorTyBoth
namespace Go.Proofs.YtgceklahjdbipaaGreatDoor
open Go Go.RowKit Go.Shelf
set_option linter.unusedVariables false
set_option linter.unusedSimpArgs false

set_option maxHeartbeats 8000000 in
set_option maxRecDepth 100000 in
theorem lawDictType_any (tr : Tr) (v : Value) (N : Nat) (w : World) (hv : NodeIn w (· < N) tr v) (hN : N ≤ w.heap.size) (base : Bool) (hT : Lib.Utf8Tabs 1 2 w) :
    Calls Tryz.prog 3 #[v, .bool base] w fun e w' => e = .returned (.bool true) ∧ Below w.heap.size w w' := by
  obtain ⟨k, x, m, n, ks, a, c, rfl, rfl⟩ := hv.form
  have hb0 : Below w.heap.size w (w.alloc (.cells #[.int .i64 k, .string x, .string m, .int .u64 n, .slice a ks.length c] 25)) := (Below.refl _ w).alloc (Nat.le_refl _) _
  have hx0 : BoxAt w.heap.size k x m n a ks.length c (w.alloc (.cells #[.int .i64 k, .string x, .string m, .int .u64 n, .slice a ks.length c] 25)) := heap_alloc_new w _
  have hz := zzFits1_any k x m n a ks.length c (w.alloc (.cells #[.int .i64 k, .string x, .string m, .int .u64 n, .slice a ks.length c] 25))
  unfold nodeU at hz ⊢
  have HV := Lib.hid hv
  have HT := Lib.hid hT
  have HB0 := Lib.hid hb0
  have HX0 := Lib.hid hx0
  have HZ := Lib.hid hz
  clear hv hT hb0 hx0 hz
  go_enter Tryz.func3, Tryz.ntmps3
  go_wp2_with fail
  ((with_reducible refine HZ.out.mono ?_))
  rintro e w1 ⟨b, rfl, _, hb1⟩
  have HB1 := Lib.hid (HB0.out.trans (hb1.mono HB0.out.size))
  have HX1 := Lib.hid (HX0.out.below hb1)
  clear hb1
  cases b with
  | false =>
    go_wp2
    go_ret
    exact ⟨rfl, HB1.out⟩
  | true =>
    have hF := bufferedL_any 48 (simple_types 48 (by decide)) _ _ N w1 (HV.out.keep (Keep.of_below HB1.out hN)) (Nat.le_trans hN HB1.out.size) (Utf8Tabs_below HT.out HB1.out)
    unfold nodeU at hF
    have HF := Lib.hid hF
    obtain ⟨c0, cc1, c2, c3, c4⟩ := HX1.out.five
    clear hF
    go_wp2_with fail
    ((with_reducible refine HF.out.mono ?_))
    rintro e w2 ⟨b, rfl, hb, hb2⟩
    have HB2 := Lib.hid (HB1.out.trans (hb2.mono HB1.out.size))
    have HX2 := Lib.hid (HX1.out.below hb2)
    clear c0 cc1 c2 c3 c4 hb2
    cases b with
    | false =>
      go_wp2
      go_ret
      exact ⟨rfl, HB2.out⟩
    | true =>
      obtain ⟨hfit, hkind⟩ := hb rfl
      have hk46 : k = 48 := hkind
      subst hk46
      have hty := fits_ty _ ⟨_, _, _, HV.out⟩ hfit.1 (by show (44 : Int) ≤ 48 ∧ (48 : Int) ≤ 53; omega)
      obtain ⟨P, sz, Q, hwr, hsz, hR⟩ := ty_made (ty_reads base) hty hfit.2
      have hcnt := hfit.2
      have hN2 : N ≤ w2.heap.size := Nat.le_trans hN HB2.out.size
      have HV2 := Lib.hid (HV.out.keep (Keep.of_below HB2.out hN))
      have hbu := buffer_made hwr (by omega) w2 N _ hN2 HV2.out
      unfold nodeU at hbu
      have HBU := Lib.hid hbu
      have HRD := Lib.hid (fun bs q (h : Q bs q) b g L c W (hW : TabAt b g L c q bs W) => hR bs q h b g L c W hW)
      obtain ⟨c0, cc1, c2, c3, c4⟩ := HX2.out.five
      clear hb hfit hkind hty hwr hsz hR hcnt hbu HB0 HX0 HZ HX1 HF
      go_wp2_with fail
      ((with_reducible refine HBU.out.mono ?_))
      rintro e w4 ⟨g, L, c1, bs, q, rfl, hrw, hb4, hr, hq4, hq⟩
      have HI := Lib.hid (bufDictType_any g L c1 q bs hr hq4 48 x m n ks (HRD.out bs q hq) w4 hrw)
      have HB4 := Lib.hid (HB2.out.trans (hb4.mono HB2.out.size))
      have HX4 := Lib.hid (HX2.out.below hb4)
      clear hrw hr hq hq4 hb4 c0 cc1 c2 c3 c4
      go_wp2_with fail
      ((with_reducible refine HI.out.mono ?_))
      rintro e w5 ⟨a5, c5, rfl, hn5, hb5⟩
      have HB5 := Lib.hid (HB4.out.trans (hb5.mono HB4.out.size))
      have hx5 := HX4.out.below hb5
      have hb6 : Below w5.heap.size w5 (w5.alloc (.cells #[.int .i64 48, .string x, .string m, .int .u64 n, .slice a5 ks.length c5] 25)) := (Below.refl _ w5).alloc (Nat.le_refl _) _
      have hin1 := NodeIn.mono (B' := (· < w5.heap.size)) (fun b hb => Nat.lt_of_lt_of_le hb (Nat.le_trans hN HB5.out.size)) (HV.out.keep (Keep.of_below HB5.out hN))
      have hS := same_refl _ _ _ w5.heap.size _ (hin1.keep (Keep.below hb6)) (hn5.keep (Keep.below hb6)) hb6.size
      unfold nodeU at hS
      have HSA := Lib.hid hS
      have HB6 := Lib.hid (HB5.out.trans (hb6.mono HB5.out.size))
      obtain ⟨c0, cc1, c2, c3, c4⟩ := hx5.five
      have hlt5 := hx5.lt
      clear hb5 hx5 hb6 hin1 hS hn5
      go_wp2_with fail
      ((with_reducible refine HSA.out.mono ?_))
      rintro e w6 ⟨rfl, hb7⟩
      go_wp2
      go_ret
      exact ⟨rfl, HB6.out.trans (hb7.mono HB6.out.size)⟩

set_option maxRecDepth 100000 in
theorem bufDictType_walk {H : Type} {enc : TypeId × Value → H} (W : World) (hL : laidMetH Tryz.prog Rows.fnBufDictTypeRow.laid W) (v0 : Value) (d0 : DataW H) (p0 : List MemPlace) (hv0 : Value.okWide Tryz.prog W .any 0 25 v0) (h0 : DataW.Trod enc Tryz.prog W 0 (fun _ => true) true 25 v0 d0 p0) (b : Bool) {hsz : Prop} (_ : hsz) :
    Calls Tryz.prog 3 #[v0, .bool b] W fun e W' => e = .returned (.bool true) ∧ Below W.heap.size W W' := by
  have hT : Lib.Utf8Tabs 1 2 W := utf_tabs (Lib.laidMet.reads hL (.tail _ (.tail _ (.tail _ (.tail _ (.head _)))))) (Lib.laidMet.reads hL (.tail _ (.tail _ (.tail _ (.head _)))))
  obtain ⟨t, ht⟩ := tree_arg hv0 h0
  exact lawDictType_any t v0 W.heap.size W ht (Nat.le_refl _) b hT

set_option maxHeartbeats 8000000 in
set_option maxRecDepth 100000 in
theorem lawParameterType_any (tr : Tr) (v : Value) (N : Nat) (w : World) (hv : NodeIn w (· < N) tr v) (hN : N ≤ w.heap.size) (base : Bool) (hT : Lib.Utf8Tabs 1 2 w) :
    Calls Tryz.prog 4 #[v, .bool base] w fun e w' => e = .returned (.bool true) ∧ Below w.heap.size w w' := by
  obtain ⟨k, x, m, n, ks, a, c, rfl, rfl⟩ := hv.form
  have hb0 : Below w.heap.size w (w.alloc (.cells #[.int .i64 k, .string x, .string m, .int .u64 n, .slice a ks.length c] 25)) := (Below.refl _ w).alloc (Nat.le_refl _) _
  have hx0 : BoxAt w.heap.size k x m n a ks.length c (w.alloc (.cells #[.int .i64 k, .string x, .string m, .int .u64 n, .slice a ks.length c] 25)) := heap_alloc_new w _
  have hz := zzFits1_any k x m n a ks.length c (w.alloc (.cells #[.int .i64 k, .string x, .string m, .int .u64 n, .slice a ks.length c] 25))
  unfold nodeU at hz ⊢
  have HV := Lib.hid hv
  have HT := Lib.hid hT
  have HB0 := Lib.hid hb0
  have HX0 := Lib.hid hx0
  have HZ := Lib.hid hz
  clear hv hT hb0 hx0 hz
  go_enter Tryz.func4, Tryz.ntmps4
  go_wp2_with fail
  ((with_reducible refine HZ.out.mono ?_))
  rintro e w1 ⟨b, rfl, _, hb1⟩
  have HB1 := Lib.hid (HB0.out.trans (hb1.mono HB0.out.size))
  have HX1 := Lib.hid (HX0.out.below hb1)
  clear hb1
  cases b with
  | false =>
    go_wp2
    go_ret
    exact ⟨rfl, HB1.out⟩
  | true =>
    have hF := bufferedL_any 52 (simple_types 52 (by decide)) _ _ N w1 (HV.out.keep (Keep.of_below HB1.out hN)) (Nat.le_trans hN HB1.out.size) (Utf8Tabs_below HT.out HB1.out)
    unfold nodeU at hF
    have HF := Lib.hid hF
    obtain ⟨c0, cc1, c2, c3, c4⟩ := HX1.out.five
    clear hF
    go_wp2_with fail
    ((with_reducible refine HF.out.mono ?_))
    rintro e w2 ⟨b, rfl, hb, hb2⟩
    have HB2 := Lib.hid (HB1.out.trans (hb2.mono HB1.out.size))
    have HX2 := Lib.hid (HX1.out.below hb2)
    clear c0 cc1 c2 c3 c4 hb2
    cases b with
    | false =>
      go_wp2
      go_ret
      exact ⟨rfl, HB2.out⟩
    | true =>
      obtain ⟨hfit, hkind⟩ := hb rfl
      have hk46 : k = 52 := hkind
      subst hk46
      have hty := fits_ty _ ⟨_, _, _, HV.out⟩ hfit.1 (by show (44 : Int) ≤ 52 ∧ (52 : Int) ≤ 53; omega)
      obtain ⟨P, sz, Q, hwr, hsz, hR⟩ := ty_made (ty_reads base) hty hfit.2
      have hcnt := hfit.2
      have hN2 : N ≤ w2.heap.size := Nat.le_trans hN HB2.out.size
      have HV2 := Lib.hid (HV.out.keep (Keep.of_below HB2.out hN))
      have hbu := buffer_made hwr (by omega) w2 N _ hN2 HV2.out
      unfold nodeU at hbu
      have HBU := Lib.hid hbu
      have HRD := Lib.hid (fun bs q (h : Q bs q) b g L c W (hW : TabAt b g L c q bs W) => hR bs q h b g L c W hW)
      obtain ⟨c0, cc1, c2, c3, c4⟩ := HX2.out.five
      clear hb hfit hkind hty hwr hsz hR hcnt hbu HB0 HX0 HZ HX1 HF
      go_wp2_with fail
      ((with_reducible refine HBU.out.mono ?_))
      rintro e w4 ⟨g, L, c1, bs, q, rfl, hrw, hb4, hr, hq4, hq⟩
      have HI := Lib.hid (bufParameterType_any g L c1 q bs hr hq4 52 x m n ks (HRD.out bs q hq) w4 hrw)
      have HB4 := Lib.hid (HB2.out.trans (hb4.mono HB2.out.size))
      have HX4 := Lib.hid (HX2.out.below hb4)
      clear hrw hr hq hq4 hb4 c0 cc1 c2 c3 c4
      go_wp2_with fail
      ((with_reducible refine HI.out.mono ?_))
      rintro e w5 ⟨a5, c5, rfl, hn5, hb5⟩
      have HB5 := Lib.hid (HB4.out.trans (hb5.mono HB4.out.size))
      have hx5 := HX4.out.below hb5
      have hb6 : Below w5.heap.size w5 (w5.alloc (.cells #[.int .i64 52, .string x, .string m, .int .u64 n, .slice a5 ks.length c5] 25)) := (Below.refl _ w5).alloc (Nat.le_refl _) _
      have hin1 := NodeIn.mono (B' := (· < w5.heap.size)) (fun b hb => Nat.lt_of_lt_of_le hb (Nat.le_trans hN HB5.out.size)) (HV.out.keep (Keep.of_below HB5.out hN))
      have hS := same_refl _ _ _ w5.heap.size _ (hin1.keep (Keep.below hb6)) (hn5.keep (Keep.below hb6)) hb6.size
      unfold nodeU at hS
      have HSA := Lib.hid hS
      have HB6 := Lib.hid (HB5.out.trans (hb6.mono HB5.out.size))
      obtain ⟨c0, cc1, c2, c3, c4⟩ := hx5.five
      have hlt5 := hx5.lt
      clear hb5 hx5 hb6 hin1 hS hn5
      go_wp2_with fail
      ((with_reducible refine HSA.out.mono ?_))
      rintro e w6 ⟨rfl, hb7⟩
      go_wp2
      go_ret
      exact ⟨rfl, HB6.out.trans (hb7.mono HB6.out.size)⟩

set_option maxRecDepth 100000 in
theorem bufParameterType_walk {H : Type} {enc : TypeId × Value → H} (W : World) (hL : laidMetH Tryz.prog Rows.fnBufParameterTypeRow.laid W) (v0 : Value) (d0 : DataW H) (p0 : List MemPlace) (hv0 : Value.okWide Tryz.prog W .any 0 25 v0) (h0 : DataW.Trod enc Tryz.prog W 0 (fun _ => true) true 25 v0 d0 p0) (b : Bool) {hsz : Prop} (_ : hsz) :
    Calls Tryz.prog 4 #[v0, .bool b] W fun e W' => e = .returned (.bool true) ∧ Below W.heap.size W W' := by
  have hT : Lib.Utf8Tabs 1 2 W := utf_tabs (Lib.laidMet.reads hL (.tail _ (.tail _ (.tail _ (.tail _ (.head _)))))) (Lib.laidMet.reads hL (.tail _ (.tail _ (.tail _ (.head _)))))
  obtain ⟨t, ht⟩ := tree_arg hv0 h0
  exact lawParameterType_any t v0 W.heap.size W ht (Nat.le_refl _) b hT

set_option maxHeartbeats 8000000 in
set_option maxRecDepth 100000 in
theorem lawPropertyType_any (tr : Tr) (v : Value) (N : Nat) (w : World) (hv : NodeIn w (· < N) tr v) (hN : N ≤ w.heap.size) (base : Bool) (hT : Lib.Utf8Tabs 1 2 w) :
    Calls Tryz.prog 5 #[v, .bool base] w fun e w' => e = .returned (.bool true) ∧ Below w.heap.size w w' := by
  obtain ⟨k, x, m, n, ks, a, c, rfl, rfl⟩ := hv.form
  have hb0 : Below w.heap.size w (w.alloc (.cells #[.int .i64 k, .string x, .string m, .int .u64 n, .slice a ks.length c] 25)) := (Below.refl _ w).alloc (Nat.le_refl _) _
  have hx0 : BoxAt w.heap.size k x m n a ks.length c (w.alloc (.cells #[.int .i64 k, .string x, .string m, .int .u64 n, .slice a ks.length c] 25)) := heap_alloc_new w _
  have hz := zzFits1_any k x m n a ks.length c (w.alloc (.cells #[.int .i64 k, .string x, .string m, .int .u64 n, .slice a ks.length c] 25))
  unfold nodeU at hz ⊢
  have HV := Lib.hid hv
  have HT := Lib.hid hT
  have HB0 := Lib.hid hb0
  have HX0 := Lib.hid hx0
  have HZ := Lib.hid hz
  clear hv hT hb0 hx0 hz
  go_enter Tryz.func5, Tryz.ntmps5
  go_wp2_with fail
  ((with_reducible refine HZ.out.mono ?_))
  rintro e w1 ⟨b, rfl, _, hb1⟩
  have HB1 := Lib.hid (HB0.out.trans (hb1.mono HB0.out.size))
  have HX1 := Lib.hid (HX0.out.below hb1)
  clear hb1
  cases b with
  | false =>
    go_wp2
    go_ret
    exact ⟨rfl, HB1.out⟩
  | true =>
    have hF := bufferedL_any 50 (simple_types 50 (by decide)) _ _ N w1 (HV.out.keep (Keep.of_below HB1.out hN)) (Nat.le_trans hN HB1.out.size) (Utf8Tabs_below HT.out HB1.out)
    unfold nodeU at hF
    have HF := Lib.hid hF
    obtain ⟨c0, cc1, c2, c3, c4⟩ := HX1.out.five
    clear hF
    go_wp2_with fail
    ((with_reducible refine HF.out.mono ?_))
    rintro e w2 ⟨b, rfl, hb, hb2⟩
    have HB2 := Lib.hid (HB1.out.trans (hb2.mono HB1.out.size))
    have HX2 := Lib.hid (HX1.out.below hb2)
    clear c0 cc1 c2 c3 c4 hb2
    cases b with
    | false =>
      go_wp2
      go_ret
      exact ⟨rfl, HB2.out⟩
    | true =>
      obtain ⟨hfit, hkind⟩ := hb rfl
      have hk46 : k = 50 := hkind
      subst hk46
      have hty := fits_ty _ ⟨_, _, _, HV.out⟩ hfit.1 (by show (44 : Int) ≤ 50 ∧ (50 : Int) ≤ 53; omega)
      obtain ⟨P, sz, Q, hwr, hsz, hR⟩ := ty_made (ty_reads base) hty hfit.2
      have hcnt := hfit.2
      have hN2 : N ≤ w2.heap.size := Nat.le_trans hN HB2.out.size
      have HV2 := Lib.hid (HV.out.keep (Keep.of_below HB2.out hN))
      have hbu := buffer_made hwr (by omega) w2 N _ hN2 HV2.out
      unfold nodeU at hbu
      have HBU := Lib.hid hbu
      have HRD := Lib.hid (fun bs q (h : Q bs q) b g L c W (hW : TabAt b g L c q bs W) => hR bs q h b g L c W hW)
      obtain ⟨c0, cc1, c2, c3, c4⟩ := HX2.out.five
      clear hb hfit hkind hty hwr hsz hR hcnt hbu HB0 HX0 HZ HX1 HF
      go_wp2_with fail
      ((with_reducible refine HBU.out.mono ?_))
      rintro e w4 ⟨g, L, c1, bs, q, rfl, hrw, hb4, hr, hq4, hq⟩
      have HI := Lib.hid (bufPropertyType_any g L c1 q bs hr hq4 50 x m n ks (HRD.out bs q hq) w4 hrw)
      have HB4 := Lib.hid (HB2.out.trans (hb4.mono HB2.out.size))
      have HX4 := Lib.hid (HX2.out.below hb4)
      clear hrw hr hq hq4 hb4 c0 cc1 c2 c3 c4
      go_wp2_with fail
      ((with_reducible refine HI.out.mono ?_))
      rintro e w5 ⟨a5, c5, rfl, hn5, hb5⟩
      have HB5 := Lib.hid (HB4.out.trans (hb5.mono HB4.out.size))
      have hx5 := HX4.out.below hb5
      have hb6 : Below w5.heap.size w5 (w5.alloc (.cells #[.int .i64 50, .string x, .string m, .int .u64 n, .slice a5 ks.length c5] 25)) := (Below.refl _ w5).alloc (Nat.le_refl _) _
      have hin1 := NodeIn.mono (B' := (· < w5.heap.size)) (fun b hb => Nat.lt_of_lt_of_le hb (Nat.le_trans hN HB5.out.size)) (HV.out.keep (Keep.of_below HB5.out hN))
      have hS := same_refl _ _ _ w5.heap.size _ (hin1.keep (Keep.below hb6)) (hn5.keep (Keep.below hb6)) hb6.size
      unfold nodeU at hS
      have HSA := Lib.hid hS
      have HB6 := Lib.hid (HB5.out.trans (hb6.mono HB5.out.size))
      obtain ⟨c0, cc1, c2, c3, c4⟩ := hx5.five
      have hlt5 := hx5.lt
      clear hb5 hx5 hb6 hin1 hS hn5
      go_wp2_with fail
      ((with_reducible refine HSA.out.mono ?_))
      rintro e w6 ⟨rfl, hb7⟩
      go_wp2
      go_ret
      exact ⟨rfl, HB6.out.trans (hb7.mono HB6.out.size)⟩

set_option maxRecDepth 100000 in
theorem bufPropertyType_walk {H : Type} {enc : TypeId × Value → H} (W : World) (hL : laidMetH Tryz.prog Rows.fnBufPropertyTypeRow.laid W) (v0 : Value) (d0 : DataW H) (p0 : List MemPlace) (hv0 : Value.okWide Tryz.prog W .any 0 25 v0) (h0 : DataW.Trod enc Tryz.prog W 0 (fun _ => true) true 25 v0 d0 p0) (b : Bool) {hsz : Prop} (_ : hsz) :
    Calls Tryz.prog 5 #[v0, .bool b] W fun e W' => e = .returned (.bool true) ∧ Below W.heap.size W W' := by
  have hT : Lib.Utf8Tabs 1 2 W := utf_tabs (Lib.laidMet.reads hL (.tail _ (.tail _ (.tail _ (.tail _ (.head _)))))) (Lib.laidMet.reads hL (.tail _ (.tail _ (.tail _ (.head _)))))
  obtain ⟨t, ht⟩ := tree_arg hv0 h0
  exact lawPropertyType_any t v0 W.heap.size W ht (Nat.le_refl _) b hT

set_option maxHeartbeats 8000000 in
set_option maxRecDepth 100000 in
theorem lawTypeExpression_any (tr : Tr) (v : Value) (N : Nat) (w : World) (hv : NodeIn w (· < N) tr v) (hN : N ≤ w.heap.size) (base : Bool) (hT : Lib.Utf8Tabs 1 2 w) :
    Calls Tryz.prog 6 #[v, .bool base] w fun e w' => e = .returned (.bool true) ∧ Below w.heap.size w w' := by
  obtain ⟨k, x, m, n, ks, a, c, rfl, rfl⟩ := hv.form
  have hb0 : Below w.heap.size w (w.alloc (.cells #[.int .i64 k, .string x, .string m, .int .u64 n, .slice a ks.length c] 25)) := (Below.refl _ w).alloc (Nat.le_refl _) _
  have hx0 : BoxAt w.heap.size k x m n a ks.length c (w.alloc (.cells #[.int .i64 k, .string x, .string m, .int .u64 n, .slice a ks.length c] 25)) := heap_alloc_new w _
  have hz := zzFits1_any k x m n a ks.length c (w.alloc (.cells #[.int .i64 k, .string x, .string m, .int .u64 n, .slice a ks.length c] 25))
  unfold nodeU at hz ⊢
  have HV := Lib.hid hv
  have HT := Lib.hid hT
  have HB0 := Lib.hid hb0
  have HX0 := Lib.hid hx0
  have HZ := Lib.hid hz
  clear hv hT hb0 hx0 hz
  go_enter Tryz.func6, Tryz.ntmps6
  go_wp2_with fail
  ((with_reducible refine HZ.out.mono ?_))
  rintro e w1 ⟨b, rfl, _, hb1⟩
  have HB1 := Lib.hid (HB0.out.trans (hb1.mono HB0.out.size))
  have HX1 := Lib.hid (HX0.out.below hb1)
  clear hb1
  cases b with
  | false =>
    go_wp2
    go_ret
    exact ⟨rfl, HB1.out⟩
  | true =>
    have hF := bufferedL_any 44 (simple_types 44 (by decide)) _ _ N w1 (HV.out.keep (Keep.of_below HB1.out hN)) (Nat.le_trans hN HB1.out.size) (Utf8Tabs_below HT.out HB1.out)
    unfold nodeU at hF
    have HF := Lib.hid hF
    obtain ⟨c0, cc1, c2, c3, c4⟩ := HX1.out.five
    clear hF
    go_wp2_with fail
    ((with_reducible refine HF.out.mono ?_))
    rintro e w2 ⟨b, rfl, hb, hb2⟩
    have HB2 := Lib.hid (HB1.out.trans (hb2.mono HB1.out.size))
    have HX2 := Lib.hid (HX1.out.below hb2)
    clear c0 cc1 c2 c3 c4 hb2
    cases b with
    | false =>
      go_wp2
      go_ret
      exact ⟨rfl, HB2.out⟩
    | true =>
      obtain ⟨hfit, hkind⟩ := hb rfl
      have hk46 : k = 44 := hkind
      subst hk46
      have hty := fits_ty _ ⟨_, _, _, HV.out⟩ hfit.1 (by show (44 : Int) ≤ 44 ∧ (44 : Int) ≤ 53; omega)
      obtain ⟨P, sz, Q, hwr, hsz, hR⟩ := ty_made (ty_reads base) hty hfit.2
      have hcnt := hfit.2
      have hN2 : N ≤ w2.heap.size := Nat.le_trans hN HB2.out.size
      have HV2 := Lib.hid (HV.out.keep (Keep.of_below HB2.out hN))
      have hbu := buffer_made hwr (by omega) w2 N _ hN2 HV2.out
      unfold nodeU at hbu
      have HBU := Lib.hid hbu
      have HRD := Lib.hid (fun bs q (h : Q bs q) b g L c W (hW : TabAt b g L c q bs W) => hR bs q h b g L c W hW)
      obtain ⟨c0, cc1, c2, c3, c4⟩ := HX2.out.five
      clear hb hfit hkind hty hwr hsz hR hcnt hbu HB0 HX0 HZ HX1 HF
      go_wp2_with fail
      ((with_reducible refine HBU.out.mono ?_))
      rintro e w4 ⟨g, L, c1, bs, q, rfl, hrw, hb4, hr, hq4, hq⟩
      have HI := Lib.hid (bufTypeExpression_any g L c1 q bs hr hq4 44 x m n ks (HRD.out bs q hq) w4 hrw)
      have HB4 := Lib.hid (HB2.out.trans (hb4.mono HB2.out.size))
      have HX4 := Lib.hid (HX2.out.below hb4)
      clear hrw hr hq hq4 hb4 c0 cc1 c2 c3 c4
      go_wp2_with fail
      ((with_reducible refine HI.out.mono ?_))
      rintro e w5 ⟨a5, c5, rfl, hn5, hb5⟩
      have HB5 := Lib.hid (HB4.out.trans (hb5.mono HB4.out.size))
      have hx5 := HX4.out.below hb5
      have hb6 : Below w5.heap.size w5 (w5.alloc (.cells #[.int .i64 44, .string x, .string m, .int .u64 n, .slice a5 ks.length c5] 25)) := (Below.refl _ w5).alloc (Nat.le_refl _) _
      have hin1 := NodeIn.mono (B' := (· < w5.heap.size)) (fun b hb => Nat.lt_of_lt_of_le hb (Nat.le_trans hN HB5.out.size)) (HV.out.keep (Keep.of_below HB5.out hN))
      have hS := same_refl _ _ _ w5.heap.size _ (hin1.keep (Keep.below hb6)) (hn5.keep (Keep.below hb6)) hb6.size
      unfold nodeU at hS
      have HSA := Lib.hid hS
      have HB6 := Lib.hid (HB5.out.trans (hb6.mono HB5.out.size))
      obtain ⟨c0, cc1, c2, c3, c4⟩ := hx5.five
      have hlt5 := hx5.lt
      clear hb5 hx5 hb6 hin1 hS hn5
      go_wp2_with fail
      ((with_reducible refine HSA.out.mono ?_))
      rintro e w6 ⟨rfl, hb7⟩
      go_wp2
      go_ret
      exact ⟨rfl, HB6.out.trans (hb7.mono HB6.out.size)⟩

set_option maxRecDepth 100000 in
theorem bufTypeExpression_walk {H : Type} {enc : TypeId × Value → H} (W : World) (hL : laidMetH Tryz.prog Rows.fnBufTypeExpressionRow.laid W) (v0 : Value) (d0 : DataW H) (p0 : List MemPlace) (hv0 : Value.okWide Tryz.prog W .any 0 25 v0) (h0 : DataW.Trod enc Tryz.prog W 0 (fun _ => true) true 25 v0 d0 p0) (b : Bool) {hsz : Prop} (_ : hsz) :
    Calls Tryz.prog 6 #[v0, .bool b] W fun e W' => e = .returned (.bool true) ∧ Below W.heap.size W W' := by
  have hT : Lib.Utf8Tabs 1 2 W := utf_tabs (Lib.laidMet.reads hL (.tail _ (.tail _ (.tail _ (.tail _ (.head _)))))) (Lib.laidMet.reads hL (.tail _ (.tail _ (.tail _ (.head _)))))
  obtain ⟨t, ht⟩ := tree_arg hv0 h0
  exact lawTypeExpression_any t v0 W.heap.size W ht (Nat.le_refl _) b hT

end Go.Proofs.YtgceklahjdbipaaGreatDoor
