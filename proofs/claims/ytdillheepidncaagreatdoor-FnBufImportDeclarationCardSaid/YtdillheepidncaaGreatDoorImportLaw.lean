/- The law on buffers of imports: its walk. -/
import Derived.Test.YtdillheepidncaaGreatDoorBufImport
import Derived.Test.YtdillheepidncaaGreatDoorUtfTabs
namespace Go.Proofs.YtdillheepidncaaGreatDoor
open Go Go.RowKit Go.Shelf
set_option linter.unusedVariables false
set_option linter.unusedSimpArgs false

set_option maxHeartbeats 8000000 in
set_option maxRecDepth 100000 in
theorem lawImport_any (tr : Tr) (v : Value) (N : Nat) (w : World) (hv : NodeIn w (· < N) tr v) (hN : N ≤ w.heap.size) (base : Bool) (hT : Lib.Utf8Tabs 1 2 w) :
    Calls Tryz.prog 4 #[v, .bool base] w fun e w' => e = .returned (.bool true) ∧ Below w.heap.size w w' := by
  obtain ⟨k, x, m, n, ks, a, c, rfl, rfl⟩ := hv.form
  have hb0 : Below w.heap.size w (w.alloc (.cells #[.int .i64 k, .string x, .string m, .int .u64 n, .slice a ks.length c] 25)) := (Below.refl _ w).alloc (Nat.le_refl _) _
  have hx0 : BoxAt w.heap.size k x m n a ks.length c (w.alloc (.cells #[.int .i64 k, .string x, .string m, .int .u64 n, .slice a ks.length c] 25)) := heap_alloc_new w _
  have hz := zzFits1_any k x m n a ks.length c (w.alloc (.cells #[.int .i64 k, .string x, .string m, .int .u64 n, .slice a ks.length c] 25))
  unfold nodeU at hz ⊢
  have HV := Lib.hid hv
  have HT := Lib.hid hT
  have HB0 := Lib.hid hb0
  have HX0 := Lib.hid hx0
  have HZ := Lib.hid hz
  clear hv hT hb0 hx0 hz
  go_enter Tryz.func4, Tryz.ntmps4
  go_wp2_with fail
  ((with_reducible refine HZ.out.mono ?_))
  rintro e w1 ⟨b, rfl, _, hb1⟩
  have HB1 := Lib.hid (HB0.out.trans (hb1.mono HB0.out.size))
  have HX1 := Lib.hid (HX0.out.below hb1)
  clear hb1
  cases b with
  | false =>
    go_wp2
    go_ret
    exact ⟨rfl, HB1.out⟩
  | true =>
    have hF := bufferedS_any 5 simple_import _ _ N w1 (HV.out.keep (Keep.of_below HB1.out hN)) (Nat.le_trans hN HB1.out.size) (Utf8Tabs_below HT.out HB1.out)
    unfold nodeU at hF
    have HF := Lib.hid hF
    obtain ⟨c0, cc1, c2, c3, c4⟩ := HX1.out.five
    clear hF
    go_wp2_with fail
    ((with_reducible refine HF.out.mono ?_))
    rintro e w2 ⟨b, rfl, hb, hb2⟩
    have HB2 := Lib.hid (HB1.out.trans (hb2.mono HB1.out.size))
    have HX2 := Lib.hid (HX1.out.below hb2)
    clear c0 cc1 c2 c3 c4 hb2
    cases b with
    | false =>
      go_wp2
      go_ret
      exact ⟨rfl, HB2.out⟩
    | true =>
      obtain ⟨hfit, hkind⟩ := hb rfl
      have hk : k = 5 := hkind
      obtain ⟨x, y, hx300, h300, hy⟩ := import_form _ hfit.1 hkind
      have hv := HV.out
      injection hy with e1 e2 e3 e4 e5
      have hk5 : k = 5 := hkind
      subst e2 e3 e4 e5 hk5
      have hN2 : N ≤ w2.heap.size := Nat.le_trans hN HB2.out.size
      have HV2 := Lib.hid (hv.keep (Keep.of_below HB2.out hN))
      have HBU : Hid (Calls Tryz.prog 9 #[.agg #[.int .i64 5, .string ⟨#[]⟩, .string ⟨#[]⟩, .int .u64 0, .slice a 2 c], .bool base] w2 (NodeBuf (ImportT x y) w2)) :=
        Lib.hid (import_buf base x hx300 y h300 a c N w2 hN2 HV2.out)
      have HX3 : Hid (BoxAt w.heap.size 5 ⟨#[]⟩ ⟨#[]⟩ 0 a 2 c w2) := HX2
      have HH3 := Lib.hid h300
      have HH4 := Lib.hid hx300
      obtain ⟨c0, cc1, c2, c3, c4⟩ := HX3.out.five
      clear hb hfit hkind e1 h300 hx300 hv HB0 HX0 HZ HX1 HF HX2
      go_wp2_with fail
      ((with_reducible refine HBU.out.mono ?_))
      rintro e w4 ⟨g, L, c1, bs, q, rfl, hrw, hb4, hr, size, p0, p1, p2, hq, hs1, hs2, hs3, hs4⟩
      have HI := Lib.hid (bufImport_any g L c1 q size p0 p1 p2 bs hr hq x y hs1 hs2 hs3 hs4 w4 hrw)
      have HB4 := Lib.hid (HB2.out.trans (hb4.mono HB2.out.size))
      have HX4 := Lib.hid (HX3.out.below hb4)
      clear hrw hr hq hs1 hs4 hb4 c0 cc1 c2 c3 c4
      go_wp2_with fail
      ((with_reducible refine HI.out.mono ?_))
      rintro e w5 ⟨gk, rfl, hgk, hkrow, hb5⟩
      have HB5 := Lib.hid (HB4.out.trans (hb5.mono HB4.out.size))
      have hx5 := HX4.out.below hb5
      have hb6 : Below w5.heap.size w5 (w5.alloc (.cells #[.int .i64 5, .string ⟨#[]⟩, .string ⟨#[]⟩, .int .u64 0, .slice (some ⟨gk, 0, none⟩) 2 2] 25)) := (Below.refl _ w5).alloc (Nat.le_refl _) _
      have hin1 := NodeIn.mono (B' := (· < w5.heap.size)) (fun b hb => Nat.lt_of_lt_of_le hb (Nat.le_trans hN HB5.out.size)) (HV.out.keep (Keep.of_below HB5.out hN))
      have hin2 := import_nodeIn (asKind x) (asKind_ok x) (asText x) y (by have := HH4.out; unfold maxLen; omega) (by have := HH3.out; unfold maxLen; omega) hkrow
      have hS := same_refl _ _ _ w5.heap.size _ (hin1.keep (Keep.below hb6)) (hin2.keep (Keep.below hb6)) hb6.size
      unfold nodeU at hS
      simp only [List.length_cons, List.length_nil, Nat.zero_add, Nat.reduceAdd] at hS
      have HSA := Lib.hid hS
      have HB6 := Lib.hid (HB5.out.trans (hb6.mono HB5.out.size))
      obtain ⟨c0, cc1, c2, c3, c4⟩ := hx5.five
      have hlt5 := hx5.lt
      clear hb5 hx5 hb6 hin1 hin2 hS hkrow hgk
      go_wp2_with fail
      ((with_reducible refine HSA.out.mono ?_))
      rintro e w6 ⟨rfl, hb7⟩
      go_wp2
      go_ret
      exact ⟨rfl, HB6.out.trans (hb7.mono HB6.out.size)⟩

set_option maxRecDepth 100000 in
theorem bufImportDeclaration_walk {H : Type} {enc : TypeId × Value → H} (W : World) (hL : laidMetH Tryz.prog Rows.fnBufImportDeclarationRow.laid W) (v0 : Value) (d0 : DataW H) (p0 : List MemPlace) (hv0 : Value.okWide Tryz.prog W .any 0 25 v0) (h0 : DataW.Trod enc Tryz.prog W 0 (fun _ => true) true 25 v0 d0 p0) (b : Bool) {hsz : Prop} (_ : hsz) :
    Calls Tryz.prog 4 #[v0, .bool b] W fun e W' => e = .returned (.bool true) ∧ Below W.heap.size W W' := by
  have hT : Lib.Utf8Tabs 1 2 W := utf_tabs (Lib.laidMet.reads hL (.tail _ (.head _))) (Lib.laidMet.reads hL (.head _))
  obtain ⟨t, ht⟩ := tree_arg hv0 h0
  exact lawImport_any t v0 W.heap.size W ht (Nat.le_refl _) b hT

end Go.Proofs.YtdillheepidncaaGreatDoor
