/- The law on buffers of durations: its walk. -/
import Derived.Test.YtdillheepidncaaGreatDoorBufDur
import Derived.Test.YtdillheepidncaaGreatDoorSpanBuf
import Derived.Test.YtdillheepidncaaGreatDoorSimple
import Derived.Test.YtdillheepidncaaGreatDoorBuffered
import Derived.Test.YtdillheepidncaaGreatDoorUtfTabs
namespace Go.Proofs.YtdillheepidncaaGreatDoor
open Go Go.RowKit Go.Shelf
set_option linter.unusedVariables false
set_option linter.unusedSimpArgs false

theorem simple_span (tr : Tr) (h : FitsT tr) (hk : tr.kind = 39) : SimpleT tr := by
  obtain ⟨l, e⟩ := fits_span tr h hk
  rw [e]
  unfold spanT
  refine .mk (by decide) fun y hy => ?_
  obtain ⟨x, _, rfl⟩ := List.mem_map.1 hy
  exact .mk (by decide) fun z hz => by cases hz

theorem span_list : ∀ l : List (Int × ByteArray), (∀ x ∈ l, x.2 ∈ unitTexts) → (∀ x ∈ l, 0 ≤ x.1 ∧ x.1 ≤ 18446744073709551615) → ∃ m : List MagP, m.length = l.length ∧ l.map magT = m.map MagP.tree
  | [], _, _ => ⟨[], rfl, rfl⟩
  | x :: l, hu, hn => by
    obtain ⟨m, h1, h2⟩ := span_list l (fun y hy => hu y (by simp [hy])) (fun y hy => hn y (by simp [hy]))
    obtain ⟨ix, h10, hix⟩ := unit_found x.2 (hu x (by simp))
    obtain ⟨n0, n1⟩ := hn x (by simp)
    refine ⟨⟨x.1.toNat, ix, by omega, h10⟩ :: m, by simp [h1], ?_⟩
    rw [List.map_cons, List.map_cons, h2]
    congr 1
    show Tr.mk 40 x.2 ⟨#[]⟩ x.1 [] = Tr.mk 40 (unitTexts[ix]'h10) ⟨#[]⟩ (x.1.toNat : Int) []
    rw [hix, Int.toNat_of_nonneg n0]

/-- A duration's tree. -/
theorem span_form (tr : Tr) (h : BigFits tr) (hk : tr.kind = 39) {w : World} {N : Nat} {v : Value} (hv : NodeIn w (· < N) tr v) : ∃ l : List MagP, l.length ≤ 1000 ∧ tr = .mk 39 ⟨#[]⟩ ⟨#[]⟩ 0 (l.map MagP.tree) := by
  obtain ⟨l, e⟩ := fits_span tr h.1 hk
  subst e
  obtain ⟨hu, hn⟩ := span_fits l h
  obtain ⟨a, c, e, _⟩ := hv.parts
  have hb : ∀ x ∈ l, 0 ≤ x.1 ∧ x.1 ≤ 18446744073709551615 := by
    have hv2 : NodeIn w (· < N) (spanT l) (nodeU 39 ⟨#[]⟩ ⟨#[]⟩ 0 a l.length c) := by
      have e2 : v = nodeU 39 ⟨#[]⟩ ⟨#[]⟩ 0 a l.length c := by
        rw [e]
        show nodeU 39 ⟨#[]⟩ ⟨#[]⟩ 0 a (l.map magT).length c = _
        rw [List.length_map]
      rw [← e2]
      exact hv
    exact span_in hv2
  obtain ⟨m, h1, h2⟩ := span_list l hu hb
  refine ⟨m, by omega, ?_⟩
  unfold spanT
  rw [h2]

set_option maxHeartbeats 8000000 in
set_option maxRecDepth 100000 in
theorem lawDurationLiteral_any (tr : Tr) (v : Value) (N : Nat) (w : World) (hv : NodeIn w (· < N) tr v) (hN : N ≤ w.heap.size) (base : Bool) (hT : Lib.Utf8Tabs 1 2 w) :
    Calls Tryz.prog 5 #[v, .bool base] w fun e w' => e = .returned (.bool true) ∧ Below w.heap.size w w' := by
  obtain ⟨k, x, m, n, ks, a, c, rfl, rfl⟩ := hv.form
  have hb0 : Below w.heap.size w (w.alloc (.cells #[.int .i64 k, .string x, .string m, .int .u64 n, .slice a ks.length c] 25)) := (Below.refl _ w).alloc (Nat.le_refl _) _
  have hx0 : BoxAt w.heap.size k x m n a ks.length c (w.alloc (.cells #[.int .i64 k, .string x, .string m, .int .u64 n, .slice a ks.length c] 25)) := heap_alloc_new w _
  have hz := zzFits1_any k x m n a ks.length c (w.alloc (.cells #[.int .i64 k, .string x, .string m, .int .u64 n, .slice a ks.length c] 25))
  unfold nodeU at hz ⊢
  have HV := Lib.hid hv
  have HT := Lib.hid hT
  have HB0 := Lib.hid hb0
  have HX0 := Lib.hid hx0
  have HZ := Lib.hid hz
  clear hv hT hb0 hx0 hz
  go_enter Tryz.func5, Tryz.ntmps5
  go_wp2_with fail
  ((with_reducible refine HZ.out.mono ?_))
  rintro e w1 ⟨b, rfl, _, hb1⟩
  have HB1 := Lib.hid (HB0.out.trans (hb1.mono HB0.out.size))
  have HX1 := Lib.hid (HX0.out.below hb1)
  clear hb1
  cases b with
  | false =>
    go_wp2
    go_ret
    exact ⟨rfl, HB1.out⟩
  | true =>
    have hF := bufferedS_any 39 simple_span _ _ N w1 (HV.out.keep (Keep.of_below HB1.out hN)) (Nat.le_trans hN HB1.out.size) (Utf8Tabs_below HT.out HB1.out)
    unfold nodeU at hF
    have HF := Lib.hid hF
    obtain ⟨c0, cc1, c2, c3, c4⟩ := HX1.out.five
    clear hF
    go_wp2_with fail
    ((with_reducible refine HF.out.mono ?_))
    rintro e w2 ⟨b, rfl, hb, hb2⟩
    have HB2 := Lib.hid (HB1.out.trans (hb2.mono HB1.out.size))
    have HX2 := Lib.hid (HX1.out.below hb2)
    clear c0 cc1 c2 c3 c4 hb2
    cases b with
    | false =>
      go_wp2
      go_ret
      exact ⟨rfl, HB2.out⟩
    | true =>
      obtain ⟨hfit, hkind⟩ := hb rfl
      have hk : k = 39 := hkind
      obtain ⟨l, hl, hy⟩ := span_form _ hfit hkind HV.out
      have hv := HV.out
      injection hy with e1 e2 e3 e4 e5
      have hk39 : k = 39 := hkind
      subst e2 e3 e4 e5 hk39
      have hN2 : N ≤ w2.heap.size := Nat.le_trans hN HB2.out.size
      have HV2 := Lib.hid (hv.keep (Keep.of_below HB2.out hN))
      have HBU := Lib.hid (buf_span base l hl a c N w2 hN2 HV2.out)
      have HX3 : Hid (BoxAt w.heap.size 39 ⟨#[]⟩ ⟨#[]⟩ 0 a (l.map MagP.tree).length c w2) := HX2
      obtain ⟨c0, cc1, c2, c3, c4⟩ := HX3.out.five
      clear hb hfit hkind e1 hv HB0 HX0 HZ HX1 HF HX2
      have HLL : Hid ((l.map MagP.tree).length = l.length) := Lib.hid (List.length_map ..)
      generalize (l.map MagP.tree).length = LL at *
      go_wp2_with fail
      ((with_reducible refine HBU.out.mono ?_))
      rintro e w4 ⟨g, L, c1, bs, q, size, p0, p1, rfl, hrw, hb4, hr, hq, hs⟩
      have HI := Lib.hid (bufDurationLiteral_any g L c1 q size p0 p1 bs hr hq l hl hs w4 hrw)
      have HB4 := Lib.hid (HB2.out.trans (hb4.mono HB2.out.size))
      have HX4 := Lib.hid (HX3.out.below hb4)
      clear hrw hr hq hs hb4 c0 cc1 c2 c3 c4
      go_wp2_with fail
      ((with_reducible refine HI.out.mono ?_))
      rintro e w5 ⟨ak, ck, rfl, hnode5, hb5⟩
      have HB5 := Lib.hid (HB4.out.trans (hb5.mono HB4.out.size))
      have hx5 := HX4.out.below hb5
      have hb6 : Below w5.heap.size w5 (w5.alloc (.cells #[.int .i64 39, .string ⟨#[]⟩, .string ⟨#[]⟩, .int .u64 0, .slice ak l.length ck] 25)) := (Below.refl _ w5).alloc (Nat.le_refl _) _
      have hin1 := NodeIn.mono (B' := (· < w5.heap.size)) (fun b hb => Nat.lt_of_lt_of_le hb (Nat.le_trans hN HB5.out.size)) (HV.out.keep (Keep.of_below HB5.out hN))
      have hS := same_refl _ _ _ w5.heap.size _ (hin1.keep (Keep.below hb6)) (hnode5.keep (Keep.below hb6)) hb6.size
      unfold nodeU at hS
      have HSA := Lib.hid hS
      have HB6 := Lib.hid (HB5.out.trans (hb6.mono HB5.out.size))
      obtain ⟨c0, cc1, c2, c3, c4⟩ := hx5.five
      have hlt5 := hx5.lt
      clear hb5 hx5 hb6 hin1 hS hnode5
      go_wp2_with fail
      ((with_reducible refine HSA.out.mono ?_))
      rintro e w6 ⟨rfl, hb7⟩
      go_wp2
      go_ret
      exact ⟨rfl, HB6.out.trans (hb7.mono HB6.out.size)⟩

set_option maxRecDepth 100000 in
theorem bufDurationLiteral_walk {H : Type} {enc : TypeId × Value → H} (W : World) (hL : laidMetH Tryz.prog Rows.fnBufDurationLiteralRow.laid W) (v0 : Value) (d0 : DataW H) (p0 : List MemPlace) (hv0 : Value.okWide Tryz.prog W .any 0 25 v0) (h0 : DataW.Trod enc Tryz.prog W 0 (fun _ => true) true 25 v0 d0 p0) (b : Bool) {hsz : Prop} (_ : hsz) :
    Calls Tryz.prog 5 #[v0, .bool b] W fun e W' => e = .returned (.bool true) ∧ Below W.heap.size W W' := by
  have hT : Lib.Utf8Tabs 1 2 W := utf_tabs (Lib.laidMet.reads hL (.tail _ (.tail _ (.tail _ (.tail _ (.head _)))))) (Lib.laidMet.reads hL (.tail _ (.tail _ (.tail _ (.head _)))))
  obtain ⟨t, ht⟩ := tree_arg hv0 h0
  exact lawDurationLiteral_any t v0 W.heap.size W ht (Nat.le_refl _) b hT

end Go.Proofs.YtdillheepidncaaGreatDoor
