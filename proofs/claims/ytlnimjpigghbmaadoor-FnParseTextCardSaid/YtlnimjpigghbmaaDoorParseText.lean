/- FnParseText: the walks of ParseText and of the law. -/
import Derived.Test.YtlnimjpigghbmaaDoorNext
import Derived.Test.YtlnimjpigghbmaaDoorQuoted
namespace Go.Proofs.YtlnimjpigghbmaaDoor
open Go Go.RowKit Go.Shelf

theorem below_drewN {B : Nat} {a w : World} (h : Below B a w) (n : Nat) : Below B a (w.drewN n) := h.trans ⟨rfl, rfl, rfl, Nat.le_refl _, fun _ _ => rfl⟩

set_option maxHeartbeats 400000 in
theorem parse_any (T : ByteArray) (e : Bool) (l : List UInt8) (hq : T.data.toList = qL e l) (hv : Lib.validD l = true) (hsz : T.size ≤ 10000) (w : World) (hT : Lib.Utf8Tabs 0 1 w) :
    Calls Tryd.prog 19 #[.string T] w fun r w' => r = .returned (.tuple #[.string ⟨l.toArray⟩, .nilIface]) ∧ Below w.heap.size w w' := by
  have HT := Lib.hid hT
  have HQ := Lib.hid hq
  have HV := Lib.hid hv
  have hTl : (qL e l).length = T.size := by rw [← hq]; simp
  clear hT hq hv
  have hw0 : Below w.heap.size w (w.alloc (.cells #[.pointer none, .slice none 0 0] 68)) := (Below.refl _ w).alloc (Nat.le_refl _) _
  have hbk : (w.alloc (.cells #[.pointer none, .slice none 0 0] 68)).heap[w.heap.size]? = some (.cells #[.pointer none, .slice none 0 0] 68 (0, 0)) := heap_alloc_new w _
  have H0 := Lib.hid hw0
  have HK := Lib.hid hbk
  clear hw0 hbk
  go_enter Tryd.func19, Tryd.ntmps19
  go_wp2_with fail
  refine (Tryd.Builder_Grow_fresh w.heap.size w.heap.size T.size _ (Nat.le_refl _) HK.out (by simp) (by omega)).mono ?_
  rintro r w1 ⟨rfl, hB1, hb1⟩
  have hb01 := H0.out.trans hb1
  have hB1' : Lib.IsBuilderF 68 5 w.heap.size w.heap.size (Lib.byteCells []) w1 := .inr (.of hB1)
  have HB1 := Lib.hid hB1'
  have HB01 := Lib.hid hb01
  clear hB1 hB1' hb1 hb01
  go_wp2
  go_loopw [6] (fun i wr => ∃ (p r : List UInt8), Hid (p ++ r = l) ∧ i = .int .i64 ((qL e p).length : Nat) ∧ Hid (Lib.validD r = true) ∧ Hid (Lib.IsBuilderF 68 5 w.heap.size w.heap.size (Lib.byteCells p) wr) ∧ Below w.heap.size w wr) (fun i _ => T.size - (intOf i).toNat)
  case atStart => exact ⟨[], l, Lib.hid rfl, rfl, HV, HB1, HB01.out⟩
  case round =>
    obtain ⟨p, r, hp, rfl, hvr, hB, hb⟩ := hrel
    have hql : qL e p ++ qL e r = qL e l := by rw [← qL_append, hp.out]
    have hlen := congrArg List.length hql
    rw [List.length_append, hTl] at hlen
    by_cases hr : r = []
    · subst hr
      have hpl : p = l := by have := hp.out; simpa using this
      rw [qL_nil, List.length_nil, Nat.add_zero] at hlen
      have hge : ¬ ((qL e p).length : Int) < T.size := by omega
      have hlt := isb_lt hB.out
      clear hql
      go_wp2_with fail
      refine (Tryd.Builder_String_any_k w.heap.size w.heap.size p _ hB.out (Nat.le_of_lt hlt)).mono ?_
      rintro e2 w2 ⟨rfl, _, hb2, _⟩
      go_wp2
      refine bodyPost_ret (v := .tuple #[.string ⟨l.toArray⟩, .nilIface]) (by simp [results, Tryd.results19, go_sem]) rfl ⟨rfl, hb.trans hb2⟩
    · obtain ⟨n, hn0, hn1, hst, hvn⟩ := step_of e r hr hvr.out
      have hlt := isb_lt hB.out
      have hqr : qL e (r.take n) ++ qL e (r.drop n) = qL e r := by rw [← qL_append, List.take_append_drop]
      have hlr := congrArg List.length hqr
      rw [List.length_append] at hlr
      have hpos : 1 ≤ (qL e (r.take n)).length := by
        cases hrt : r.take n with
        | nil =>
          have := congrArg List.length hrt
          rw [List.length_take, List.length_nil] at this
          omega
        | cons c t =>
          rw [qL_cons, List.length_append]
          have := qb_ne e c
          omega
      have hless : ((qL e p).length : Int) < T.size := by omega
      have hless' : ((qL e p).length : Int) ≤ T.size := by omega
      have hx : (T.extract (qL e p).length T.size).data.toList = qL e r := by
        rw [extract_tail, HQ.out, ← hql, List.drop_append_of_le_length (Nat.le_refl _), List.drop_length, List.nil_append]
      have hxs : (T.extract (qL e p).length T.size).size ≤ 10000 := by simp; omega
      have hpl : p.length ≤ 10000 := by
        have : ∀ q : List UInt8, q.length ≤ (qL e q).length := fun q => by
          induction q with
          | nil => simp
          | cons c t ih => rw [qL_cons, List.length_append, List.length_cons]; have := qb_ne e c; omega
        have := this p
        omega
      rw [← hx] at hst
      generalize hgx : T.extract (qL e p).length T.size = x at hst hxs hx
      generalize hm : (qL e (r.take n)).length = m at hst hlr hpos
      have hwr : IntKind.i64.wrap (((qL e p).length : Int) + (m : Int)) = (((qL e p).length + m : Nat) : Int) := by
        rw [IntKind.wrap_i64]; omega
      have hN := next_any x _ m hst w.heap.size (Lib.byteCells p) wr hB.out (by rw [Lib.byteCells, List.length_map]; omega) hxs (Utf8Tabs_below HT.out hb)
      have HN := Lib.hid hN
      clear hst hx hql hqr hN
      go_wp2_with fail
      with_reducible refine HN.out.mono ?_
      rintro e2 w2 ⟨rfl, hB2, hb2⟩
      go_wp2
      go_roundw
      case rel =>
        refine ⟨p ++ r.take n, r.drop n, Lib.hid ?_, ?_, Lib.hid hvn, Lib.hid ?_, hb.trans hb2⟩
        · rw [List.append_assoc, List.take_append_drop, hp.out]
        · rw [qL_append, List.length_append, hm]; rfl
        · rw [Lib.byteCells, List.map_append]; exact hB2
      case measure => simp [intOf]; omega

set_option maxHeartbeats 2000000 in
theorem implParse_any (T : ByteArray) (e : Bool) (l : List UInt8) (hq : T.data.toList = qL e l) (hv : Lib.validD l = true) (hsz : T.size ≤ 10000) (w : World) (hT : Lib.Utf8Tabs 0 1 w) :
    Calls Tryd.prog 12 #[.string T] w fun r w' => r = .returned (.tuple #[.string ⟨l.toArray⟩, .bool true]) ∧ Below w.heap.size w w' := by
  have HP := Lib.hid (parse_any T e l hq hv hsz w hT)
  clear hT hq hv
  go_enter Tryd.func12, Tryd.ntmps12
  go_wp2_with fail
  refine HP.out.mono ?_
  rintro e2 w2 ⟨rfl, hb2⟩
  go_wp2
  go_quiet (fail)
  go_wp2
  refine bodyPost_ret (v := .tuple #[.string ⟨l.toArray⟩, .bool true]) (by simp [results, Tryd.results12, go_sem]) rfl ⟨rfl, ?_⟩
  exact below_drewN hb2 _

theorem parse_awake (w : World) (hT : Lib.Utf8Tabs 0 1 w) :
    Calls Tryd.prog 12 #[.string ⟨#[97]⟩] w fun r w' => r = .returned (.tuple #[.string ⟨#[97]⟩, .bool true]) ∧ Below w.heap.size w w' :=
  implParse_any ⟨#[97]⟩ false [97] rfl (by rw [Lib.validD_cons _ _ (by decide)]; rfl) (by decide) w hT

set_option maxHeartbeats 2000000 in
theorem parseText_great (s : ByteArray) (e : Bool) (w : World) (h : 2147483647 < s.size) :
    Calls Tryd.prog 6 #[.string s, .bool e] w fun e w' => e = .returned (.bool true) ∧ Below w.heap.size w w' := by
  go_enter Tryd.func6, Tryd.ntmps6
  go_wp2
  go_ret
  exact ⟨rfl, Below.refl _ _⟩

set_option maxHeartbeats 2000000 in
theorem parseText_small (s : ByteArray) (e : Bool) (w : World) (h : ¬ 2147483647 < s.size) (hT : Lib.Utf8Tabs 0 1 w) :
    Calls Tryd.prog 6 #[.string s, .bool e] w fun e w' => e = .returned (.bool true) ∧ Below w.heap.size w w' := by
  have HT := Lib.hid hT
  clear hT
  go_enter Tryd.func6, Tryd.ntmps6
  go_wp2_with fail
  refine (parse_awake _ HT.out).mono ?_
  rintro r w1 ⟨rfl, hb1⟩
  by_cases hs : 300 < s.size
  · go_wp2
    go_ret
    exact ⟨rfl, hb1⟩
  go_wp2_with fail
  refine (Tryd.utf8_ValidString s _ (by omega) (Utf8Tabs_below HT.out hb1)).mono ?_
  rintro r w2 ⟨rfl, hb2⟩
  have hb12 := hb1.trans (hb2.mono hb1.size)
  cases hv : Lib.validD s.data.toList with
  | false =>
    go_wp2
    go_ret
    exact ⟨rfl, hb12⟩
  | true =>
    have HV := Lib.hid hv
    clear hv
    go_wp2_with fail
    refine (quoted_any s e (by omega) _).mono ?_
    rintro r w3 ⟨rfl, hb3⟩
    have hb13 := hb12.trans (hb3.mono hb12.size)
    have hqs : (⟨(qL e s.data.toList).toArray⟩ : ByteArray).size ≤ 10000 := by
      have h1 := qL_le e s.data.toList
      have h2 : s.data.toList.length = s.size := by simp
      show ((qL e s.data.toList).toArray).size ≤ 10000
      simp only [List.size_toArray]
      omega
    go_wp2_with fail
    refine (implParse_any ⟨(qL e s.data.toList).toArray⟩ e s.data.toList rfl HV.out hqs _ (Utf8Tabs_below HT.out hb13)).mono ?_
    rintro r w4 ⟨rfl, hb4⟩
    have hb14 := hb13.trans (hb4.mono hb13.size)
    go_wp2
    go_ret
    exact ⟨rfl, hb14⟩

theorem parseText_walk (W : World) (hL : laidMetH Tryd.prog Rows.fnParseTextRow.laid W) (s : ByteArray) (_ : s.size ≤ 140737488351232) (e : Bool) :
    Calls Tryd.prog 6 #[.string s, .bool e] W fun e W' => e = .returned (.bool true) ∧ Below W.heap.size W W' := by
  have hT : Lib.Utf8Tabs 0 1 W := utf_tabs (Lib.laidMet.reads hL (.tail _ (.head _))) (Lib.laidMet.reads hL (.head _))
  by_cases h : 2147483647 < s.size
  · exact parseText_great s e W h
  · exact parseText_small s e W h hT

end Go.Proofs.YtlnimjpigghbmaaDoor
