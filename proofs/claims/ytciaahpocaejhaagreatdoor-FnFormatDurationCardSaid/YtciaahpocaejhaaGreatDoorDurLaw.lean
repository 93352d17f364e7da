/- FnFormatDuration: the walk of the law. -/
import Derived.Test.YtciaahpocaejhaaGreatDoorDurPure
import Derived.Test.YtciaahpocaejhaaGreatDoorSeq
import Derived.Test.YtciaahpocaejhaaGreatDoorRegexpLaw
namespace Go.Proofs.YtciaahpocaejhaaGreatDoor
open Go Go.RowKit Go.Shelf
set_option linter.unusedVariables false
set_option linter.unusedSimpArgs false

theorem itoa_one : Lib.itoa 1 = [49] := by
  unfold Lib.itoa
  rw [if_neg (by decide)]
  show Lib.decDigits 1 = [49]
  rw [decDigits_step]
  rfl

theorem dur_awake (w : World) (htab : Lib.TabIs Tryz.prog w "internal/strconv.uint64pow10" .u64 Lib.pow10Tab) :
    Calls Tryz.prog 14 #[.slice (some ⟨w.heap.size, 0, none⟩) 1 1, .slice (some ⟨w.heap.size + 1, 0, none⟩) 1 1] ((w.alloc (.cells #[.int .i64 1] 2)).alloc (.cells #[.string ⟨#[104]⟩] 9))
      fun e w' => e = .returned (.string ⟨#[49, 104]⟩) ∧ Below w.heap.size w w' := by
  have hb0 : Below w.heap.size w ((w.alloc (.cells #[.int .i64 1] 2)).alloc (.cells #[.string ⟨#[104]⟩] 9)) := ((Below.refl _ w).alloc (Nat.le_refl _) _).alloc (by simp) _
  have h0 : ((w.alloc (.cells #[.int .i64 1] 2)).alloc (.cells #[.string ⟨#[104]⟩] 9)).heap[w.heap.size]? = some (.cells #[.int .i64 1] 2 (0, 0)) := (Below.heap_alloc _ _ _ (by simp)).trans (heap_alloc_new w _)
  have h1 : ((w.alloc (.cells #[.int .i64 1] 2)).alloc (.cells #[.string ⟨#[104]⟩] 9)).heap[w.heap.size + 1]? = some (.cells #[.string ⟨#[104]⟩] 9 (0, 0)) := row_two w _ _
  refine (formatDuration_any w.heap.size 0 1 (w.heap.size + 1) 0 1 [(1, ⟨#[104]⟩)] ?_ (by decide) (by simp) _ ⟨by simp; omega, by simp, fun j hj => ?_⟩ (tab_below htab hb0)).mono ?_
  · intro x hx
    simp at hx
    subst hx
    exact ⟨by decide, by decide⟩
  · obtain rfl : j = 0 := by simp at hj; omega
    exact ⟨by rw [Lib.cell_of_heap h0]; rfl, by rw [Lib.cell_of_heap h1]; rfl⟩
  · rintro e w' ⟨rfl, hb⟩
    refine ⟨?_, hb0.trans (hb.mono (by simp; omega))⟩
    show Ending.returned (.string ⟨(Lib.itoa 1 ++ [104] ++ []).toArray⟩) = _
    rw [itoa_one]
    rfl

/-- The tree that the law makes, in block nb. -/
def NAt (nb : Nat) (l : List (Int × ByteArray)) (j : Nat) (w : World) : Prop :=
  ∃ a c, w.heap[nb]? = some (.cells #[.int .i64 39, .string ⟨#[]⟩, .string ⟨#[]⟩, .int .u64 0, .slice a j c] 26 (0, 0)) ∧ w.ownsRow (nb + 1) 26 5 (.slice a j c) j ((l.take j).flatMap magCells)

set_option maxHeartbeats 2000000 in
set_option maxRecDepth 100000 in
theorem dur_great (vu : Value) (am : Option Addr) (n c : Nat) (w : World) (h : 2147483647 < n) :
    Calls Tryz.prog 5 #[.slice am n c, vu] w fun e w' => e = .returned (.bool true) ∧ Below w.heap.size w w' := by
  have h1 : (2147483647 : Int) < n := by omega
  go_enter Tryz.func5, Tryz.ntmps5
  go_wp2
  go_ret
  exact ⟨rfl, Below.refl _ _⟩

set_option maxHeartbeats 8000000 in
set_option maxRecDepth 100000 in
theorem dur_diff (am au : Option Addr) (cm cu : Nat) (ms : List Int) (us : List ByteArray) (w : World) (h : ¬ 2147483647 < ms.length) (hne : ms.length ≠ us.length)
    (hm : SeqAt (Value.int .i64) w (.slice am ms.length cm) ms) (hu : SeqAt Value.string w (.slice au us.length cu) us) (hmb : ∀ x ∈ ms, -9223372036854775808 ≤ x ∧ x ≤ 9223372036854775807) (hub : ∀ x ∈ us, x.size ≤ maxLen)
    (hT : Lib.Utf8Tabs 0 1 w) (htab : Lib.TabIs Tryz.prog w "internal/strconv.uint64pow10" .u64 Lib.pow10Tab) :
    Calls Tryz.prog 5 #[.slice am ms.length cm, .slice au us.length cu] w fun e w' => e = .returned (.bool true) ∧ Below w.heap.size w w' := by
  have h1 : ¬ (2147483647 : Int) < ms.length := by omega
  have HZ := Lib.hid (zzFits3_any _ us w hu hub)
  have HM := Lib.hid hm
  have HU := Lib.hid hu
  have HMB := Lib.hid hmb
  have HUB := Lib.hid hub
  have HT := Lib.hid hT
  have HTB := Lib.hid htab
  clear hm hu hmb hub hT htab
  go_enter Tryz.func5, Tryz.ntmps5
  go_wp2_with fail
  ((with_reducible refine HZ.out.mono ?_))
  rintro e w1 ⟨b, rfl, hb, rfl⟩
  cases b with
  | false =>
    go_wp2
    go_ret
    exact ⟨rfl, Below.refl _ _⟩
  | true =>
    have hul := hb rfl
    clear hb
    have HAW := Lib.hid (dur_awake w1 HTB.out)
    go_wp2_with fail
    ((with_reducible refine HAW.out.mono ?_))
    rintro e w2 ⟨rfl, hb2⟩
    have HB2 := Lib.hid hb2
    clear hb2
    go_wp2_with fail
    ((with_reducible refine (tree_any 39 ⟨#[]⟩ none 0 0 _).mono ?_))
    rintro e w3 ⟨rfl, hb3⟩
    have HB3 := Lib.hid (HB2.out.trans (hb3.mono HB2.out.size))
    clear hb3
    unfold nodeU
    have hne1 : ((ms.length : Int) == us.length) = false := by simp; omega
    have hne2 : ((ms.length : Int) != us.length) = true := by simp; omega
    go_wp2
    go_ret
    exact ⟨rfl, HB3.out.alloc HB3.out.size _⟩

theorem NAt.below {nb : Nat} {l : List (Int × ByteArray)} {j : Nat} {w w' : World} (h : NAt nb l j w) (hb : Below w.heap.size w w') : NAt nb l j w' := by
  obtain ⟨a, c, h1, h2⟩ := h
  exact ⟨a, c, (hb.block nb (Array.getElem?_eq_some_iff.1 h1).1).trans h1, World.ownsRow.kept h2 (grown_of_below hb none) (by cases h : (Value.slice a j c).ownBlock <;> simp)⟩

set_option maxHeartbeats 8000000 in
set_option maxRecDepth 100000 in
theorem dur_equal (am au : Option Addr) (cm cu : Nat) (l : List (Int × ByteArray)) (w : World) (h : ¬ 2147483647 < l.length)
    (hm : SeqAt (Value.int .i64) w (.slice am l.length cm) (l.map (·.1))) (hu : SeqAt Value.string w (.slice au l.length cu) (l.map (·.2))) (hmb : ∀ x ∈ l, -9223372036854775808 ≤ x.1 ∧ x.1 ≤ 9223372036854775807) (hub : ∀ x ∈ l, x.2.size ≤ maxLen)
    (hT : Lib.Utf8Tabs 0 1 w) (htab : Lib.TabIs Tryz.prog w "internal/strconv.uint64pow10" .u64 Lib.pow10Tab) :
    Calls Tryz.prog 5 #[.slice am l.length cm, .slice au l.length cu] w fun e w' => e = .returned (.bool true) ∧ Below w.heap.size w w' := by
  obtain ⟨i0, hi0, hz0, hz1, hz2⟩ := info_parts node_info
  have h1 : ¬ (2147483647 : Int) < l.length := by omega
  have HZ := Lib.hid (zzFits3_any _ (l.map (·.2)) w hu (fun x hx => by obtain ⟨y, hy, rfl⟩ := List.mem_map.1 hx; exact hub y hy))
  have HARG : Hid (l ≠ [] → ∃ gm om gu ou, am = some ⟨gm, om, none⟩ ∧ au = some ⟨gu, ou, none⟩ ∧ ArgsAt w gm om gu ou l) := Lib.hid fun hne => by
    obtain ⟨a1, c1, e1, _, h1⟩ := hm
    obtain ⟨a2, c2, e2, _, h2⟩ := hu
    simp only [List.length_map, Value.slice.injEq] at e1 e2
    obtain ⟨rfl, _, rfl⟩ := e1
    obtain ⟨rfl, _, rfl⟩ := e2
    rcases h1 with h1 | ⟨gm, om, rfl, lm, h1⟩
    · exact absurd (List.map_eq_nil_iff.1 h1) hne
    rcases h2 with h2 | ⟨gu, ou, rfl, lu, h2⟩
    · exact absurd (List.map_eq_nil_iff.1 h2) hne
    refine ⟨gm, om, gu, ou, rfl, rfl, lm, lu, fun j hj => ?_⟩
    have q1 := h1 j (by simpa using hj)
    have q2 := h2 j (by simpa using hj)
    simp only [List.getElem_map] at q1 q2
    exact ⟨q1, q2⟩
  have HMB := Lib.hid hmb
  have HUB := Lib.hid hub
  have HT := Lib.hid hT
  have HTB := Lib.hid htab
  clear hm hu hmb hub hT htab
  go_enter Tryz.func5, Tryz.ntmps5
  go_wp2_with fail
  ((with_reducible refine HZ.out.mono ?_))
  rintro e w1 ⟨b, rfl, hb, rfl⟩
  clear hb
  cases b with
  | false =>
    go_wp2
    go_ret
    exact ⟨rfl, Below.refl _ _⟩
  | true =>
    have HAW := Lib.hid (dur_awake w1 HTB.out)
    go_wp2_with fail
    ((with_reducible refine HAW.out.mono ?_))
    rintro e w2 ⟨rfl, hb2⟩
    have HB2 := Lib.hid hb2
    clear hb2
    go_wp2_with fail
    ((with_reducible refine (tree_any 39 ⟨#[]⟩ none 0 0 _).mono ?_))
    rintro e w3 ⟨rfl, hb3⟩
    have HB3 := Lib.hid (HB2.out.trans (hb3.mono HB2.out.size))
    clear hb3
    unfold nodeU
    have hn0 : NAt w3.heap.size (l.map wrapM) 0 (w3.alloc (.cells #[.int .i64 39, .string ⟨#[]⟩, .string ⟨#[]⟩, .int .u64 0, .slice none 0 0] 26)) := ⟨none, 0, heap_alloc_new w3 _, World.ownsRow_nil _ _ _ _⟩
    have HN0 := Lib.hid hn0
    have HB4 := Lib.hid (HB3.out.alloc HB3.out.size (.cells #[.int .i64 39, .string ⟨#[]⟩, .string ⟨#[]⟩, .int .u64 0, .slice none 0 0] 26))
    have HS4 : Hid (w3.heap.size + 1 ≤ (w3.alloc (.cells #[.int .i64 39, .string ⟨#[]⟩, .string ⟨#[]⟩, .int .u64 0, .slice none 0 0] 26)).heap.size) := Lib.hid (by simp)
    have hwn : w1.heap.size ≤ w3.heap.size := HB3.out.size
    clear hn0
    go_wp2
    go_loopw [32] (fun i wr => ∃ j : Nat, j ≤ l.length ∧ i = .int .i64 j ∧ Hid (NAt w3.heap.size (l.map wrapM) j wr) ∧ Hid (Below w1.heap.size w1 wr) ∧ Hid (w3.heap.size + 1 ≤ wr.heap.size)) (fun i _ => l.length - (intOf i).toNat)
    case atStart => exact ⟨0, Nat.zero_le _, rfl, HN0, HB4, HS4⟩
    case round =>
      obtain ⟨j, hj, rfl, HN, HB, HS⟩ := hrel
      obtain ⟨a, c, hrow, hown⟩ := HN.out
      by_cases hlt : j < l.length
      · obtain ⟨gm, om, gu, ou, rfl, rfl, lm, lu, hcl⟩ := HARG.out (by intro e; rw [e] at hlt; simp at hlt)
        have p4 : wr.cell? ⟨w3.heap.size, 4, none⟩ = some (.slice a j c) := by rw [Lib.cell_of_heap hrow]; rfl
        have f4 := Lib.frozen_of_heap hrow 4
        obtain ⟨r0, r1⟩ := hcl j hlt
        have d0 := (HB.out.cell (p := ⟨gm, om + j, none⟩) lm).trans r0
        have d1 := (HB.out.cell (p := ⟨gu, ou + j, none⟩) lu).trans r1
        have HTK : Hid (((l.map wrapM).take (j + 1)).flatMap magCells = ((l.map wrapM).take j).flatMap magCells ++ magCells (wrapM l[j])) := Lib.hid (by
          rw [List.take_succ_eq_append_getElem (by simpa using hlt), List.flatMap_append, List.flatMap_singleton, List.getElem_map])
        have hi1 : (j : Int) < l.length := by omega
        have hi0' : (0 : Int) ≤ j := by omega
        generalize l[j] = q at *
        obtain ⟨n, u⟩ := q
        simp only at d0 d1
        have HW : Hid (wrapM (n, u) = (IntKind.u64.wrap n, u)) := Lib.hid rfl
        rw [HW.out] at HTK
        have hu0 : 0 ≤ IntKind.u64.wrap n ∧ IntKind.u64.wrap n ≤ 18446744073709551615 := by rw [IntKind.wrap_u64]; omega
        obtain ⟨un, hun⟩ : ∃ un, IntKind.u64.wrap n = un := ⟨_, rfl⟩
        rw [hun] at hu0 HTK
        have ag : (Value.slice a j c).ownBlock ≠ some w3.heap.size := own_ne hown (Nat.lt_succ_self _)
        have HO := Lib.hid hown
        have HR := Lib.hid hrow
        have hsz := HS.out
        have f4b : (wr.alloc (.cells #[.int .i64 40, .string u, .string ⟨#[]⟩, .int .u64 un, .slice none 0 0] 26)).drew.frozen? ⟨w3.heap.size, 4, none⟩ = false := Lib.frozen_of_heap (w := (wr.alloc (.cells #[.int .i64 40, .string u, .string ⟨#[]⟩, .int .u64 un, .slice none 0 0] 26))) ((Below.heap_alloc _ _ _ (by omega)).trans hrow) 4
        have p4b : (wr.alloc (.cells #[.int .i64 40, .string u, .string ⟨#[]⟩, .int .u64 un, .slice none 0 0] 26)).drew.cell? ⟨w3.heap.size, 4, none⟩ = some (.slice a j c) := by
          show (wr.alloc (.cells #[.int .i64 40, .string u, .string ⟨#[]⟩, .int .u64 un, .slice none 0 0] 26)).cell? ⟨w3.heap.size, 4, none⟩ = some (.slice a j c)
          rw [Lib.cell_of_heap ((Below.heap_alloc _ _ _ (by omega)).trans hrow)]
          rfl
        clear hown hrow hcl r0 r1 HW
        go_wp2_with fail
        go_region_law ((refine step_append_lies _ (by rfl) _ _ _ (by rfl) (w3.heap.size + 1) 26 i0 _ 5 72 Tryz.underlying24 hi0 hz0 hz1 hz2 rfl (by omega) (.slice a j c) j _ (by rfl) ((HO.out.alloc _).drew) ⟨wr.heap.size, 0, none⟩ 1 1 [.int .i64 40, .string u, .string ⟨#[]⟩, .int .u64 un, .slice none 0 0] (by rfl) (by rfl) (World.news_of_block (cs := #[.int .i64 40, .string u, .string ⟨#[]⟩, .int .u64 un, .slice none 0 0]) (t := 26) (fr := (0, 0)) (heap_alloc_new wr _)) (by simp [Value.oneCell']) (by omega) (by unfold maxLen; omega) (by omega) (by simp; omega) (wr.heap.size + 1) (by simp) ?_; intro gg cap w5 hown1 hgrow hat hlt1; have f5 := (hgrow.frozen_far ⟨w3.heap.size, 4, none⟩ (by simp; omega) (Ne.symm ag)).trans f4b; have p5 := (hgrow.cell_far ⟨w3.heap.size, 4, none⟩ (by simp; omega) (Ne.symm ag)).trans p4b))
        all_goals
          have hrow0 : (wr.alloc (.cells #[.int .i64 40, .string u, .string ⟨#[]⟩, .int .u64 un, .slice none 0 0] 26)).drew.heap[w3.heap.size]? = some (.cells #[.int .i64 39, .string ⟨#[]⟩, .string ⟨#[]⟩, .int .u64 0, .slice a j c] 26 (0, 0)) := (Below.heap_alloc _ _ _ (by omega)).trans HR.out
          have hrow1 := (hgrow.block w3.heap.size (Array.getElem?_eq_some_iff.1 hrow0).1 (Ne.symm ag)).trans hrow0
          have hs1 : w3.heap.size < w5.heap.size := (Array.getElem?_eq_some_iff.1 hrow1).1
          have hown2 := World.ownsRow.kept hown1 (Lib.grownBy_setB (World.grownBy.refl w5 (some w3.heap.size)) 4 (.slice (some ⟨gg, 0, none⟩) (j + 1) cap)) (.inr (own_ne hown1 (Nat.lt_succ_self _)))
          have HN2 : Hid (NAt w3.heap.size (l.map wrapM) (j + 1) (w5.setCell ⟨w3.heap.size, 4, none⟩ (.slice (some ⟨gg, 0, none⟩) (j + 1) cap))) := Lib.hid ⟨some ⟨gg, 0, none⟩, cap, row_set hrow1 4 _, by rw [HTK.out]; exact hown2⟩
          have hB1 : Below w1.heap.size w1 w5 := (Below.drew (HB.out.alloc HB.out.size (.cells #[.int .i64 40, .string u, .string ⟨#[]⟩, .int .u64 un, .slice none 0 0] 26))).grown hgrow (by have := HB.out.size; simp; omega) (fun k e => by have := (HO.out.lt k e).1; omega)
          have HBB2 := Lib.hid (hB1.setCell (p := ⟨w3.heap.size, 4, none⟩) hwn (.slice (some ⟨gg, 0, none⟩) (j + 1) cap))
          have HS2 : Hid (w3.heap.size + 1 ≤ (w5.setCell ⟨w3.heap.size, 4, none⟩ (.slice (some ⟨gg, 0, none⟩) (j + 1) cap)).heap.size) := Lib.hid (by simp [World.setCell]; omega)
          clear hrow0 hrow1 hown2 hB1 hown1 hgrow hat hlt1 f5 p5 f4b p4b d0 d1 p4 f4 ag
          go_wp2
          go_roundw
          case rel => exact ⟨j + 1, by omega, by go_num, HN2, HBB2, HS2⟩
          case measure => simp [intOf]; omega
      · have hfull : j = l.length := by omega
        subst hfull
        rw [List.take_of_length_le (by simp)] at hown
        have hnode := NodeIn.mono (fun b hb => hb.2) (node_of_row (l := l.map wrapM) (by simp) (fun x hx => by obtain ⟨y, hy, rfl⟩ := List.mem_map.1 hx; exact wrapM_in y (HUB.out y hy)) hown)
        have HNODE := Lib.hid hnode
        have hp : BoxAt w3.heap.size 39 ⟨#[]⟩ ⟨#[]⟩ 0 a l.length c wr := hrow
        obtain ⟨c0, c1, c2, c3, c4⟩ := hp.five
        have HX := Lib.hid hp
        have hF := Fits_any _ _ wr.heap.size wr hnode (Nat.le_refl _) (Utf8Tabs_below HT.out HB.out)
        unfold nodeU at hF
        have HF := Lib.hid hF
        clear hF hp hnode hown hrow
        go_wp2_with fail
        ((with_reducible refine HF.out.mono ?_))
        rintro e w5 ⟨b, rfl, hb, hb5⟩
        have HB5 := Lib.hid (HB.out.trans (hb5.mono HB.out.size))
        have HX5 := Lib.hid (HX.out.below hb5)
        have HK5 := Lib.hid (Keep.below hb5)
        have hsz5 : wr.heap.size ≤ w5.heap.size := hb5.size
        clear hb5 c0 c1 c2 c3 c4
        obtain ⟨c0, c1, c2, c3, c4⟩ := HX5.out.five
        cases b with
        | false =>
          go_wp2
          go_ret
          exact ⟨rfl, HB5.out⟩
        | true =>
          have HFIT := Lib.hid (hb rfl)
          have hW := writable_span (l.map wrapM) (fun x hx => by obtain ⟨y, hy, rfl⟩ := List.mem_map.1 hx; exact wrapM_in y (HUB.out y hy)) a c wr.heap.size w5 (by rw [List.length_map]; exact HNODE.out.keep HK5.out) hsz5 (by simp; omega)
          unfold nodeU at hW
          rw [List.length_map] at hW
          have HW := Lib.hid hW
          clear hb hW
          go_wp2_with fail
          ((with_reducible refine HW.out.mono ?_))
          rintro e w6 ⟨b, rfl, hb, hb6⟩
          have HB6 := Lib.hid (HB5.out.trans (hb6.mono HB5.out.size))
          have HX6 := Lib.hid (HX5.out.below hb6)
          have HK6 := Lib.hid (HK5.out.trans (Keep.of_below hb6 hsz5))
          have hsz6 : wr.heap.size ≤ w6.heap.size := Nat.le_trans hsz5 hb6.size
          clear hb6 c0 c1 c2 c3 c4
          cases b with
          | false =>
            go_wp2
            go_ret
            exact ⟨rfl, HB6.out⟩
          | true =>
            obtain ⟨q1, q2, q3, q4, q5⟩ := dur_pure l HMB.out HFIT.out (hb rfl)
            obtain ⟨gm, om, gu, ou, rfl, rfl, harg⟩ := HARG.out q3
            have HFD := Lib.hid (formatDuration_any gm om cm gu ou cu l q1 (by omega) q3 w6 (harg.below HB6.out) (tab_below HTB.out HB6.out))
            obtain ⟨x, post, hxp⟩ := List.exists_cons_of_ne_nil (show l.map partM ≠ [] by simpa using q3)
            rw [hxp] at q4 q5
            have HRD := Lib.hid (fun w => readExpr_span ⟨(durBytes l).toArray⟩ x post q4 w)
            rw [q5] at HRD
            generalize (⟨(durBytes l).toArray⟩ : ByteArray) = rt at *
            clear hb harg q1 q2 q3 q4 q5 hxp
            go_wp2_with fail
            ((with_reducible refine HFD.out.mono ?_))
            rintro e w7 ⟨rfl, hb7⟩
            have HB7 := Lib.hid (HB6.out.trans (hb7.mono HB6.out.size))
            have HX7 := Lib.hid (HX6.out.below hb7)
            have HK7 := Lib.hid (HK6.out.trans (Keep.of_below hb7 hsz6))
            have hsz7 : wr.heap.size ≤ w7.heap.size := Nat.le_trans hsz6 hb7.size
            clear hb7
            go_wp2_with fail
            ((with_reducible refine (HRD.out _).mono ?_))
            rintro e w8 ⟨v, rfl, hv, hb8⟩
            have HB8 := Lib.hid (HB7.out.trans (hb8.mono HB7.out.size))
            have HX8 := Lib.hid (HX7.out.below hb8)
            have HK8 := Lib.hid (HK7.out.trans (Keep.of_below hb8 hsz7))
            have hsz8 : wr.heap.size ≤ w8.heap.size := Nat.le_trans hsz7 hb8.size
            have hv1 : NodeIn w8 (· < w8.heap.size) (spanT (l.map wrapM)) v := NodeIn.mono (fun b hb => hb.2) hv
            obtain ⟨k', x', m', n', ks', a', c', heq, rfl⟩ := hv1.form
            cases heq
            have HV1 := Lib.hid hv1
            clear hb8 hv hv1
            unfold nodeU
            have hlen' : ((l.map wrapM).map magT).length = l.length := by simp
            rw [hlen']
            have hB9 := HB8.out.alloc HB8.out.size (.cells #[.int .i64 39, .string ⟨#[]⟩, .string ⟨#[]⟩, .int .u64 0, .slice a' l.length c'] 26)
            have hb9 : Below w8.heap.size w8 (w8.alloc (.cells #[.int .i64 39, .string ⟨#[]⟩, .string ⟨#[]⟩, .int .u64 0, .slice a' l.length c'] 26)) := (Below.refl _ w8).alloc (Nat.le_refl _) _
            have hx9 := HX8.out.below hb9
            obtain ⟨c0, c1, c2, c3, c4⟩ := hx9.five
            have hn1 := (NodeIn.mono (B' := (· < w8.heap.size)) (fun b hb => Nat.lt_of_lt_of_le hb hsz8) (HNODE.out.keep HK8.out)).keep (Keep.below hb9)
            have hn2 := HV1.out.keep (Keep.below hb9)
            have hS := same_refl _ _ _ w8.heap.size _ hn1 hn2 hb9.size
            unfold nodeU at hS
            rw [hlen'] at hS
            have HSM := Lib.hid hS
            have HB9 := Lib.hid hB9
            clear hS hB9 hb9 hx9 hn1 hn2 hlen'
            go_wp2_with fail
            ((with_reducible refine HSM.out.mono ?_))
            rintro e w10 ⟨rfl, hb10⟩
            have HB10 := Lib.hid (HB9.out.trans (hb10.mono HB9.out.size))
            clear hb10
            go_wp2
            go_ret
            exact ⟨rfl, HB10.out⟩

set_option maxRecDepth 100000 in
theorem formatDuration_walk {H : Type} {enc : TypeId × Value → H} (W : World) (hL : laidMetH Tryz.prog Rows.fnFormatDurationRow.laid W) (v0 : Value) (d0 : DataW H) (p0 : List MemPlace) (hv0 : Value.okWide Tryz.prog W .any 0 35 v0) (h0 : DataW.Trod enc Tryz.prog W 0 (fun _ => true) true 35 v0 d0 p0)
    (v1 : Value) (d1 : DataW H) (p1 : List MemPlace) (hv1 : Value.okWide Tryz.prog W .any 0 36 v1) (h1 : DataW.Trod enc Tryz.prog W 0 (fun _ => true) true 36 v1 d1 p1) {hsz : Prop} (_ : hsz) :
    Calls Tryz.prog 5 #[v0, v1] W fun e W' => e = .returned (.bool true) ∧ Below W.heap.size W W' := by
  have hT : Lib.Utf8Tabs 0 1 W := utf_tabs (Lib.laidMet.reads hL (.tail _ (.tail _ (.tail _ (.tail _ (.head _)))))) (Lib.laidMet.reads hL (.tail _ (.tail _ (.tail _ (.head _)))))
  have htab := pow_tab hL.tail.tail
  obtain ⟨ms, hms, hmb⟩ := ints_arg hv0 h0
  obtain ⟨us, hus, hub⟩ := strs_arg hv1 h1
  obtain ⟨am, cm, rfl, hm2⟩ := hms
  obtain ⟨au, cu, rfl, hu2⟩ := hus
  by_cases hbig : 2147483647 < ms.length
  · exact dur_great _ am _ cm W hbig
  by_cases hne : ms.length = us.length
  · obtain ⟨l, e1, e2⟩ : ∃ l : List (Int × ByteArray), ms = l.map (·.1) ∧ us = l.map (·.2) :=
      ⟨ms.zip us, (List.map_fst_zip (by omega)).symm, (List.map_snd_zip (by omega)).symm⟩
    subst e1
    subst e2
    simp only [List.length_map] at hbig ⊢
    exact dur_equal am au cm cu l W hbig ⟨am, cm, by rw [List.length_map], hm2⟩ ⟨au, cu, by rw [List.length_map], hu2⟩ (fun x hx => hmb _ (List.mem_map_of_mem hx)) (fun x hx => hub _ (List.mem_map_of_mem hx)) hT htab
  · exact dur_diff am au cm cu ms us W hbig hne ⟨am, cm, rfl, hm2⟩ ⟨au, cu, rfl, hu2⟩ hmb hub hT htab

end Go.Proofs.YtciaahpocaejhaaGreatDoor
