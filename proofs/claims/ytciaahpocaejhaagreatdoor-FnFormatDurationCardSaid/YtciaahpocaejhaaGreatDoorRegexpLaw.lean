/- FnFormatRegexp: the walk of the law. -/
import Derived.Test.YtciaahpocaejhaaGreatDoorFormatRegexp
import Derived.Test.YtciaahpocaejhaaGreatDoorFits
import Derived.Test.YtciaahpocaejhaaGreatDoorReadRegexp
import Derived.Test.YtciaahpocaejhaaGreatDoorUtfTabs
namespace Go.Proofs.YtciaahpocaejhaaGreatDoor
open Go Go.RowKit Go.Shelf
set_option linter.unusedVariables false

theorem tree_any (k : Int) (t : ByteArray) (a : Option Addr) (n c : Nat) (w : World) :
    Calls Tryz.prog 7 #[.int .i64 k, .string t, .slice a n c] w fun e w' => e = .returned (nodeU k t ⟨#[]⟩ 0 a n c) ∧ Below w.heap.size w w' := by
  unfold nodeU
  go_enter Tryz.func7, Tryz.ntmps7
  go_wp2
  refine bodyPost_ret (v := .agg #[.int .i64 k, .string t, .string ⟨#[]⟩, .int .u64 0, .slice a n c]) (by simp [results, Tryz.results7, go_sem]) rfl ⟨rfl, ?_⟩
  exact (Below.refl _ w).alloc (Nat.le_refl _) _

theorem regexp_awake (w : World) : Calls Tryz.prog 6 #[.string ⟨#[97]⟩] w fun e w' => e = .returned (.string ⟨#[47, 97, 47]⟩) ∧ Below w.heap.size w w' :=
  formatRegexp_any ⟨#[97]⟩ (by decide) ⟨by decide, by decide⟩ w

theorem formatRegexp_great (s : ByteArray) (w : World) (h : 2147483647 < s.size) :
    Calls Tryz.prog 3 #[.string s] w fun e w' => e = .returned (.bool true) ∧ Below w.heap.size w w' := by
  go_enter Tryz.func3, Tryz.ntmps3
  go_wp2
  go_ret
  exact ⟨rfl, Below.refl _ _⟩

set_option maxHeartbeats 4000000 in
set_option maxRecDepth 100000 in
theorem formatRegexp_small (s : ByteArray) (w : World) (h : ¬ 2147483647 < s.size) (hT : Lib.Utf8Tabs 0 1 w) :
    Calls Tryz.prog 3 #[.string s] w fun e w' => e = .returned (.bool true) ∧ Below w.heap.size w w' := by
  have HT := Lib.hid hT
  clear hT
  have hsz : s.size ≤ 2147483647 := by omega
  go_enter Tryz.func3, Tryz.ntmps3
  go_wp2_with fail
  ((with_reducible refine (regexp_awake _).mono ?_))
  rintro e w1 ⟨rfl, hb1⟩
  have HB1 := Lib.hid hb1
  clear hb1
  go_wp2_with fail
  ((with_reducible refine (tree_any 42 s none 0 0 _).mono ?_))
  rintro e w2 ⟨rfl, hb2⟩
  have HB2 := Lib.hid (HB1.out.trans (hb2.mono HB1.out.size))
  clear hb2
  have hB3 := HB2.out.alloc HB2.out.size (.cells #[.int .i64 42, .string s, .string ⟨#[]⟩, .int .u64 0, .slice none 0 0] 26)
  have hX3 : BoxAt w2.heap.size 42 s ⟨#[]⟩ 0 none 0 0 (w2.alloc (.cells #[.int .i64 42, .string s, .string ⟨#[]⟩, .int .u64 0, .slice none 0 0] 26)) := heap_alloc_new w2 _
  have hleaf : ∀ W : World, NodeIn W (· < 0) (.mk 42 s ⟨#[]⟩ 0 []) (nodeU 42 s ⟨#[]⟩ 0 none 0 0) := fun W => .leaf (by omega) (by omega) (by unfold maxLen; omega) (by decide) none 0
  have hF := Fits_any _ _ 0 _ (hleaf (w2.alloc (.cells #[.int .i64 42, .string s, .string ⟨#[]⟩, .int .u64 0, .slice none 0 0] 26))) (Nat.zero_le _) (Utf8Tabs_below HT.out hB3)
  unfold nodeU at hF ⊢
  have HF := Lib.hid hF
  have HB3 := Lib.hid hB3
  have HX3 := Lib.hid hX3
  have HLF := Lib.hid hleaf
  clear hF hB3 hX3 hleaf
  go_wp2_with fail
  ((with_reducible refine HF.out.mono ?_))
  rintro e w4 ⟨b, rfl, hb, hb4⟩
  have HB4 := Lib.hid (HB3.out.trans (hb4.mono HB3.out.size))
  have HX4 := Lib.hid (HX3.out.below hb4)
  obtain ⟨c0, c1, c2, c3, c4⟩ := HX4.out.five
  clear hb4
  cases b with
  | false =>
    go_wp2
    go_ret
    exact ⟨rfl, HB4.out⟩
  | true =>
    have hfits := hb rfl
    have h300 : s.size ≤ 300 := by
      cases hfits.1 with
      | node hk hf hs hkids hd => exact hf.1.2.2.2.1
    clear hb hfits
    have hW := writable_regexp s hsz w4
    unfold nodeU at hW
    have HW := Lib.hid hW
    clear hW
    go_wp2_with fail
    ((with_reducible refine HW.out.mono ?_))
    rintro e w5 ⟨b, rfl, hb, hb5⟩
    have HB5 := Lib.hid (HB4.out.trans (hb5.mono HB4.out.size))
    have HX5 := Lib.hid (HX4.out.below hb5)
    clear hb5 c0 c1 c2 c3 c4
    cases b with
    | false =>
      go_wp2
      go_ret
      exact ⟨rfl, HB5.out⟩
    | true =>
      have HP := Lib.hid (hb rfl)
      clear hb
      go_wp2_with fail
      ((with_reducible refine (formatRegexp_any s hsz HP.out _).mono ?_))
      rintro e w6 ⟨rfl, hb6⟩
      have HB6 := Lib.hid (HB5.out.trans (hb6.mono HB5.out.size))
      have HX6 := Lib.hid (HX5.out.below hb6)
      clear hb6
      have hlen : (regexpBytes s).length ≤ 10000 := by
        have : ∀ l, (escP l).length ≤ 2 * l.length := fun l => by
          induction l with
          | nil => simp [escP]
          | cons c l ih =>
            show (escP ([c] ++ l)).length ≤ _
            rw [escP_append]
            simp only [List.length_append, List.length_cons]
            have : (escP [c]).length ≤ 2 := by
              by_cases h : c = 47 <;> simp [escP, h]
            omega
        have h2 := this s.data.toList
        have h3 : s.data.toList.length = s.size := by simp
        simp [regexpBytes]
        omega
      have hR := readExpr_regexp ⟨(regexpBytes s).toArray⟩ s.data.toList (by simp [regexpBytes]) HP.out.1 (by intro e; apply HP.out.2; exact ByteArray.ext (Array.toList_inj.1 (by simpa using e))) (by show (regexpBytes s).toArray.size ≤ 10000; simpa using hlen) w6
      unfold nodeV at hR
      have hss : (⟨s.data.toList.toArray⟩ : ByteArray) = s := ByteArray.ext (by simp)
      rw [hss] at hR
      have HR := Lib.hid hR
      clear hR hlen hss
      generalize (⟨(regexpBytes s).toArray⟩ : ByteArray) = rt at *
      go_wp2_with fail
      ((with_reducible refine HR.out.mono ?_))
      rintro e w7 ⟨rfl, hb7⟩
      have HB7 := Lib.hid (HB6.out.trans (hb7.mono HB6.out.size))
      have HX7 := Lib.hid (HX6.out.below hb7)
      clear hb7
      have hB8 := HB7.out.alloc HB7.out.size (.cells #[.int .i64 42, .string s, .string ⟨#[]⟩, .int .u64 0, .slice none 0 0] 26)
      obtain ⟨c0, c1, c2, c3, c4⟩ := (HX7.out.below ((Below.refl w7.heap.size w7).alloc (Nat.le_refl _) (.cells #[.int .i64 42, .string s, .string ⟨#[]⟩, .int .u64 0, .slice none 0 0] 26))).five
      have hS := same_refl (.mk 42 s ⟨#[]⟩ 0 []) _ _ 0 (w7.alloc (.cells #[.int .i64 42, .string s, .string ⟨#[]⟩, .int .u64 0, .slice none 0 0] 26)) (HLF.out _) (HLF.out _) (Nat.zero_le _)
      unfold nodeU at hS
      have HS := Lib.hid hS
      have HB8 := Lib.hid hB8
      clear hS hB8
      go_wp2_with fail
      ((with_reducible refine HS.out.mono ?_))
      rintro e w9 ⟨rfl, hb9⟩
      have HB9 := Lib.hid (HB8.out.trans (hb9.mono HB8.out.size))
      clear hb9
      go_wp2
      go_ret
      exact ⟨rfl, HB9.out⟩

theorem formatRegexp_walk (W : World) (hL : laidMetH Tryz.prog Rows.fnFormatRegexpRow.laid W) (s : ByteArray) (_ : s.size ≤ 140737488351232) :
    Calls Tryz.prog 3 #[.string s] W fun e W' => e = .returned (.bool true) ∧ Below W.heap.size W W' := by
  have hT : Lib.Utf8Tabs 0 1 W := utf_tabs (Lib.laidMet.reads hL (.tail _ (.head _))) (Lib.laidMet.reads hL (.head _))
  by_cases h : 2147483647 < s.size
  · exact formatRegexp_great s W h
  · exact formatRegexp_small s W h hT

end Go.Proofs.YtciaahpocaejhaaGreatDoor
