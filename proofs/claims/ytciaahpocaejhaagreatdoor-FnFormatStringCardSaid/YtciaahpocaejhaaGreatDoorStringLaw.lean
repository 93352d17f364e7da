/- FnFormatString: the walk of the law. -/
import Derived.Test.YtciaahpocaejhaaGreatDoorFormatString
import Derived.Test.YtciaahpocaejhaaGreatDoorFits
import Derived.Test.YtciaahpocaejhaaGreatDoorReadText
import Derived.Test.YtciaahpocaejhaaGreatDoorUtfTabs
import Derived.Test.YtciaahpocaejhaaGreatDoorRegexpLaw
namespace Go.Proofs.YtciaahpocaejhaaGreatDoor
open Go Go.RowKit Go.Shelf
set_option linter.unusedVariables false
set_option linter.unusedSimpArgs false

theorem string_awake (w : World) : Calls Tryz.prog 12 #[.string ⟨#[97]⟩, .string ⟨#[]⟩] w fun e w' => e = .returned (.string ⟨#[34, 97, 34]⟩) ∧ Below w.heap.size w w' := by
  have h := formatString_any ⟨#[97]⟩ ⟨#[]⟩ ⟨by decide, by decide⟩ (fun _ => by decide) w
  have e : (⟨(litBytes ⟨#[97]⟩ ⟨#[]⟩).toArray⟩ : ByteArray) = ⟨#[34, 97, 34]⟩ := by
    unfold litBytes
    rw [if_pos rfl]
    rfl
  rwa [e] at h

theorem formatString_great (s u : ByteArray) (w : World) (h : 2147483647 < s.size ∨ 2147483647 < u.size) :
    Calls Tryz.prog 4 #[.string s, .string u] w fun e w' => e = .returned (.bool true) ∧ Below w.heap.size w w' := by
  by_cases h1 : 2147483647 < s.size
  · clear h
    go_enter Tryz.func4, Tryz.ntmps4
    go_wp2
    go_ret
    exact ⟨rfl, Below.refl _ _⟩
  · have h2 : 2147483647 < u.size := h.resolve_left h1
    clear h
    go_enter Tryz.func4, Tryz.ntmps4
    go_wp2
    go_ret
    exact ⟨rfl, Below.refl _ _⟩

set_option maxHeartbeats 4000000 in
set_option maxRecDepth 100000 in
theorem formatString_source (s u : ByteArray) (w : World) (h1 : ¬ 2147483647 < s.size) (h2 : ¬ 2147483647 < u.size) (hne : u ≠ ⟨#[]⟩) :
    Calls Tryz.prog 4 #[.string s, .string u] w fun e w' => e = .returned (.bool true) ∧ Below w.heap.size w w' := by
  have hn1 := notEmpty_of hne
  have hF : ∀ W, Calls Tryz.prog 12 #[.string s, .string u] W fun e w' => e = .returned (.string u) ∧ Below W.heap.size W w' := fun W => by
    have h := formatString_any s u ⟨by omega, by omega⟩ (fun e => absurd e hne) W
    have e : (⟨(litBytes s u).toArray⟩ : ByteArray) = u := by
      unfold litBytes
      rw [if_neg hne]

    rwa [e] at h
  have HF := Lib.hid hF
  clear hne hF
  go_enter Tryz.func4, Tryz.ntmps4
  go_wp2_with fail
  ((with_reducible refine (string_awake _).mono ?_))
  rintro e w1 ⟨rfl, hb1⟩
  have HB1 := Lib.hid hb1
  clear hb1
  go_wp2_with fail
  ((with_reducible refine (tree_any 34 s none 0 0 _).mono ?_))
  rintro e w2 ⟨rfl, hb2⟩
  have HB2 := Lib.hid (HB1.out.trans (hb2.mono HB1.out.size))
  clear hb2
  have hB3 := HB2.out.alloc HB2.out.size (.cells #[.int .i64 34, .string s, .string ⟨#[]⟩, .int .u64 0, .slice none 0 0] 26)
  have HB3 := Lib.hid hB3
  clear hB3
  unfold nodeU
  go_wp2_with fail
  ((with_reducible refine (HF.out _).mono ?_))
  rintro e w4 ⟨rfl, hb4⟩
  have HB4 := Lib.hid (HB3.out.trans (hb4.mono HB3.out.size))
  clear hb4
  go_wp2
  go_ret
  exact ⟨rfl, HB4.out⟩

set_option maxHeartbeats 4000000 in
set_option maxRecDepth 100000 in
theorem formatString_small (s : ByteArray) (w : World) (h : ¬ 2147483647 < s.size) (hT : Lib.Utf8Tabs 0 1 w) :
    Calls Tryz.prog 4 #[.string s, .string ⟨#[]⟩] w fun e w' => e = .returned (.bool true) ∧ Below w.heap.size w w' := by
  have HT := Lib.hid hT
  clear hT
  have hsz : s.size ≤ 2147483647 := by omega
  go_enter Tryz.func4, Tryz.ntmps4
  go_wp2_with fail
  ((with_reducible refine (string_awake _).mono ?_))
  rintro e w1 ⟨rfl, hb1⟩
  have HB1 := Lib.hid hb1
  clear hb1
  go_wp2_with fail
  ((with_reducible refine (tree_any 34 s none 0 0 _).mono ?_))
  rintro e w2 ⟨rfl, hb2⟩
  have HB2 := Lib.hid (HB1.out.trans (hb2.mono HB1.out.size))
  clear hb2
  have hB3 := HB2.out.alloc HB2.out.size (.cells #[.int .i64 34, .string s, .string ⟨#[]⟩, .int .u64 0, .slice none 0 0] 26)
  have hX3 : BoxAt w2.heap.size 34 s ⟨#[]⟩ 0 none 0 0 (w2.alloc (.cells #[.int .i64 34, .string s, .string ⟨#[]⟩, .int .u64 0, .slice none 0 0] 26)) := heap_alloc_new w2 _
  have hleaf : ∀ W : World, NodeIn W (· < 0) (.mk 34 s ⟨#[]⟩ 0 []) (nodeU 34 s ⟨#[]⟩ 0 none 0 0) := fun W => .leaf (by omega) (by omega) (by unfold maxLen; omega) (by decide) none 0
  have hF := Fits_any _ _ 0 _ (hleaf (w2.alloc (.cells #[.int .i64 34, .string s, .string ⟨#[]⟩, .int .u64 0, .slice none 0 0] 26))) (Nat.zero_le _) (Utf8Tabs_below HT.out hB3)
  unfold nodeU at hF ⊢
  have HF := Lib.hid hF
  have HB3 := Lib.hid hB3
  have HX3 := Lib.hid hX3
  have HLF := Lib.hid hleaf
  clear hF hB3 hX3 hleaf
  go_wp2_with fail
  ((with_reducible refine HF.out.mono ?_))
  rintro e w4 ⟨b, rfl, hb, hb4⟩
  have HB4 := Lib.hid (HB3.out.trans (hb4.mono HB3.out.size))
  have HX4 := Lib.hid (HX3.out.below hb4)
  obtain ⟨c0, c1, c2, c3, c4⟩ := HX4.out.five
  clear hb4
  cases b with
  | false =>
    go_wp2
    go_ret
    exact ⟨rfl, HB4.out⟩
  | true =>
    have hfits := hb rfl
    have h300 : s.size ≤ 300 ∧ Lib.validD s.data.toList = true := by
      cases hfits.1 with
      | node hk hf hs hkids hd => exact ⟨hf.1.2.2.2.1, hf.1.2.2.2.2.2.1⟩
    have HV := Lib.hid h300.2
    replace h300 := h300.1
    clear hb hfits
    have hW := writable_text s hsz w4
    unfold nodeU at hW
    have HW := Lib.hid hW
    clear hW
    go_wp2_with fail
    ((with_reducible refine HW.out.mono ?_))
    rintro e w5 ⟨b, rfl, hb, hb5⟩
    have HB5 := Lib.hid (HB4.out.trans (hb5.mono HB4.out.size))
    have HX5 := Lib.hid (HX4.out.below hb5)
    clear hb5 c0 c1 c2 c3 c4
    cases b with
    | false =>
      go_wp2
      go_ret
      exact ⟨rfl, HB5.out⟩
    | true =>
      have HP := Lib.hid (hb rfl)
      clear hb
      have hFS : ∀ W, Calls Tryz.prog 12 #[.string s, .string ⟨#[]⟩] W fun e w' => e = .returned (.string ⟨(stringBytes s).toArray⟩) ∧ Below W.heap.size W w' := fun W => by
        have h := formatString_any s ⟨#[]⟩ ⟨hsz, by decide⟩ (fun _ => HV.out) W
        have e : litBytes s ⟨#[]⟩ = stringBytes s := by
          unfold litBytes
          rw [if_pos rfl]
        rwa [e] at h
      have HFS := Lib.hid hFS
      clear hFS
      go_wp2_with fail
      ((with_reducible refine (HFS.out _).mono ?_))
      rintro e w6 ⟨rfl, hb6⟩
      have HB6 := Lib.hid (HB5.out.trans (hb6.mono HB5.out.size))
      have HX6 := Lib.hid (HX5.out.below hb6)
      clear hb6
      have hlen : (stringBytes s).length ≤ 10000 := by
        have h2 := escT_len s.data.toList
        have h3 : s.data.toList.length = s.size := by simp
        simp [stringBytes]
        omega
      have hR := readExpr_text ⟨(stringBytes s).toArray⟩ s.data.toList (by simp [stringBytes]) HP.out (by show (stringBytes s).toArray.size ≤ 10000; simpa using hlen) w6
      unfold nodeV at hR
      have hss : (⟨s.data.toList.toArray⟩ : ByteArray) = s := ByteArray.ext (by simp)
      rw [hss] at hR
      have HR := Lib.hid hR
      clear hR hlen hss HFS
      generalize (⟨(stringBytes s).toArray⟩ : ByteArray) = rt at *
      go_wp2_with fail
      ((with_reducible refine HR.out.mono ?_))
      rintro e w7 ⟨rfl, hb7⟩
      have HB7 := Lib.hid (HB6.out.trans (hb7.mono HB6.out.size))
      have HX7 := Lib.hid (HX6.out.below hb7)
      clear hb7
      have hB8 := HB7.out.alloc HB7.out.size (.cells #[.int .i64 34, .string s, .string ⟨#[]⟩, .int .u64 0, .slice none 0 0] 26)
      obtain ⟨c0, c1, c2, c3, c4⟩ := (HX7.out.below ((Below.refl w7.heap.size w7).alloc (Nat.le_refl _) (.cells #[.int .i64 34, .string s, .string ⟨#[]⟩, .int .u64 0, .slice none 0 0] 26))).five
      have hS := same_refl (.mk 34 s ⟨#[]⟩ 0 []) _ _ 0 (w7.alloc (.cells #[.int .i64 34, .string s, .string ⟨#[]⟩, .int .u64 0, .slice none 0 0] 26)) (HLF.out _) (HLF.out _) (Nat.zero_le _)
      unfold nodeU at hS
      have HS := Lib.hid hS
      have HB8 := Lib.hid hB8
      clear hS hB8
      go_wp2_with fail
      ((with_reducible refine HS.out.mono ?_))
      rintro e w9 ⟨rfl, hb9⟩
      have HB9 := Lib.hid (HB8.out.trans (hb9.mono HB8.out.size))
      clear hb9
      go_wp2
      go_ret
      exact ⟨rfl, HB9.out⟩

theorem formatString_walk (W : World) (hL : laidMetH Tryz.prog Rows.fnFormatStringRow.laid W) (s : ByteArray) (_ : s.size ≤ 140737488351232) (u : ByteArray) (_ : u.size ≤ 140737488351232) :
    Calls Tryz.prog 4 #[.string s, .string u] W fun e W' => e = .returned (.bool true) ∧ Below W.heap.size W W' := by
  have hT : Lib.Utf8Tabs 0 1 W := utf_tabs (Lib.laidMet.reads hL (.tail _ (.head _))) (Lib.laidMet.reads hL (.head _))
  by_cases h : 2147483647 < s.size ∨ 2147483647 < u.size
  · exact formatString_great s u W h
  · by_cases hu : u = ⟨#[]⟩
    · subst hu
      exact formatString_small s W (fun h' => h (.inl h')) hT
    · exact formatString_source s u W (fun h' => h (.inl h')) (fun h' => h (.inr h')) hu

end Go.Proofs.YtciaahpocaejhaaGreatDoor
