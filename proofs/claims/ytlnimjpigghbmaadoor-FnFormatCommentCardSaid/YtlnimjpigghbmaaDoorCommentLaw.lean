/- FnFormatComment: the walk of the law. -/
import Derived.Test.YtlnimjpigghbmaaDoorComment
import Derived.Test.YtlnimjpigghbmaaDoorUtfTabs
namespace Go.Proofs.YtlnimjpigghbmaaDoor
open Go.RowKit Go.Shelf

theorem comment_awake (w : World) : Calls Tryd.prog 7 #[.string ⟨#[97]⟩] w fun e w' => e = .returned (.string ⟨#[47, 47, 32, 97, 10]⟩) ∧ Below w.heap.size w w' :=
  formatComment_any ⟨#[97]⟩ w (by decide)

theorem comment_text (s : ByteArray) : (⟨#[47, 47, 32]⟩ : ByteArray) ++ s ++ ⟨#[10]⟩ = ⟨(commentBytes s).toArray⟩ := by
  apply Go.WideShapes.bytes_inj
  simp [commentBytes]

set_option maxHeartbeats 2000000 in
theorem formatComment_great (s : ByteArray) (w : World) (h : 2147483647 < s.size) :
    Calls Tryd.prog 3 #[.string s] w fun e w' => e = .returned (.bool true) ∧ Below w.heap.size w w' := by
  go_enter Tryd.func3, Tryd.ntmps3
  go_wp2
  go_ret
  exact ⟨rfl, Below.refl _ _⟩

set_option maxHeartbeats 4000000 in
theorem formatComment_small (s : ByteArray) (w : World) (h : ¬ 2147483647 < s.size) (hT : Lib.Utf8Tabs 0 1 w) :
    Calls Tryd.prog 3 #[.string s] w fun e w' => e = .returned (.bool true) ∧ Below w.heap.size w w' := by
  have HT := Lib.hid hT
  clear hT
  go_enter Tryd.func3, Tryd.ntmps3
  go_wp2_with fail
  refine (comment_awake _).mono ?_
  rintro e w1 ⟨rfl, hb1⟩
  go_wp2
  go_loop [4] (fun i => ∃ k : Nat, k ≤ s.size ∧ i = .int .i64 k) (fun i => s.size - (intOf i).toNat)
  case atStart => exact ⟨0, Nat.zero_le _, rfl⟩
  case round =>
    obtain ⟨k, hk, rfl⟩ := hrel
    by_cases hlt : k < s.size
    · go_wp2
      all_goals first
        | (go_ret; exact ⟨rfl, hb1⟩)
        | (go_round
           case rel => exact ⟨k + 1, by omega, by go_num⟩
           case measure => simp [intOf]; omega)
    · by_cases hs : 300 < s.size
      · go_wp2
        go_ret
        exact ⟨rfl, hb1⟩
      go_wp2_with fail
      refine (Tryd.utf8_ValidString s _ (by omega) (Utf8Tabs_below HT.out hb1)).mono ?_
      rintro e w2 ⟨rfl, hb2⟩
      cases Lib.validD s.data.toList with
      | false =>
        go_wp2
        go_ret
        exact ⟨rfl, hb1.trans (hb2.mono hb1.size)⟩
      | true =>
        go_wp2_with fail
        refine (formatComment_any s _ (by omega)).mono ?_
        rintro e w3 ⟨rfl, hb3⟩
        rw [← comment_text s]
        go_wp2
        go_ret
        exact ⟨rfl, (hb1.trans (hb2.mono hb1.size)).trans (hb3.mono (Nat.le_trans hb1.size hb2.size))⟩

theorem formatComment_walk (W : World) (hL : laidMetH Tryd.prog Rows.fnFormatCommentRow.laid W) (s : ByteArray) (_ : s.size ≤ 140737488351232) :
    Calls Tryd.prog 3 #[.string s] W fun e W' => e = .returned (.bool true) ∧ Below W.heap.size W W' := by
  have hT : Lib.Utf8Tabs 0 1 W := utf_tabs (Lib.laidMet.reads hL (.tail _ (.head _))) (Lib.laidMet.reads hL (.head _))
  by_cases h : 2147483647 < s.size
  · exact formatComment_great s W h
  · exact formatComment_small s W h hT

end Go.Proofs.YtlnimjpigghbmaaDoor
