/- spec.Writable of a literal that is one node: patterns and texts. -/
import Derived.Test.YtciaahpocaejhaaGreatDoorSame
import Derived.Test.YtciaahpocaejhaaGreatDoorReadLit
namespace Go.Proofs.YtciaahpocaejhaaGreatDoor
open Go Go.RowKit
set_option linter.unusedVariables false

/-- No backslash and no line's end. -/
def PatOk (s : ByteArray) : Prop := (∀ c ∈ s.data.toList, c ≠ 92 ∧ c ≠ 10) ∧ s ≠ ⟨#[]⟩

theorem byte_take (s : ByteArray) (k : Nat) (h : k < s.size) : s.data.toList.take (k + 1) = s.data.toList.take k ++ [s[k]] := by
  rw [List.take_succ_eq_append_getElem (by simpa using h)]; rfl

set_option maxHeartbeats 4000000 in
set_option maxRecDepth 100000 in
theorem plainPattern_any (s : ByteArray) (hs : s.size ≤ 2147483647) (w : World) :
    Calls Tryz.prog 35 #[.string s] w (HasB (PatOk s) w) := by
  have HF : Hid (HasB (PatOk s) w (.returned (.bool false)) w) := Lib.hid ⟨false, rfl, (fun h => by cases h), rfl⟩
  go_enter Tryz.func35, Tryz.ntmps35
  go_wp2
  go_loop [3] (fun i => ∃ k : Nat, k ≤ s.size ∧ i = .int .i64 k ∧ ∀ c ∈ s.data.toList.take k, c ≠ 92 ∧ c ≠ 10) (fun i => s.size - (intOf i).toNat)
  case atStart => exact ⟨0, Nat.zero_le _, rfl, by simp⟩
  case round =>
    obtain ⟨k, hk, rfl, hall⟩ := hrel
    have HA := Lib.hid hall
    clear hall
    by_cases hlt : k < s.size
    · have htk := Lib.hid (byte_take s k hlt)
      generalize hx : s[k] = x at *
      by_cases h92 : x = 92
      · subst h92
        have hx' : s[k].toNat = 92 := by rw [hx]; rfl
        clear hx
        go_wp2
        go_ret
        exact HF.out
      · by_cases h10 : x = 10
        · subst h10
          have hx' : s[k].toNat = 10 := by rw [hx]; rfl
          clear hx
          go_wp2
          go_ret
          exact HF.out
        · have HX : Hid (x ≠ 92 ∧ x ≠ 10) := Lib.hid ⟨h92, h10⟩
          clear hx h92 h10
          go_wp2
          all_goals first
            | (go_ret; exact HF.out)
            | (go_round
               case rel => exact ⟨k + 1, by omega, by go_num, by rw [htk.out]; intro c hc; rcases List.mem_append.1 hc with h | h; exact HA.out c h; simp at h; subst h; exact HX.out⟩
               case measure => simp [intOf]; omega)
    · have hfull : s.data.toList.take k = s.data.toList := List.take_of_length_le (by simp; omega)
      by_cases he : s = ⟨#[]⟩
      · subst he
        go_wp2
        go_ret
        exact HF.out
      · have he1 := notEmpty_of he
        have HP : Hid (PatOk s) := Lib.hid ⟨by have := HA.out; rwa [hfull] at this, he⟩
        clear hfull he
        go_wp2
        go_ret
        exact ⟨_, rfl, fun _ => HP.out, rfl⟩

set_option maxHeartbeats 4000000 in
set_option maxRecDepth 100000 in
theorem rooted_leaf (k : Int) (t : ByteArray) (a : Option Addr) (l c : Nat) (hk : k = 42 ∨ k = 34 ∨ k = 39) (w : World) :
    Calls Tryz.prog 20 #[nodeU k t ⟨#[]⟩ 0 a l c] w fun e w' => e = .returned (.bool true) ∧ Below w.heap.size w w' := by
  have HB : Hid (Below w.heap.size w (w.alloc (.cells #[.int .i64 k, .string t, .string ⟨#[]⟩, .int .u64 0, .slice a l c] 26))) := Lib.hid ((Below.refl _ w).alloc (Nat.le_refl _) _)
  unfold nodeU
  rcases hk with rfl | rfl | rfl
  all_goals
    go_enter Tryz.func20, Tryz.ntmps20
    go_wp2
    go_ret
    exact ⟨rfl, HB.out⟩

set_option maxHeartbeats 4000000 in
set_option maxRecDepth 100000 in
theorem writable_regexp (t : ByteArray) (ht : t.size ≤ 2147483647) (w : World) :
    Calls Tryz.prog 9 #[nodeU 42 t ⟨#[]⟩ 0 none 0 0] w (YesB (PatOk t) w) := by
  have hB : Below w.heap.size w (w.alloc (.cells #[.int .i64 42, .string t, .string ⟨#[]⟩, .int .u64 0, .slice none 0 0] 26)) := (Below.refl _ w).alloc (Nat.le_refl _) _
  have hX : BoxAt w.heap.size 42 t ⟨#[]⟩ 0 none 0 0 (w.alloc (.cells #[.int .i64 42, .string t, .string ⟨#[]⟩, .int .u64 0, .slice none 0 0] 26)) := heap_alloc_new w _
  have hL : ∀ w, Calls Tryz.prog 19 #[nodeU 42 t ⟨#[]⟩ 0 none 0 0] w (YesB (PatOk t) w) := by
    intro w
    have HB : Hid (Below w.heap.size w (w.alloc (.cells #[.int .i64 42, .string t, .string ⟨#[]⟩, .int .u64 0, .slice none 0 0] 26))) := Lib.hid ((Below.refl _ w).alloc (Nat.le_refl _) _)
    unfold nodeU
    go_enter Tryz.func19, Tryz.ntmps19
    go_wp2_with fail
    ((with_reducible refine (plainPattern_any t ht _).mono ?_))
    rintro e w1 ⟨b, rfl, hb, rfl⟩
    have HP := Lib.hid hb
    clear hb
    go_wp2
    go_ret
    exact ⟨b, rfl, HP.out, HB.out⟩
  have hLl := hL (w.alloc (.cells #[.int .i64 42, .string t, .string ⟨#[]⟩, .int .u64 0, .slice none 0 0] 26))
  unfold nodeU at hLl ⊢
  have HB := Lib.hid hB
  have HX := Lib.hid hX
  have HL := Lib.hid hLl
  clear hB hX hL hLl
  go_enter Tryz.func9, Tryz.ntmps9
  go_wp2_with fail
  ((with_reducible refine HL.out.mono ?_))
  rintro e w1 ⟨b, rfl, hb, hb1⟩
  have HB1 := Lib.hid (HB.out.trans (hb1.mono HB.out.size))
  have HX1 := Lib.hid (HX.out.below hb1)
  obtain ⟨c0, c1, c2, c3, c4⟩ := HX1.out.five
  clear hb1
  cases b with
  | false =>
    go_wp2
    go_ret
    exact ⟨false, rfl, (fun h => by cases h), HB1.out⟩
  | true =>
    have HP := Lib.hid (hb rfl)
    have hR := rooted_leaf 42 t none 0 0 (.inl rfl) w1
    unfold nodeU at hR
    have HR := Lib.hid hR
    clear hb hR
    go_wp2_with fail
    ((with_reducible refine HR.out.mono ?_))
    rintro e w2 ⟨rfl, hb2⟩
    have HB2 := Lib.hid (HB1.out.trans (hb2.mono HB1.out.size))
    obtain ⟨q0, q1, q2, q3, q4⟩ := (HX1.out.below hb2).five
    clear hb2 c0 c1 c2 c3 c4
    go_wp2
    refine wp_loop_rounds 1 ?_
    rw [rounds_succ]
    go_wp2
    go_ret
    exact ⟨true, rfl, fun _ => HP.out, HB2.out⟩

end Go.Proofs.YtciaahpocaejhaaGreatDoor
