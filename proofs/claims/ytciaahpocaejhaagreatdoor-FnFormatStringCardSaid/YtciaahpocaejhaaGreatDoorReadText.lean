/- spec.ReadExpression of a text's literal; spec.Writable at it. -/
import Derived.Test.YtciaahpocaejhaaGreatDoorStep
import Derived.Test.YtciaahpocaejhaaGreatDoorNextText
import Derived.Test.YtciaahpocaejhaaGreatDoorReadExpr
import Derived.Test.YtciaahpocaejhaaGreatDoorLit
namespace Go.Proofs.YtciaahpocaejhaaGreatDoor
open Go Go.RowKit
set_option linter.unusedVariables false
set_option linter.unusedSimpArgs false

theorem readExpr_text (s : ByteArray) (l : List UInt8) (hs : s.data.toList = [34] ++ escT l ++ [34]) (hl : TxtOk l) (hsz : s.size ≤ 10000) (w : World) :
    Calls Tryz.prog 10 #[.string s] w fun e w' => e = .returned (.tuple #[nodeV 34 ⟨l.toArray⟩ 0 none 0 0, .bool true]) ∧ Below w.heap.size w w' := by
  refine (readExpr_lit s ⟨l.toArray⟩ s.size s.size 4 (fun v _ _ => v = nodeV 34 ⟨l.toArray⟩ 0 none 0 0) (fun v w0 w1 w2 w3 h _ _ => h) w
    (fun w => read_gen s ⟨l.toArray⟩ s.size 4 (fun b w h => next_text b s ⟨#[]⟩ 0 0 l hs hl hsz w 0 rfl h) w)
    (fun b w h => expr_leaf b s.size s ⟨l.toArray⟩ 4 34 (.inr ⟨rfl, rfl⟩) (Nat.le_refl _) w h)).mono ?_
  rintro e w' ⟨v, rfl, rfl, hb⟩
  exact ⟨rfl, hb⟩

/-- Plain up to k: no '$' ahead of a bracket. -/
def TxtTo (l : List UInt8) (k : Nat) : Prop := ∀ i : Nat, i < k → l[i]? = some 36 → l[i + 1]? ≠ some 123

set_option maxHeartbeats 4000000 in
set_option maxRecDepth 100000 in
theorem plainText_any (s : ByteArray) (hs : s.size ≤ 2147483647) (w : World) :
    Calls Tryz.prog 33 #[.string s] w (HasB (TxtOk s.data.toList) w) := by
  have HF : Hid (HasB (TxtOk s.data.toList) w (.returned (.bool false)) w) := Lib.hid ⟨false, rfl, (fun h => by cases h), rfl⟩
  go_enter Tryz.func33, Tryz.ntmps33
  go_wp2
  go_loop [3] (fun i => ∃ k : Nat, k ≤ s.size ∧ i = .int .i64 k ∧ TxtTo s.data.toList k) (fun i => s.size - (intOf i).toNat)
  case atStart => exact ⟨0, Nat.zero_le _, rfl, fun i hi => by omega⟩
  case round =>
    obtain ⟨k, hk, rfl, hall⟩ := hrel
    have HA := Lib.hid hall
    clear hall
    by_cases hlt : k < s.size
    · have hk0 : s.data.toList[k]? = some s[k] := by
        rw [List.getElem?_eq_getElem (by simpa using hlt)]; rfl
      by_cases h32 : s[k].toNat < 32
      · have m32 : ((s[k].toNat : Int) < 32) := by omega
        clear hk0
        go_wp2
        go_ret
        exact HF.out
      · have m32 : ¬ ((s[k].toNat : Int) < 32) := by omega
        by_cases h36 : s[k].toNat = 36
        · have m36 : ((s[k].toNat : Int) == 36) = true := by rw [h36]; rfl
          by_cases hlt2 : k + 1 < s.size
          · have hlt3 : (k : Int) + 1 < s.size := by omega
            have hge3 : (0 : Int) ≤ (k : Int) + 1 ∧ (k : Int) + 1 < s.size := by omega
            by_cases h123 : s[k + 1].toNat = 123
            · have m123 : ((s[k + 1].toNat : Int) == 123) = true := by rw [h123]; rfl
              clear hk0 h123 h36
              go_wp2
              go_ret
              exact HF.out
            · have m123 : ((s[k + 1].toNat : Int) == 123) = false := by simp; omega
              have hT : Hid (TxtTo s.data.toList (k + 1)) := Lib.hid fun i hi h1 h2 => by
                rcases Nat.lt_or_ge i k with h | h
                · exact HA.out i h h1 h2
                · have : i = k := by omega
                  subst this
                  rw [List.getElem?_eq_getElem (by simpa using hlt2)] at h2
                  injection h2 with h2
                  apply h123
                  show (s.data.toList[i + 1]).toNat = 123
                  rw [h2]
                  rfl
              clear hk0 h123 h36
              go_wp2
              go_round
              case rel => exact ⟨k + 1, by omega, by go_num, hT.out⟩
              case measure => simp [intOf]; omega
          · have hlt3 : ¬ ((k : Int) + 1 < s.size) := by omega
            have hT : Hid (TxtTo s.data.toList (k + 1)) := Lib.hid fun i hi h1 h2 => by
              rcases Nat.lt_or_ge i k with h | h
              · exact HA.out i h h1 h2
              · have : i = k := by omega
                subst this
                rw [List.getElem?_eq_none (by simp; omega)] at h2
                cases h2
            clear hk0 h36
            go_wp2
            go_round
            case rel => exact ⟨k + 1, by omega, by go_num, hT.out⟩
            case measure => simp [intOf]; omega
        · have m36 : ((s[k].toNat : Int) == 36) = false := by simp; omega
          have hT : Hid (TxtTo s.data.toList (k + 1)) := Lib.hid fun i hi h1 h2 => by
            rcases Nat.lt_or_ge i k with h | h
            · exact HA.out i h h1 h2
            · have : i = k := by omega
              subst this
              rw [hk0] at h1
              injection h1 with h1
              apply h36
              rw [h1]
              rfl
          clear hk0 h36
          go_wp2
          go_round
          case rel => exact ⟨k + 1, by omega, by go_num, hT.out⟩
          case measure => simp [intOf]; omega
    · have HP : Hid (TxtOk s.data.toList) := Lib.hid fun i h1 h2 => HA.out i (by
        rcases Nat.lt_or_ge i s.data.toList.length with h | h
        · simp at h; omega
        · rw [List.getElem?_eq_none h] at h1; cases h1) h1 h2
      by_cases h0 : s.size = 0
      · go_wp2
        go_ret
        exact ⟨_, rfl, fun _ => HP.out, rfl⟩
      · have hge : (0 : Int) ≤ (s.size : Int) - 1 ∧ (s.size : Int) - 1 < s.size := by omega
        go_wp2
        go_ret
        exact ⟨_, rfl, fun _ => HP.out, rfl⟩

set_option maxHeartbeats 4000000 in
set_option maxRecDepth 100000 in
theorem writable_text (t : ByteArray) (ht : t.size ≤ 2147483647) (w : World) :
    Calls Tryz.prog 9 #[nodeU 34 t ⟨#[]⟩ 0 none 0 0] w (YesB (TxtOk t.data.toList) w) := by
  have hB : Below w.heap.size w (w.alloc (.cells #[.int .i64 34, .string t, .string ⟨#[]⟩, .int .u64 0, .slice none 0 0] 26)) := (Below.refl _ w).alloc (Nat.le_refl _) _
  have hX : BoxAt w.heap.size 34 t ⟨#[]⟩ 0 none 0 0 (w.alloc (.cells #[.int .i64 34, .string t, .string ⟨#[]⟩, .int .u64 0, .slice none 0 0] 26)) := heap_alloc_new w _
  have hL : ∀ w, Calls Tryz.prog 19 #[nodeU 34 t ⟨#[]⟩ 0 none 0 0] w (YesB (TxtOk t.data.toList) w) := by
    intro w
    have HB : Hid (Below w.heap.size w (w.alloc (.cells #[.int .i64 34, .string t, .string ⟨#[]⟩, .int .u64 0, .slice none 0 0] 26))) := Lib.hid ((Below.refl _ w).alloc (Nat.le_refl _) _)
    unfold nodeU
    go_enter Tryz.func19, Tryz.ntmps19
    go_wp2_with fail
    ((with_reducible refine (plainText_any t ht _).mono ?_))
    rintro e w1 ⟨b, rfl, hb, rfl⟩
    have HP := Lib.hid hb
    clear hb
    go_wp2
    go_ret
    exact ⟨b, rfl, HP.out, HB.out⟩
  have hLl := hL (w.alloc (.cells #[.int .i64 34, .string t, .string ⟨#[]⟩, .int .u64 0, .slice none 0 0] 26))
  unfold nodeU at hLl ⊢
  have HB := Lib.hid hB
  have HX := Lib.hid hX
  have HL := Lib.hid hLl
  clear hB hX hL hLl
  go_enter Tryz.func9, Tryz.ntmps9
  go_wp2_with fail
  ((with_reducible refine HL.out.mono ?_))
  rintro e w1 ⟨b, rfl, hb, hb1⟩
  have HB1 := Lib.hid (HB.out.trans (hb1.mono HB.out.size))
  have HX1 := Lib.hid (HX.out.below hb1)
  obtain ⟨c0, c1, c2, c3, c4⟩ := HX1.out.five
  clear hb1
  cases b with
  | false =>
    go_wp2
    go_ret
    exact ⟨false, rfl, (fun h => by cases h), HB1.out⟩
  | true =>
    have HP := Lib.hid (hb rfl)
    have hR := rooted_leaf 34 t none 0 0 (.inr (.inl rfl)) w1
    unfold nodeU at hR
    have HR := Lib.hid hR
    clear hb hR
    go_wp2_with fail
    ((with_reducible refine HR.out.mono ?_))
    rintro e w2 ⟨rfl, hb2⟩
    have HB2 := Lib.hid (HB1.out.trans (hb2.mono HB1.out.size))
    obtain ⟨q0, q1, q2, q3, q4⟩ := (HX1.out.below hb2).five
    clear hb2 c0 c1 c2 c3 c4
    go_wp2
    refine wp_loop_rounds 1 ?_
    rw [rounds_succ]
    go_wp2
    go_ret
    exact ⟨true, rfl, fun _ => HP.out, HB2.out⟩

end Go.Proofs.YtciaahpocaejhaaGreatDoor
