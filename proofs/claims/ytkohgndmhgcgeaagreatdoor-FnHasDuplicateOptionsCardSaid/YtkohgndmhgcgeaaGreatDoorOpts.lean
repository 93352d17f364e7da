/- spec.optionName, spec.Options. -/
import Derived.Test.YtkohgndmhgcgeaaGreatDoorDup
import Derived.Test.YtkohgndmhgcgeaaGreatDoorUnL
namespace Go.Proofs.YtkohgndmhgcgeaaGreatDoor
open Go Go.RowKit
set_option linter.unusedVariables false
set_option linter.unusedSimpArgs false

def optNameOf (a : Tr) : ByteArray := if a.kind = 10 then (match a.kids with | i :: _ => i.text | [] => ⟨#[]⟩) else ⟨#[]⟩

theorem AstT.opt {x : Tr} (h : AstT x) (hk : x.kind = 12) : ∃ a, x = .mk 12 ⟨#[]⟩ ⟨#[]⟩ 0 [a] ∧ (a.kind = 10 ∨ a.kind = 11) ∧ AstT a := by
  cases h with
  | k12 a h c => exact ⟨a, rfl, c, h⟩
  | _ => exact absurd hk (by simp [Tr.kind])
theorem AstT.var {x : Tr} (h : AstT x) (hk : x.kind = 10) : ∃ t a, x = .mk 10 ⟨#[]⟩ ⟨#[]⟩ 0 [.mk 33 t ⟨#[]⟩ 0 [], a] ∧ AstT a := by
  cases h with
  | k10 a0 h0 c0 a1 h1 c1 =>
    cases h0 with
    | k33 t ht hz => exact ⟨t, a1, rfl, h1⟩
    | _ => exact absurd c0 (by simp [Tr.kind])
  | _ => exact absurd hk (by simp [Tr.kind])

theorem hit_name {name : ByteArray} (hn : name ≠ ⟨#[]⟩) {a : Tr} (ha : AstT a) (hk : a.kind = 10 ∨ a.kind = 11) : hitB name (.mk 12 ⟨#[]⟩ ⟨#[]⟩ 0 [a]) = decide (optNameOf a = name) := by
  rcases hk with h | h
  · obtain ⟨t, b, rfl, _⟩ := ha.var h
    simp [hitB, optNameOf, Tr.kind, Tr.kids, Tr.text]
    exact decide_eq_decide.2 Iff.rfl
  · have h2 : optNameOf a = ⟨#[]⟩ := if_neg (by omega)
    rw [hitB_no (by omega), h2]
    exact (decide_eq_false (Ne.symm hn)).symm

set_option maxHeartbeats 4000000 in
set_option maxRecDepth 100000 in
theorem optionName_any {N : Nat} {a : Tr} (ha : AstT a) (hk : a.kind = 10 ∨ a.kind = 11) (v : Value) (w : World) (hv : NodeIn w (· < N) a v) (hN : N ≤ w.heap.size) :
    Calls Tryz.prog 22 #[v] w fun e w' => e = .returned (.string (optNameOf a)) ∧ Below w.heap.size w w' := by
  by_cases h10 : a.kind = 10
  · obtain ⟨t, a1, rfl, _⟩ := ha.var h10
    obtain ⟨k', t', m', n', ks', ad, c, he, rfl⟩ := hv.form
    injection he with e1 e2 e3 e4 e5
    subst e1 e2 e3 e4 e5
    have hb0 := (Below.refl w.heap.size w).alloc (Nat.le_refl _) (.cells #[.int .i64 10, .string ⟨#[]⟩, .string ⟨#[]⟩, .int .u64 0, .slice ad 2 c] 25)
    obtain ⟨b, o, rfl, hbN, hkid⟩ := hv.kidsAt (by simp)
    obtain ⟨x0, y0, hn0, d0, d1, d2, d3, d4⟩ := hkid _ (Keep.of_below hb0 hN) 0 (by simp)
    simp only [List.getElem_cons_zero, Nat.zero_mul, Nat.add_zero, Tr.kind, Tr.text, Tr.more, Tr.num, Tr.kids] at d0 d1 d2 d3 d4
    have HB := Lib.hid hb0
    have hon : optNameOf (.mk 10 ⟨#[]⟩ ⟨#[]⟩ 0 [.mk 33 t ⟨#[]⟩ 0 [], a1]) = t := rfl
    rw [hon]
    unfold nodeU
    clear hv hkid hn0 hb0 hon
    go_enter Tryz.func22, Tryz.ntmps22
    go_wp2
    go_ret
    exact ⟨rfl, HB.out⟩
  · have h11 : a.kind = 11 := by omega
    obtain ⟨k, t', m', n', ks', ad, c, rfl, rfl⟩ := hv.form
    have hk11 : k = 11 := h11
    subst hk11
    have HB := Lib.hid ((Below.refl w.heap.size w).alloc (Nat.le_refl _) (.cells #[.int .i64 11, .string t', .string m', .int .u64 n', .slice ad ks'.length c] 25))
    have hon : optNameOf (.mk 11 t' m' n' ks') = ⟨#[]⟩ := rfl
    rw [hon]
    unfold nodeU
    clear hv hon h11 h10 hk ha
    go_enter Tryz.func22, Tryz.ntmps22
    go_wp2
    go_ret
    exact ⟨rfl, HB.out⟩

set_option maxHeartbeats 8000000 in
set_option maxRecDepth 100000 in
theorem options_any {N : Nat} {t m name : ByteArray} {a0 : Tr} {l1 l2 : List Tr} (hnm : name ≠ ⟨#[]⟩) (ha : ∀ x ∈ l2, AstT x) (hlen : l2.length ≤ 1000) (v : Value) (w : World) (hv : NodeIn w (· < N) (.mk 3 t m 0 [a0, .mk 1 ⟨#[]⟩ ⟨#[]⟩ 0 l1, .mk 1 ⟨#[]⟩ ⟨#[]⟩ 0 l2]) v) (hN : N ≤ w.heap.size) :
    Calls Tryz.prog 9 #[v, .string name] w fun e w' => e = .returned (.int .i64 (hits name l2 : Nat)) ∧ Below w.heap.size w w' := by
  obtain ⟨k', t', m', n', ks', ad, c, he, rfl⟩ := hv.form
  injection he with e1 e2 e3 e4 e5
  subst e1 e2 e3 e4 e5
  obtain ⟨b, o, rfl, hbN, hkid⟩ := hv.kidsAt (by simp)
  have hb0 := (Below.refl w.heap.size w).alloc (Nat.le_refl _) (.cells #[.int .i64 3, .string t, .string m, .int .u64 0, .slice (some ⟨b, o, none⟩) 3 c] 25)
  obtain ⟨x2, y2, hn2, d0, d1, d2, d3, d4'⟩ := hkid w (Keep.of_below (Below.refl _ w) hN) 2 (by simp)
  simp only [List.getElem_cons_zero, List.getElem_cons_succ, Nat.reduceMul, Tr.kind, Tr.text, Tr.more, Tr.num, Tr.kids] at hn2 d4'
  have d4 := (hb0.cell (p := ⟨b, o + 10 + 4, none⟩) (Nat.lt_of_lt_of_le hbN hN)).trans d4'
  have HROW := Lib.hid (RowN.of hn2)
  have HB0 := Lib.hid hb0
  have HA := Lib.hid ha
  have HNM := Lib.hid hnm
  have HT : Hid (hits name (l2.take l2.length) = hits name l2) := Lib.hid (by rw [List.take_length])
  unfold nodeU
  clear hv hkid hn2 ha hb0 d0 d1 d2 d3 d4' hnm
  go_enter Tryz.func9, Tryz.ntmps9
  go_wp2
  go_loopw [5, 14] (fun n i wr => ∃ j : Nat, j ≤ l2.length ∧ i = .int .i64 j ∧ n = .int .i64 (hits name (l2.take j) : Nat) ∧ Hid (Below w.heap.size w wr)) (fun _ i _ => l2.length - (intOf i).toNat)
  case atStart => exact ⟨0, Nat.zero_le _, rfl, rfl, HB0⟩
  case round =>
    obtain ⟨j, hj, rfl, rfl, HW⟩ := hrel
    by_cases hlt : j < l2.length
    · obtain ⟨b', o', rfl, hb'N, hkid'⟩ := HROW.out (by omega)
      obtain ⟨x1, y1, hin, e0, e1, e2, e3, e4⟩ := hkid' wr (Keep.of_below HW.out hN) j hlt
      have HAX := Lib.hid (HA.out _ (List.getElem_mem hlt))
      have HHT := Lib.hid (hits_take name l2 j hlt)
      have HHL : Hid (hits name (l2.take j) ≤ 1000) := Lib.hid (Nat.le_trans (hits_le name _) (by rw [List.length_take]; omega))
      clear hkid' HROW d4
      generalize l2[j] = x at *
      generalize hits name (l2.take j) = nj at *
      have hi1 : (j : Int) < l2.length := by omega
      have hi0 : (0 : Int) ≤ j := by omega
      have hNr : N ≤ wr.heap.size := Nat.le_trans hN HW.out.size
      by_cases h12 : x.kind = 12
      · obtain ⟨a, rfl, hka, hTa⟩ := HAX.out.opt h12
        simp only [Tr.kind, Tr.text, Tr.more, Tr.num, Tr.kids, List.length_cons, List.length_nil] at e0 e1 e2 e3 e4 hin
        obtain ⟨b1, o1, rfl, hb1N, hk1⟩ := hin.kidsAt (by simp)
        have hbq := (Below.refl wr.heap.size wr).alloc (Nat.le_refl _) (.cells #[.int .i64 12, .string ⟨#[]⟩, .string ⟨#[]⟩, .int .u64 0, .slice (some ⟨b1, o1, none⟩) 1 y1] 25)
        obtain ⟨xa, ya, hna, f0, f1, f2, f3, f4⟩ := hk1 (wr.alloc (.cells #[.int .i64 12, .string ⟨#[]⟩, .string ⟨#[]⟩, .int .u64 0, .slice (some ⟨b1, o1, none⟩) 1 y1] 25)) (Keep.of_below hbq hNr) 0 (by simp)
        simp only [List.getElem_cons_zero, Nat.zero_mul, Nat.add_zero] at hna f0 f1 f2 f3 f4
        have hon := optionName_any hTa hka _ _ hna (Nat.le_trans hNr hbq.size)
        unfold nodeU at hon
        have HON := Lib.hid hon
        have HBQ := Lib.hid (HW.out.trans (hbq.mono HW.out.size))
        have HJ0 : Hid (hits name (l2.take (j + 1)) = nj + if optNameOf a = name then 1 else 0) := Lib.hid (by rw [HHT.out, hit_name HNM.out hTa hka]; simp only [decide_eq_true_eq])
        clear hk1 hna hon hbq hin HAX HHT
        have hw1 : IntKind.i64.wrap ((nj : Int) + 1) = ((nj + 1 : Nat) : Int) := by have := HHL.out; rw [IntKind.wrap_i64]; omega
        go_wp2_with fail
        ((with_reducible refine HON.out.mono ?_))
        rintro e w4 ⟨rfl, hb4⟩
        have HB4 := Lib.hid (HBQ.out.trans (hb4.mono HBQ.out.size))
        clear hb4
        by_cases hn : optNameOf a = name
        · have HJ1 : Hid (hits name (l2.take (j + 1)) = nj + 1) := Lib.hid <| by have := HJ0.out; rwa [if_pos hn] at this
          rw [hn]
          go_wp2
          go_roundw
          case rel => exact ⟨j + 1, by omega, by go_num, by rw [HJ1.out]; go_num, HB4⟩
          case measure => simp [intOf]; omega
        · have HJ1 : Hid (hits name (l2.take (j + 1)) = nj) := Lib.hid <| by have := HJ0.out; rwa [if_neg hn] at this
          have hne := text_ne hn
          go_wp2
          go_roundw
          case rel => exact ⟨j + 1, by omega, by go_num, by rw [HJ1.out], HB4⟩
          case measure => simp [intOf]; omega
      · have HJ1 : Hid (hits name (l2.take (j + 1)) = nj) := Lib.hid <| by have := HHT.out; simpa [hitB, h12] using this
        have h12b : (x.kind == 12) = false := beq_eq_false_iff_ne.2 h12
        have HBQ := Lib.hid (HW.out.alloc HW.out.size (.cells #[.int .i64 x.kind, .string x.text, .string x.more, .int .u64 x.num, .slice x1 x.kids.length y1] 25))
        clear hin HAX HHT
        go_wp2
        go_roundw
        case rel => exact ⟨j + 1, by omega, by go_num, by rw [HJ1.out], HBQ⟩
        case measure => simp [intOf]; omega
    · have hje : j = l2.length := by omega
      subst hje
      rw [HT.out]
      go_wp2
      go_ret
      exact ⟨rfl, HW.out⟩

end Go.Proofs.YtkohgndmhgcgeaaGreatDoor
