/- spec.Writable of a duration: numbers from 0 on, one at least. -/
import Derived.Test.YtciaahpocaejhaaGreatDoorLit
import Derived.Test.YtciaahpocaejhaaGreatDoorMags
namespace Go.Proofs.YtciaahpocaejhaaGreatDoor
open Go Go.RowKit
set_option linter.unusedVariables false
set_option linter.unusedSimpArgs false

set_option maxHeartbeats 2000000 in
set_option maxRecDepth 100000 in
theorem literal_mag (u : ByteArray) (n : Int) (a : Option Addr) (c : Nat) (w : World) :
    Calls Tryz.prog 19 #[nodeU 40 u ⟨#[]⟩ n a 0 c] w fun e w' => e = .returned (.bool true) ∧ Below w.heap.size w w' := by
  have HB : Hid (Below w.heap.size w (w.alloc (.cells #[.int .i64 40, .string u, .string ⟨#[]⟩, .int .u64 n, .slice a 0 c] 26))) := Lib.hid ((Below.refl _ w).alloc (Nat.le_refl _) _)
  unfold nodeU
  go_enter Tryz.func19, Tryz.ntmps19
  go_wp2
  go_ret
  exact ⟨rfl, HB.out⟩

set_option maxHeartbeats 2000000 in
set_option maxRecDepth 100000 in
theorem rooted_mag (u : ByteArray) (n : Int) (a : Option Addr) (c : Nat) (w : World) :
    Calls Tryz.prog 20 #[nodeU 40 u ⟨#[]⟩ n a 0 c] w fun e w' => e = .returned (.bool true) ∧ Below w.heap.size w w' := by
  have HB : Hid (Below w.heap.size w (w.alloc (.cells #[.int .i64 40, .string u, .string ⟨#[]⟩, .int .u64 n, .slice a 0 c] 26))) := Lib.hid ((Below.refl _ w).alloc (Nat.le_refl _) _)
  unfold nodeU
  go_enter Tryz.func20, Tryz.ntmps20
  go_wp2
  go_ret
  exact ⟨rfl, HB.out⟩

set_option maxHeartbeats 4000000 in
set_option maxRecDepth 100000 in
theorem writable_mag (u : ByteArray) (n : Int) (a : Option Addr) (c : Nat) (w : World) :
    Calls Tryz.prog 9 #[nodeU 40 u ⟨#[]⟩ n a 0 c] w (YesB True w) := by
  have hB : Below w.heap.size w (w.alloc (.cells #[.int .i64 40, .string u, .string ⟨#[]⟩, .int .u64 n, .slice a 0 c] 26)) := (Below.refl _ w).alloc (Nat.le_refl _) _
  have hX : BoxAt w.heap.size 40 u ⟨#[]⟩ n a 0 c (w.alloc (.cells #[.int .i64 40, .string u, .string ⟨#[]⟩, .int .u64 n, .slice a 0 c] 26)) := heap_alloc_new w _
  have hLl := literal_mag u n a c (w.alloc (.cells #[.int .i64 40, .string u, .string ⟨#[]⟩, .int .u64 n, .slice a 0 c] 26))
  unfold nodeU at hLl ⊢
  have HB := Lib.hid hB
  have HX := Lib.hid hX
  have HL := Lib.hid hLl
  clear hB hX hLl
  go_enter Tryz.func9, Tryz.ntmps9
  go_wp2_with fail
  ((with_reducible refine HL.out.mono ?_))
  rintro e w1 ⟨rfl, hb1⟩
  have HB1 := Lib.hid (HB.out.trans (hb1.mono HB.out.size))
  have HX1 := Lib.hid (HX.out.below hb1)
  obtain ⟨c0, c1, c2, c3, c4⟩ := HX1.out.five
  have hR := rooted_mag u n a c w1
  unfold nodeU at hR
  have HR := Lib.hid hR
  clear hb1 hR
  go_wp2_with fail
  ((with_reducible refine HR.out.mono ?_))
  rintro e w2 ⟨rfl, hb2⟩
  have HB2 := Lib.hid (HB1.out.trans (hb2.mono HB1.out.size))
  obtain ⟨q0, q1, q2, q3, q4⟩ := (HX1.out.below hb2).five
  clear hb2 c0 c1 c2 c3 c4
  go_wp2
  refine wp_loop_rounds 1 ?_
  rw [rounds_succ]
  go_wp2
  go_ret
  exact ⟨true, rfl, fun _ => trivial, HB2.out⟩

def NumsOk (l : List (Int × ByteArray)) : Prop := (∀ x ∈ l, x.1 ≤ 9223372036854775807) ∧ l ≠ []

theorem take_more {α : Type} {P : α → Prop} (l : List α) (j : Nat) (h : j < l.length) (h1 : ∀ x ∈ l.take j, P x) (h2 : P l[j]) : ∀ x ∈ l.take (j + 1), P x := by
  intro x hx
  rw [List.take_succ_eq_append_getElem h] at hx
  rcases List.mem_append.1 hx with h3 | h3
  · exact h1 x h3
  · simp at h3
    subst h3
    exact h2

theorem span_kid {w wr : World} {l : List (Int × ByteArray)} {a : Option Addr} {c N : Nat} (hv : NodeIn w (· < N) (spanT l) (nodeU 39 ⟨#[]⟩ ⟨#[]⟩ 0 a l.length c)) (hpos : 0 < l.length) :
    ∃ b o : Nat, a = some ⟨b, o, none⟩ ∧ ∀ wr, Keep (· < N) w wr → ∀ j (hj : j < l.length), ∃ (a' : Option Addr) (c' : Nat),
      wr.cell? ⟨b, o + j * 5, none⟩ = some (.int .i64 40) ∧ wr.cell? ⟨b, o + j * 5 + 1, none⟩ = some (.string l[j].2) ∧ wr.cell? ⟨b, o + j * 5 + 2, none⟩ = some (.string ⟨#[]⟩) ∧ wr.cell? ⟨b, o + j * 5 + 3, none⟩ = some (.int .u64 l[j].1) ∧ wr.cell? ⟨b, o + j * 5 + 4, none⟩ = some (.slice a' 0 c') := by
  obtain ⟨b, o, ha, _, hk⟩ := hv.kidsAt (by simpa using hpos)
  refine ⟨b, o, ha, fun wr hw j hj => ?_⟩
  obtain ⟨a', c', _, h0, h1, h2, h3, h4⟩ := hk wr hw j (by simpa using hj)
  simp only [List.getElem_map] at h0 h1 h2 h3 h4
  exact ⟨a', c', h0, h1, h2, h3, h4⟩

set_option maxHeartbeats 4000000 in
set_option maxRecDepth 100000 in
theorem literal_span (l : List (Int × ByteArray)) (hl : ∀ x ∈ l, MagIn x) (a : Option Addr) (c N : Nat) (w : World) (hv : NodeIn w (· < N) (spanT l) (nodeU 39 ⟨#[]⟩ ⟨#[]⟩ 0 a l.length c)) (hN : N ≤ w.heap.size) (hlen : l.length ≤ 9223372036854775807) :
    Calls Tryz.prog 19 #[nodeU 39 ⟨#[]⟩ ⟨#[]⟩ 0 a l.length c] w (YesB (NumsOk l) w) := by
  have hB : Below w.heap.size w (w.alloc (.cells #[.int .i64 39, .string ⟨#[]⟩, .string ⟨#[]⟩, .int .u64 0, .slice a l.length c] 26)) := (Below.refl _ w).alloc (Nat.le_refl _) _
  have hX : BoxAt w.heap.size 39 ⟨#[]⟩ ⟨#[]⟩ 0 a l.length c (w.alloc (.cells #[.int .i64 39, .string ⟨#[]⟩, .string ⟨#[]⟩, .int .u64 0, .slice a l.length c] 26)) := heap_alloc_new w _
  have HK := Lib.hid (fun h => span_kid (wr := w) hv h)
  have HL := Lib.hid hl
  have HB := Lib.hid hB
  have HX := Lib.hid hX
  clear hv hl hB hX
  unfold nodeU
  go_enter Tryz.func19, Tryz.ntmps19
  go_wp2
  go_loopw [32] (fun i wr => ∃ j : Nat, j ≤ l.length ∧ i = .int .i64 j ∧ Hid (∀ x ∈ l.take j, x.1 ≤ 9223372036854775807) ∧ Hid (BoxAt w.heap.size 39 ⟨#[]⟩ ⟨#[]⟩ 0 a l.length c wr) ∧ Hid (Below w.heap.size w wr)) (fun i _ => l.length - (intOf i).toNat)
  case atStart => exact ⟨0, Nat.zero_le _, rfl, Lib.hid (by simp), HX, HB⟩
  case round =>
    obtain ⟨j, hj, rfl, HA, HY, HW⟩ := hrel
    by_cases hlt : j < l.length
    · obtain ⟨b, o, rfl, hkid⟩ := HK.out (by omega)
      obtain ⟨a', c', d0, d1, d2, d3, d4⟩ := hkid wr (Keep.of_below HW.out hN) j hlt
      have hm := HL.out l[j] (List.getElem_mem hlt)
      have HT := Lib.hid (fun h => take_more (P := fun x : Int × ByteArray => x.1 ≤ 9223372036854775807) l j hlt HA.out h)
      clear hkid
      obtain ⟨⟨hm0, hm1⟩, _⟩ := hm
      generalize l[j] = q at *
      obtain ⟨n, u⟩ := q
      simp only at d0 d1 d2 d3 d4 hm0 hm1
      have HW2 := Lib.hid (HW.out.alloc HW.out.size (.cells #[.int .i64 40, .string u, .string ⟨#[]⟩, .int .u64 n, .slice a' 0 c'] 26))
      have HY2 : Hid (BoxAt w.heap.size 39 ⟨#[]⟩ ⟨#[]⟩ 0 (some ⟨b, o, none⟩) l.length c (wr.alloc (.cells #[.int .i64 40, .string u, .string ⟨#[]⟩, .int .u64 n, .slice a' 0 c'] 26))) := Lib.hid ((Below.heap_alloc _ _ _ HY.out.lt).trans HY.out)
      by_cases hn : n ≤ 9223372036854775807
      · have hw : IntKind.i64.wrap n = n := by rw [IntKind.wrap_i64]; omega
        have hn0 : ¬ n < 0 := by omega
        go_wp2
        go_roundw
        case rel => exact ⟨j + 1, by omega, by go_num, Lib.hid (HT.out hn), HY2, HW2⟩
        case measure => simp [intOf]; omega
      · have hw : IntKind.i64.wrap n = n - 18446744073709551616 := by rw [IntKind.wrap_i64]; omega
        have hn0 : n - 18446744073709551616 < 0 := by omega
        go_wp2
        go_ret
        exact ⟨false, rfl, (fun h => by cases h), HW2.out⟩
    · obtain ⟨c0, c1, c2, c3, c4⟩ := HY.out.five
      have hfull : l.take j = l := List.take_of_length_le (by omega)
      rw [hfull] at HA
      by_cases h0 : l.length = 0
      · have e0 : decide ((0 : Int) < l.length) = false := decide_eq_false (by omega)
        go_wp2
        go_ret
        exact ⟨false, rfl, (fun h => by cases h), HW.out⟩
      · have HP : Hid (NumsOk l) := Lib.hid ⟨HA.out, fun e => h0 (by rw [e]; rfl)⟩
        go_wp2
        go_ret
        exact ⟨_, rfl, (fun _ => HP.out), HW.out⟩

set_option maxHeartbeats 4000000 in
set_option maxRecDepth 100000 in
theorem writable_span (l : List (Int × ByteArray)) (hl : ∀ x ∈ l, MagIn x) (a : Option Addr) (c N : Nat) (w : World) (hv : NodeIn w (· < N) (spanT l) (nodeU 39 ⟨#[]⟩ ⟨#[]⟩ 0 a l.length c)) (hN : N ≤ w.heap.size) (hlen : l.length ≤ 9223372036854775807) :
    Calls Tryz.prog 9 #[nodeU 39 ⟨#[]⟩ ⟨#[]⟩ 0 a l.length c] w (YesB (NumsOk l) w) := by
  have hB : Below w.heap.size w (w.alloc (.cells #[.int .i64 39, .string ⟨#[]⟩, .string ⟨#[]⟩, .int .u64 0, .slice a l.length c] 26)) := (Below.refl _ w).alloc (Nat.le_refl _) _
  have hX : BoxAt w.heap.size 39 ⟨#[]⟩ ⟨#[]⟩ 0 a l.length c (w.alloc (.cells #[.int .i64 39, .string ⟨#[]⟩, .string ⟨#[]⟩, .int .u64 0, .slice a l.length c] 26)) := heap_alloc_new w _
  have hLl := literal_span l hl a c N _ (hv.keep (Keep.of_below hB hN)) (Nat.le_trans hN hB.size) hlen
  have HK := Lib.hid (fun h => span_kid (wr := w) hv h)
  have HV := Lib.hid hv
  unfold nodeU at hLl ⊢
  have HB := Lib.hid hB
  have HX := Lib.hid hX
  have HLL := Lib.hid hLl
  clear hB hX hLl hv hl
  go_enter Tryz.func9, Tryz.ntmps9
  go_wp2_with fail
  ((with_reducible refine HLL.out.mono ?_))
  rintro e w1 ⟨b, rfl, hb, hb1⟩
  have HB1 := Lib.hid (HB.out.trans (hb1.mono HB.out.size))
  have HX1 := Lib.hid (HX.out.below hb1)
  obtain ⟨c0, c1, c2, c3, c4⟩ := HX1.out.five
  clear hb1
  cases b with
  | false =>
    go_wp2
    go_ret
    exact ⟨false, rfl, (fun h => by cases h), HB1.out⟩
  | true =>
    have HP := Lib.hid (hb rfl)
    have hR := rooted_leaf 39 ⟨#[]⟩ a l.length c (.inr (.inr rfl)) w1
    unfold nodeU at hR
    have HR := Lib.hid hR
    clear hb hR
    go_wp2_with fail
    ((with_reducible refine HR.out.mono ?_))
    rintro e w2 ⟨rfl, hb2⟩
    have HB2 := Lib.hid (HB1.out.trans (hb2.mono HB1.out.size))
    have HX2 := Lib.hid (HX1.out.below hb2)
    obtain ⟨q0, q1, q2, q3, q4⟩ := HX2.out.five
    clear hb2 c0 c1 c2 c3 c4
    go_wp2
    go_loopw [16] (fun i wr => ∃ j : Nat, j ≤ l.length ∧ i = .int .i64 j ∧ Hid (BoxAt w.heap.size 39 ⟨#[]⟩ ⟨#[]⟩ 0 a l.length c wr) ∧ Hid (Below w.heap.size w wr)) (fun i _ => l.length - (intOf i).toNat)
    case atStart => exact ⟨0, Nat.zero_le _, rfl, HX2, HB2⟩
    case round =>
      obtain ⟨j, hj, rfl, HY, HW⟩ := hrel
      obtain ⟨c0, c1, c2, c3, c4⟩ := HY.out.five
      by_cases hlt : j < l.length
      · obtain ⟨b, o, rfl, hkid⟩ := HK.out (by omega)
        obtain ⟨a', c', d0, d1, d2, d3, d4⟩ := hkid wr (Keep.of_below HW.out hN) j hlt
        clear hkid
        generalize l[j] = q at *
        obtain ⟨n, u⟩ := q
        simp only at d0 d1 d2 d3 d4
        have HW2 := Lib.hid (HW.out.alloc HW.out.size (.cells #[.int .i64 40, .string u, .string ⟨#[]⟩, .int .u64 n, .slice a' 0 c'] 26))
        have HY2 : Hid (BoxAt w.heap.size 39 ⟨#[]⟩ ⟨#[]⟩ 0 (some ⟨b, o, none⟩) l.length c (wr.alloc (.cells #[.int .i64 40, .string u, .string ⟨#[]⟩, .int .u64 n, .slice a' 0 c'] 26))) := Lib.hid ((Below.heap_alloc _ _ _ HY.out.lt).trans HY.out)
        have hZ : BoxAt wr.heap.size 40 u ⟨#[]⟩ n a' 0 c' (wr.alloc (.cells #[.int .i64 40, .string u, .string ⟨#[]⟩, .int .u64 n, .slice a' 0 c'] 26)) := heap_alloc_new wr _
        have HZ := Lib.hid hZ
        have hWM := writable_mag u n a' c' (wr.alloc (.cells #[.int .i64 40, .string u, .string ⟨#[]⟩, .int .u64 n, .slice a' 0 c'] 26))
        unfold nodeU at hWM
        have HWM := Lib.hid hWM
        clear hWM hZ
        go_wp2_with fail
        ((with_reducible refine HWM.out.mono ?_))
        rintro e w5 ⟨b5, rfl, _, hb5⟩
        have HW5 := Lib.hid (HW2.out.trans (hb5.mono HW2.out.size))
        have HY5 := Lib.hid (HY2.out.below hb5)
        obtain ⟨r0, r1, r2, r3, r4⟩ := HY5.out.five
        obtain ⟨s0, s1, s2, s3, s4⟩ := (HZ.out.below hb5).five
        clear hb5 c0 c1 c2 c3 c4 d0 d1 d2 d3 d4
        cases b5 with
        | false =>
          go_wp2
          go_ret
          exact ⟨false, rfl, (fun h => by cases h), HW5.out⟩
        | true =>
          go_wp2
          go_roundw
          case rel => exact ⟨j + 1, by omega, by go_num, HY5, HW5⟩
          case measure => simp [intOf]; omega
      · go_wp2
        go_ret
        exact ⟨true, rfl, fun _ => HP.out, HW.out⟩

end Go.Proofs.YtciaahpocaejhaaGreatDoor
