/- spec.listOf and spec.ofClass at every class: what a yes says. -/
import Derived.Test.YtdillheepidncaaGreatDoorClass
namespace Go.Proofs.YtdillheepidncaaGreatDoor
open Go Go.RowKit
set_option linter.unusedVariables false

/-- A list of nodes of a class. -/
def ListC (t : Tr) (c : Int) : Prop := t.kind = 1 ∧ ∀ x ∈ t.kids, FlatC x c

set_option maxHeartbeats 2000000 in
set_option maxRecDepth 100000 in
theorem listOf_any (t : Tr) (v : Value) (c : Int) (N : Nat) (w : World) (hv : NodeIn w (· < N) t v) (hN : N ≤ w.heap.size) (hc : c = 1 ∨ c = 21) :
    Calls Tryz.prog 125 #[v, .int .i64 c] w (YesB (ListC t c) w) := by
  obtain ⟨k, x, m, n, ks, a, cc, rfl, rfl⟩ := hv.form
  obtain ⟨_, hl, _⟩ := hv.len
  have HK := Lib.hid (hv.kidsAt)
  have hb0 : Below w.heap.size w (w.alloc (.cells #[.int .i64 k, .string x, .string m, .int .u64 n, .slice a ks.length cc] 25)) := (Below.refl _ w).alloc (Nat.le_refl _) _
  have HB0 := Lib.hid hb0
  have HC : Hid (c = 1 ∨ c = 21) := Lib.hid hc
  clear hv hb0 hc
  unfold nodeU
  by_cases hk : k = 1
  · have hk' : (k != 1) = false := by simpa using hk
    have HK1 := Lib.hid hk
    clear hk
    go_enter Tryz.func125, Tryz.ntmps125
    go_wp2
    go_loopw [13] (fun i wr => ∃ j : Nat, i = .int .i64 j ∧ j ≤ ks.length ∧ (∀ y ∈ ks.take j, FlatC y c) ∧ Below w.heap.size w wr) (fun i _ => ks.length - (intOf i).toNat)
    case atStart => exact ⟨0, rfl, Nat.zero_le _, by simp, HB0.out⟩
    case round =>
      obtain ⟨j, rfl, hj, hall, hb⟩ := hrel
      have HB := Lib.hid hb
      have HA := Lib.hid hall
      clear hb hall
      by_cases hlt : j < ks.length
      · obtain ⟨b, o, rfl, hbN, hkid⟩ := HK.out (by omega)
        obtain ⟨a', c', hin, d0, d1, d2, d3, d4⟩ := hkid wr (Keep.of_below HB.out hN) j hlt
        have htk := Lib.hid (List.take_succ_eq_append_getElem hlt)
        clear hkid
        generalize ks[j] = q at *
        have hBn := HB.out.alloc HB.out.size (.cells #[.int .i64 q.kind, .string q.text, .string q.more, .int .u64 q.num, .slice a' q.kids.length c'] 25)
        have HBn := Lib.hid hBn
        have hin2 := hin.keep (Keep.of_below ((Below.refl wr.heap.size wr).alloc (Nat.le_refl _) (.cells #[.int .i64 q.kind, .string q.text, .string q.more, .int .u64 q.num, .slice a' q.kids.length c'] 25)) (Nat.le_trans hN HB.out.size))
        have hcl := ofClass_flat q _ c N _ hin2 (by have := HB.out.size; simp; omega) (by have := HC.out; omega) (by have := HC.out; omega) (by have := HC.out; omega) (by have := HC.out; omega)
        unfold nodeU at hcl
        have HCL := Lib.hid hcl
        clear hBn hin hin2 hcl
        go_wp2_with fail
        ((with_reducible refine HCL.out.mono ?_))
        rintro e w2 ⟨bb, rfl, hbb, hb2⟩
        have HB2 := Lib.hid (HBn.out.trans (hb2.mono HBn.out.size))
        have HBB := Lib.hid hbb
        clear hb2 hbb
        cases bb with
        | false =>
          go_wp2
          go_ret
          exact ⟨false, rfl, (fun h => by cases h), HB2.out⟩
        | true =>
          have HB3 := Lib.hid (HBB.out rfl)
          clear HBB
          go_wp2
          go_roundw
          case rel => exact ⟨j + 1, by go_num, by omega, by rw [htk.out]; intro y hy; rcases List.mem_append.1 hy with h | h; exact HA.out y h; simp at h; subst h; exact HB3.out, HB2.out⟩
          case measure => simp [intOf]; omega
      · have hall : ∀ y ∈ ks, FlatC y c := by
          have := HA.out
          rwa [List.take_of_length_le (by omega)] at this
        have HALL : Hid (ListC (.mk k x m n ks) c) := Lib.hid ⟨HK1.out, hall⟩
        clear hall
        go_wp2
        go_ret
        exact ⟨true, rfl, fun _ => HALL.out, HB.out⟩
  · have hk' : (k != 1) = true := by simpa using hk
    go_enter Tryz.func125, Tryz.ntmps125
    go_wp2
    go_ret
    exact ⟨false, rfl, (fun h => by cases h), HB0.out⟩

/-- What nodes of a class are. -/
def ClassP (t : Tr) (c : Int) : Prop :=
  (c = 16 → ListC t 21) ∧ (c = 17 → t.kind = 1 ∧ KidsAre t 5) ∧ (c = 18 → ListC t 1) ∧ (c ≠ 16 → c ≠ 17 → c ≠ 18 → FlatC t c)

set_option maxHeartbeats 2000000 in
set_option maxRecDepth 100000 in
theorem ofClass_any (t : Tr) (v : Value) (c : Int) (N : Nat) (w : World) (hv : NodeIn w (· < N) t v) (hN : N ≤ w.heap.size) (hc : -9223372036854775808 ≤ c ∧ c ≤ 9223372036854775807) :
    Calls Tryz.prog 74 #[v, .int .i64 c] w (YesB (ClassP t c) w) := by
  by_cases hflat : c ≠ 16 ∧ c ≠ 17 ∧ c ≠ 18
  · refine (ofClass_flat t v c N w hv hN hflat.1 hflat.2.1 hflat.2.2 hc).mono ?_
    rintro e w' ⟨b, rfl, hb, hb1⟩
    exact ⟨b, rfl, fun h => ⟨fun h => absurd h hflat.1, fun h => absurd h hflat.2.1, fun h => absurd h hflat.2.2, fun _ _ _ => hb h⟩, hb1⟩
  obtain ⟨k, x, m, n, ks, a, cc, rfl, rfl⟩ := hv.form
  have hb0 : Below w.heap.size w (w.alloc (.cells #[.int .i64 k, .string x, .string m, .int .u64 n, .slice a ks.length cc] 25)) := (Below.refl _ w).alloc (Nat.le_refl _) _
  have hin := hv.keep (Keep.of_below hb0 hN)
  have hNa : N ≤ (w.alloc (.cells #[.int .i64 k, .string x, .string m, .int .u64 n, .slice a ks.length cc] 25)).heap.size := by simp; omega
  have hL1 := listOf_any _ _ 1 N _ hin hNa (.inl rfl)
  have hL21 := listOf_any _ _ 21 N _ hin hNa (.inr rfl)
  have hK5 := kidsAre_any _ _ 5 N _ hin hNa
  unfold nodeU at hL1 hL21 hK5 ⊢
  have HL1 := Lib.hid hL1
  have HL21 := Lib.hid hL21
  have HK5 := Lib.hid hK5
  have HB0 := Lib.hid hb0
  have hs : w.heap.size ≤ (w.alloc (.cells #[.int .i64 k, .string x, .string m, .int .u64 n, .slice a ks.length cc] 25)).heap.size := by simp
  have HS := Lib.hid hs
  clear hv hin hL1 hL21 hK5 hb0 hs
  by_cases h16 : c = 16
  · subst h16
    clear hflat
    go_enter Tryz.func74, Tryz.ntmps74
    go_wp2_with fail
    ((with_reducible refine HL21.out.mono ?_))
    rintro e w1 ⟨b, rfl, hb, hb1⟩
    have HP : Hid (b = true → ClassP (.mk k x m n ks) 16) := Lib.hid fun h => ⟨fun _ => hb h, (fun h => by omega), (fun h => by omega), (fun h => absurd rfl h)⟩
    have HB1 := Lib.hid (HB0.out.trans (hb1.mono HS.out))
    clear hb hb1
    go_wp2
    go_ret
    exact ⟨b, rfl, HP.out, HB1.out⟩
  by_cases h17 : c = 17
  · subst h17
    clear hflat h16
    by_cases hk : k = 1
    · have HK1 := Lib.hid hk
      have hk' : (k == 1) = true := by simpa using hk
      clear hk
      go_enter Tryz.func74, Tryz.ntmps74
      go_wp2_with fail
      ((with_reducible refine HK5.out.mono ?_))
      rintro e w1 ⟨b, rfl, hb, hb1⟩
      have HP : Hid (b = true → ClassP (.mk k x m n ks) 17) := Lib.hid fun h => ⟨(fun h => by omega), fun _ => ⟨HK1.out, hb h⟩, (fun h => by omega), (fun _ h => absurd rfl h)⟩
      have HB1 := Lib.hid (HB0.out.trans (hb1.mono HS.out))
      clear hb hb1
      go_wp2
      go_ret
      exact ⟨b, rfl, HP.out, HB1.out⟩
    · have hk' : (k == 1) = false := by simpa using hk
      go_enter Tryz.func74, Tryz.ntmps74
      go_wp2
      go_ret
      exact ⟨false, rfl, (fun h => by cases h), HB0.out⟩
  obtain rfl : c = 18 := by omega
  clear hflat h16 h17
  go_enter Tryz.func74, Tryz.ntmps74
  go_wp2_with fail
  ((with_reducible refine HL1.out.mono ?_))
  rintro e w1 ⟨b, rfl, hb, hb1⟩
  have HP : Hid (b = true → ClassP (.mk k x m n ks) 18) := Lib.hid fun h => ⟨(fun h => by omega), (fun h => by omega), fun _ => hb h, (fun _ _ h => absurd rfl h)⟩
  have HB1 := Lib.hid (HB0.out.trans (hb1.mono HS.out))
  clear hb hb1
  go_wp2
  go_ret
  exact ⟨b, rfl, HP.out, HB1.out⟩

end Go.Proofs.YtdillheepidncaaGreatDoor
