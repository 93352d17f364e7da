/- spec.fits and spec.Fits over any tree: what a yes says. -/
import Derived.Test.YtkohgndmhgcgeaaGreatDoorFields
import Derived.Test.YtkohgndmhgcgeaaGreatDoorClass
namespace Go.Proofs.YtkohgndmhgcgeaaGreatDoor
open Go Go.RowKit
set_option linter.unusedVariables false

/-- The class of what stands at a place in a node of a kind. -/
def classAt (k : Int) (i : Nat) : Int := (shapeFixed k)[i]?.getD (shapeRest k)

/-- What spec.fits takes. -/
inductive FitsT : Tr → Prop
  | none : FitsT (.mk 0 ⟨#[]⟩ ⟨#[]⟩ 0 [])
  | node {k : Int} {t m : ByteArray} {n : Int} {ks : List Tr} (hk : 1 ≤ k ∧ k ≤ 53) (hf : FieldsF k t m n)
      (hs : k ≠ 1 → (shapeFixed k).length ≤ ks.length ∧ ((shapeFixed k).length < ks.length → shapeRest k ≠ 28) ∧ ∀ i (h : i < ks.length), ClassP ks[i] (classAt k i))
      (hkids : ∀ x ∈ ks, FitsT x) (hd : k = 27 → ks.length % 2 = 0) : FitsT (.mk k t m n ks)

theorem shapeFixed_bounds (k : Int) : (shapeFixed k).length ≤ 3 ∧ ∀ x ∈ shapeFixed k, 0 ≤ x ∧ x ≤ 28 := by
  unfold shapeFixed lookL
  cases h : shapeInts.find? (fun p => p.1 == k) with
  | none => exact ⟨by decide, fun x hx => by simp at hx⟩
  | some p =>
    have hm := List.mem_of_find?_eq_some h
    have : ∀ p ∈ shapeInts, p.2.length ≤ 3 ∧ ∀ x ∈ p.2, 0 ≤ x ∧ x ≤ 28 := by decide
    exact this p hm

theorem shapeRest_bounds (k : Int) : 0 ≤ shapeRest k ∧ shapeRest k ≤ 28 := by
  have := shapeRaw_bounds k
  unfold shapeRest
  split <;> omega

theorem classAt_bounds (k : Int) (i : Nat) : -9223372036854775808 ≤ classAt k i ∧ classAt k i ≤ 9223372036854775807 := by
  unfold classAt
  have h1 := shapeRest_bounds k
  cases h : (shapeFixed k)[i]? with
  | none => simp; omega
  | some x =>
    have h2 := (shapeFixed_bounds k).2 x (List.mem_of_getElem? h)
    simp; omega

theorem IntsIn.keep {w w' : World} {T : TypeId} {l : List Int} {v : Value} (h : IntsIn w T l v) (hb : Below w.heap.size w w') : IntsIn w' T l v := by
  rcases h with h | ⟨g, h1, h2⟩
  · exact .inl h
  · exact .inr ⟨g, h1, (hb.block g (Array.getElem?_eq_some_iff.1 h2).1).trans h2⟩

theorem IntsIn.cellAt {w : World} {T : TypeId} {l : List Int} {a : Option Addr} {n c i : Nat} (h : IntsIn w T l (.slice a n c)) (hi : i < l.length) : ∃ g : Nat, a = some ⟨g, 0, none⟩ ∧ n = l.length ∧ c = l.length ∧ w.cell? ⟨g, i, none⟩ = some (.int .i64 l[i]) := by
  rcases h with ⟨rfl, _⟩ | ⟨g, h1, h2⟩
  · simp at hi
  · cases h1
    refine ⟨g, rfl, rfl, rfl, ?_⟩
    rw [Lib.cell_of_heap h2]
    simp [hi]

def FitsRel (k : Int) (t m : ByteArray) (n : Int) (ks : List Tr) (a : Option Addr) (c : Nat) (v : Value) (w : World) (j : Nat) (wr : World) : Prop :=
  j ≤ ks.length ∧ (k ≠ 1 → ∀ i (h : i < ks.length), i < j → ClassP ks[i] (classAt k i)) ∧ (∀ y ∈ ks.take j, FitsT y) ∧ BoxAt w.heap.size k t m n a ks.length c wr ∧ IntsIn wr 3 (shapeFixed k) v ∧ Below w.heap.size w wr

set_option maxHeartbeats 4000000 in
set_option maxRecDepth 100000 in
/-- Out of the range of kinds: none alone is taken. -/
theorem fits_out (k : Int) (t m : ByteArray) (n : Int) (ks : List Tr) (a : Option Addr) (c : Nat) (lv : Int) (w : World) (h : lv ≤ 0 ∨ k ≤ 0 ∨ 54 ≤ k) :
    Calls Tryz.prog 25 #[nodeU k t m n a ks.length c, .int .i64 lv] w (YesB (FitsT (.mk k t m n ks)) w) := by
  have HB : Hid (Below w.heap.size w (w.alloc (.cells #[.int .i64 k, .string t, .string m, .int .u64 n, .slice a ks.length c] 25))) := Lib.hid ((Below.refl _ w).alloc (Nat.le_refl _) _)
  have HF : Hid (∀ w', Below w.heap.size w w' → YesB (FitsT (.mk k t m n ks)) w (.returned (.bool false)) w') := Lib.hid fun w' h => ⟨false, rfl, (fun h => by cases h), h⟩
  unfold nodeU
  by_cases h0 : lv ≤ 0
  · have h0' : decide (lv ≤ 0) = true := by simpa using h0
    have h1' : decide (0 < lv) = false := by simp; omega
    go_enter Tryz.func25, Tryz.ntmps25
    go_wp2
    go_ret
    exact HF.out _ HB.out
  have h0' : decide (lv ≤ 0) = false := by simpa using h0
  have h1' : decide (0 < lv) = true := by simp; omega
  by_cases hk : k = 0
  · subst hk
    have HN : Hid (t = ⟨#[]⟩ → m = ⟨#[]⟩ → n = 0 → ks.length = 0 → FitsT (.mk 0 t m n ks)) := Lib.hid (by rintro rfl rfl rfl h; have : ks = [] := List.length_eq_zero_iff.1 h; subst this; exact .none)
    clear h0 h
    by_cases ht : t = ⟨#[]⟩
    · have ht1 := isEmpty_of ht
      have ht2 := toList_of ht
      have HT := Lib.hid ht
      clear ht
      by_cases hm : m = ⟨#[]⟩
      · have hm1 := isEmpty_of hm
        have hm2 := toList_of hm
        have HM := Lib.hid hm
        clear hm
        by_cases hn : n = 0
        · have hn1 : (n == 0) = true := by simpa using hn
          have HNN := Lib.hid hn
          clear hn
          by_cases hks : ks.length = 0
          · have hl1 : ((ks.length : Int) == 0) = true := by simpa using hks
            have HFIN := Lib.hid (HN.out HT.out HM.out HNN.out hks)
            clear hks
            go_enter Tryz.func25, Tryz.ntmps25
            go_wp2
            go_ret
            exact ⟨_, rfl, fun _ => HFIN.out, HB.out⟩
          · have hl1 : ((ks.length : Int) == 0) = false := by simp; intro e; simp [e] at hks
            clear hks
            go_enter Tryz.func25, Tryz.ntmps25
            go_wp2
            go_ret
            exact HF.out _ HB.out
        · have hn1 : (n == 0) = false := by simpa using hn
          clear hn
          go_enter Tryz.func25, Tryz.ntmps25
          go_wp2
          go_ret
          exact HF.out _ HB.out
      · have hm1 := notEmpty_of hm
        clear hm
        go_enter Tryz.func25, Tryz.ntmps25
        go_wp2
        go_ret
        exact HF.out _ HB.out
    · have ht1 := notEmpty_of ht
      clear ht
      go_enter Tryz.func25, Tryz.ntmps25
      go_wp2
      go_ret
      exact HF.out _ HB.out
  · have hk0 : (k == 0) = false := by simpa using hk
    by_cases hle : k ≤ 0
    · have hle' : decide (k ≤ 0) = true := by simpa using hle
      go_enter Tryz.func25, Tryz.ntmps25
      go_wp2
      go_ret
      exact HF.out _ HB.out
    · have hle' : decide (k ≤ 0) = false := by simpa using hle
      have hge' : decide (54 ≤ k) = true := by simp; omega
      go_enter Tryz.func25, Tryz.ntmps25
      go_wp2
      go_ret
      exact HF.out _ HB.out

set_option maxHeartbeats 8000000 in
set_option maxRecDepth 100000 in
theorem fits_any (tr : Tr) : ∀ (v : Value) (lv : Int) (N : Nat) (w : World), NodeIn w (· < N) tr v → N ≤ w.heap.size → Lib.Utf8Tabs 1 2 w → -100 ≤ lv → lv ≤ 100 →
    Calls Tryz.prog 25 #[v, .int .i64 lv] w (YesB (FitsT tr) w) := by
  induction tr using Tr.ind with
  | h k t m n ks ih =>
    intro v lv N w hv hN hT hlv0 hlv1
    obtain ⟨k', x', m', n', ks', a, c, heq, rfl⟩ := hv.form
    cases heq
    by_cases hout : lv ≤ 0 ∨ k ≤ 0 ∨ 54 ≤ k
    · exact fits_out k t m n ks a c lv w hout
    obtain ⟨_, hl, htz, hmz, hkb, hnb⟩ := hv.len
    have h0' : decide (lv ≤ 0) = false := by simp; omega
    have hle' : decide (k ≤ 0) = false := by simp; omega
    have hge' : decide (54 ≤ k) = false := by simp; omega
    have hk0 : (k == 0) = false := by simp; omega
    have h1' : decide (0 < lv) = true := by simp; omega
    have HRG : Hid (1 ≤ k ∧ k ≤ 53) := Lib.hid (by omega)
    have HV := Lib.hid hv
    have HK := Lib.hid hv.kidsAt
    have HI := Lib.hid ih
    have HT := Lib.hid hT
    have hb0 : Below w.heap.size w (w.alloc (.cells #[.int .i64 k, .string t, .string m, .int .u64 n, .slice a ks.length c] 25)) := (Below.refl _ w).alloc (Nat.le_refl _) _
    have hx0 : BoxAt w.heap.size k t m n a ks.length c (w.alloc (.cells #[.int .i64 k, .string t, .string m, .int .u64 n, .slice a ks.length c] 25)) := heap_alloc_new w _
    have hP := plainFields_any k t m n a ks.length c hkb hnb htz hmz _ (Utf8Tabs_below hT hb0)
    unfold nodeU at hP ⊢
    have HP := Lib.hid hP
    have HB0 := Lib.hid hb0
    have HX0 := Lib.hid hx0
    have HF : Hid (∀ w', Below w.heap.size w w' → YesB (FitsT (.mk k t m n ks)) w (.returned (.bool false)) w') := Lib.hid fun w' h => ⟨false, rfl, (fun h => by cases h), h⟩
    have hlvp : 0 < lv := by omega
    clear hv ih hT hb0 hx0 hP hout
    go_enter Tryz.func25, Tryz.ntmps25
    go_wp2_with fail
    ((with_reducible refine HP.out.mono ?_))
    rintro e w1 ⟨bp, rfl, hbp, hb1⟩
    have HB1 := Lib.hid (HB0.out.trans (hb1.mono HB0.out.size))
    have HX1 := Lib.hid (HX0.out.below hb1)
    have HBP := Lib.hid hbp
    obtain ⟨c0, c1, c2, c3, c4⟩ := HX1.out.five
    clear hb1 hbp
    cases bp with
    | false =>
      go_wp2
      go_ret
      exact HF.out _ HB1.out
    | true =>
      have HFD := Lib.hid (HBP.out rfl)
      clear HBP
      have hS := shape_any k w1
      obtain ⟨hsf1, hsf2⟩ := shapeFixed_bounds k
      have hsr := shapeRest_bounds k
      have HSF := Lib.hid hsf2
      have HCA : Hid (∀ i, classAt k i = (shapeFixed k)[i]?.getD (shapeRest k)) := Lib.hid fun i => rfl
      have HEND : Hid ((k ≠ 1 → (shapeFixed k).length ≤ ks.length ∧ ((shapeFixed k).length < ks.length → shapeRest k ≠ 28) ∧ ∀ i (h : i < ks.length), ClassP ks[i] (classAt k i)) → (∀ y ∈ ks, FitsT y) → (k = 27 → ks.length % 2 = 0) → FitsT (.mk k t m n ks)) := Lib.hid fun h1 h2 h3 => .node HRG.out HFD.out h1 h2 h3
      have HS := Lib.hid hS
      clear hS hsf2
      go_wp2_with fail
      ((with_reducible refine HS.out.mono ?_))
      rintro e w2 ⟨vf, rfl, hvf, hb2⟩
      have hif := hvf.here
      obtain ⟨af, cf, hvfe⟩ := hif.len
      subst hvfe
      have HB2 := Lib.hid (HB1.out.trans (hb2.mono HB1.out.size))
      have HX2 := Lib.hid (HX1.out.below hb2)
      have HIF := Lib.hid hif
      clear c0 c1 c2 c3 c4 hb2 hif hvf
      obtain ⟨c0, c1, c2, c3, c4⟩ := HX2.out.five
      generalize hfx : shapeFixed k = fx at *
      generalize hrs : shapeRest k = rs at *
      have HFX := Lib.hid hfx
      have HRS := Lib.hid hrs
      clear hfx hrs
      by_cases hk1 : k = 1
      · have hk1' : (k != 1) = false := by simpa using hk1
        have HK1 := Lib.hid hk1
        clear hk1
        go_wp2
        go_loopw [87] (fun i wr => ∃ j : Nat, i = .int .i64 j ∧ FitsRel k t m n ks a c (.slice af fx.length cf) w j wr) (fun i _ => ks.length - (intOf i).toNat)
        case atStart => exact ⟨0, rfl, Nat.zero_le _, (fun _ i h hi => absurd hi (Nat.not_lt_zero _)), by simp, HX2.out, (by rw [HFX.out]; exact HIF.out), HB2.out⟩
        case round =>
          obtain ⟨j, rfl, hj, hcls, hall, hx, hif, hb⟩ := hrel
          rw [HFX.out] at hif
          have HB := Lib.hid hb
          have HX := Lib.hid hx
          have HCL := Lib.hid hcls
          have HAL := Lib.hid hall
          have HI2 := Lib.hid hif
          clear c0 c1 c2 c3 c4 hb hx hcls hall hif
          obtain ⟨c0, c1, c2, c3, c4⟩ := HX.out.five
          by_cases hlt : j < ks.length
          · obtain ⟨b, o, rfl, hbN, hkid⟩ := HK.out (by omega)
            obtain ⟨a', c', hin, d0, d1, d2, d3, d4⟩ := hkid wr (Keep.of_below HB.out hN) j hlt
            have htk := Lib.hid (List.take_succ_eq_append_getElem hlt)
            have hih := HI.out ks[j] (List.getElem_mem hlt)
            have HSTEP : Hid ((k ≠ 1 → ClassP ks[j] (classAt k j)) → FitsT ks[j] → (k ≠ 1 → ∀ i (h : i < ks.length), i < j + 1 → ClassP ks[i] (classAt k i)) ∧ (∀ y ∈ ks.take (j + 1), FitsT y)) := Lib.hid fun h1 h2 => ⟨fun hk i h hi => by
                by_cases hij : i = j
                · subst hij; exact h1 hk
                · exact HCL.out hk i h (by omega), fun y hy => by
                rw [htk.out] at hy
                rcases List.mem_append.1 hy with h | h
                · exact HAL.out y h
                · simp at h; subst h; exact h2⟩
            clear hkid
            generalize ks[j] = q at *
            have hBn := HB.out.alloc HB.out.size (.cells #[.int .i64 q.kind, .string q.text, .string q.more, .int .u64 q.num, .slice a' q.kids.length c'] 25)
            have hBw : Below wr.heap.size wr (wr.alloc (.cells #[.int .i64 q.kind, .string q.text, .string q.more, .int .u64 q.num, .slice a' q.kids.length c'] 25)) := (Below.refl _ wr).alloc (Nat.le_refl _) _
            have hin2 := hin.keep (Keep.of_below hBw (Nat.le_trans hN HB.out.size))
            have hX2 := HX.out.below hBw
            have hI2 := HI2.out.keep hBw
            have hQ2 : BoxAt wr.heap.size q.kind q.text q.more q.num a' q.kids.length c' (wr.alloc (.cells #[.int .i64 q.kind, .string q.text, .string q.more, .int .u64 q.num, .slice a' q.kids.length c'] 25)) := heap_alloc_new wr _
            have hih2 := hih _ (lv - 1) N _ hin2 (Nat.le_trans hN hBn.size) (Utf8Tabs_below HT.out hBn) (by omega) (by omega)
            unfold nodeU at hih2
            have HIH := Lib.hid hih2
            have HBn := Lib.hid hBn
            have HX3 := Lib.hid hX2
            have HI3 := Lib.hid hI2
            have HQ3 := Lib.hid hQ2
            obtain ⟨x0, x1, x2, x3, x4⟩ := HX3.out.five
            obtain ⟨z0, z1, z2, z3, z4⟩ := HQ3.out.five
            have hca := HCA.out j
            have HTAKE : Hid (j < fx.length → ∃ g : Nat, af = some ⟨g, 0, none⟩ ∧ wr.cell? ⟨g, j, none⟩ = some (.int .i64 (classAt k j)) ∧ (wr.alloc (.cells #[.int .i64 q.kind, .string q.text, .string q.more, .int .u64 q.num, .slice a' q.kids.length c'] 25)).cell? ⟨g, j, none⟩ = some (.int .i64 (classAt k j))) := Lib.hid fun h => by
              obtain ⟨g, hg, _, _, hcell⟩ := HI2.out.cellAt h
              rw [hca, List.getElem?_eq_getElem h]
              exact ⟨g, hg, hcell, (hBw.cell (p := ⟨g, j, none⟩) (cell_lt hcell)).trans hcell⟩
            have HREST : Hid (¬ j < fx.length → classAt k j = rs) := Lib.hid fun h => by rw [hca, List.getElem?_eq_none (by omega)]; rfl
            clear hih hin hin2 hX2 hI2 hQ2 hBn hBw hca hih2
            generalize classAt k j = cls at *
            by_cases hjf : j < fx.length
            · obtain ⟨g, rfl, hg0, hg1⟩ := HTAKE.out hjf
              go_wp2_with fail
              ((with_reducible refine HIH.out.mono ?_))
              rintro e w4 ⟨bk, rfl, hbk, hb4⟩
              have HB4 := Lib.hid (HBn.out.trans (hb4.mono HBn.out.size))
              have HX4 := Lib.hid (HX3.out.below hb4)
              have HI4 := Lib.hid (HI3.out.keep hb4)
              clear hb4
              cases bk with
              | false =>
                go_wp2
                go_ret
                exact HF.out _ HB4.out
              | true =>
                have hst := HSTEP.out (fun h => absurd HK1.out h) (hbk rfl)
                have HST := Lib.hid hst
                clear hst hbk
                go_wp2
                go_roundw
                case rel => exact ⟨j + 1, by go_num, by omega, HST.out.1, HST.out.2, HX4.out, (by rw [HFX.out]; exact HI4.out), HB4.out⟩
                case measure => simp [intOf]; omega
            · obtain rfl := HREST.out hjf
              go_wp2_with fail
              ((with_reducible refine HIH.out.mono ?_))
              rintro e w4 ⟨bk, rfl, hbk, hb4⟩
              have HB4 := Lib.hid (HBn.out.trans (hb4.mono HBn.out.size))
              have HX4 := Lib.hid (HX3.out.below hb4)
              have HI4 := Lib.hid (HI3.out.keep hb4)
              clear hb4
              cases bk with
              | false =>
                go_wp2
                go_ret
                exact HF.out _ HB4.out
              | true =>
                have hst := HSTEP.out (fun h => absurd HK1.out h) (hbk rfl)
                have HST := Lib.hid hst
                clear hst hbk
                go_wp2
                go_roundw
                case rel => exact ⟨j + 1, by go_num, by omega, HST.out.1, HST.out.2, HX4.out, (by rw [HFX.out]; exact HI4.out), HB4.out⟩
                case measure => simp [intOf]; omega
          · have hfull : ks.take j = ks := List.take_of_length_le (by omega)
            have HFIN := Lib.hid (HEND.out (fun h => absurd HK1.out h) (by have := HAL.out; rwa [hfull] at this) (fun h => absurd h (by have := HK1.out; omega)))
            have hk27 : (k != 27) = true := by have := HK1.out; simp; omega
            clear hfull
            go_wp2
            go_ret
            exact ⟨true, rfl, fun _ => HFIN.out, HB.out⟩
      · have hk1' : (k != 1) = true := by simpa using hk1
        have HK1 : Hid (k ≠ 1) := Lib.hid hk1
        clear hk1
        by_cases hless : ks.length < fx.length
        · go_wp2
          go_ret
          exact HF.out _ HB2.out
        · by_cases hmore : fx.length < ks.length
          · by_cases h28 : rs = 28
            · have h28' : (rs == 28) = true := by simpa using h28
              clear h28
              go_wp2
              go_ret
              exact HF.out _ HB2.out
            · have h28' : (rs == 28) = false := by simpa using h28
              have HOK : Hid (fx.length ≤ ks.length ∧ (fx.length < ks.length → rs ≠ 28)) := Lib.hid ⟨by omega, fun _ => h28⟩
              clear h28
              go_wp2
              go_loopw [87] (fun i wr => ∃ j : Nat, i = .int .i64 j ∧ FitsRel k t m n ks a c (.slice af fx.length cf) w j wr) (fun i _ => ks.length - (intOf i).toNat)
              case atStart => exact ⟨0, rfl, Nat.zero_le _, (fun _ i h hi => absurd hi (Nat.not_lt_zero _)), by simp, HX2.out, (by rw [HFX.out]; exact HIF.out), HB2.out⟩
              case round =>
                obtain ⟨j, rfl, hj, hcls, hall, hx, hif, hb⟩ := hrel
                rw [HFX.out] at hif
                have HB := Lib.hid hb
                have HX := Lib.hid hx
                have HCL := Lib.hid hcls
                have HAL := Lib.hid hall
                have HI2 := Lib.hid hif
                clear c0 c1 c2 c3 c4 hb hx hcls hall hif
                obtain ⟨c0, c1, c2, c3, c4⟩ := HX.out.five
                by_cases hlt : j < ks.length
                · obtain ⟨b, o, rfl, hbN, hkid⟩ := HK.out (by omega)
                  obtain ⟨a', c', hin, d0, d1, d2, d3, d4⟩ := hkid wr (Keep.of_below HB.out hN) j hlt
                  have htk := Lib.hid (List.take_succ_eq_append_getElem hlt)
                  have hih := HI.out ks[j] (List.getElem_mem hlt)
                  have HSTEP : Hid ((k ≠ 1 → ClassP ks[j] (classAt k j)) → FitsT ks[j] → (k ≠ 1 → ∀ i (h : i < ks.length), i < j + 1 → ClassP ks[i] (classAt k i)) ∧ (∀ y ∈ ks.take (j + 1), FitsT y)) := Lib.hid fun h1 h2 => ⟨fun hk i h hi => by
                      by_cases hij : i = j
                      · subst hij; exact h1 hk
                      · exact HCL.out hk i h (by omega), fun y hy => by
                      rw [htk.out] at hy
                      rcases List.mem_append.1 hy with h | h
                      · exact HAL.out y h
                      · simp at h; subst h; exact h2⟩
                  clear hkid
                  generalize ks[j] = q at *
                  have hBn := HB.out.alloc HB.out.size (.cells #[.int .i64 q.kind, .string q.text, .string q.more, .int .u64 q.num, .slice a' q.kids.length c'] 25)
                  have hBw : Below wr.heap.size wr (wr.alloc (.cells #[.int .i64 q.kind, .string q.text, .string q.more, .int .u64 q.num, .slice a' q.kids.length c'] 25)) := (Below.refl _ wr).alloc (Nat.le_refl _) _
                  have hin2 := hin.keep (Keep.of_below hBw (Nat.le_trans hN HB.out.size))
                  have hX2 := HX.out.below hBw
                  have hI2 := HI2.out.keep hBw
                  have hQ2 : BoxAt wr.heap.size q.kind q.text q.more q.num a' q.kids.length c' (wr.alloc (.cells #[.int .i64 q.kind, .string q.text, .string q.more, .int .u64 q.num, .slice a' q.kids.length c'] 25)) := heap_alloc_new wr _
                  have hcl := ofClass_any q _ (classAt k j) N _ hin2 (Nat.le_trans hN hBn.size) (classAt_bounds k j)
                  unfold nodeU at hcl
                  have HOC := Lib.hid hcl
                  have HIH := Lib.hid hih
                  have HIN := Lib.hid hin2
                  have HBn := Lib.hid hBn
                  have HX3 := Lib.hid hX2
                  have HI3 := Lib.hid hI2
                  have HQ3 := Lib.hid hQ2
                  obtain ⟨x0, x1, x2, x3, x4⟩ := HX3.out.five
                  obtain ⟨z0, z1, z2, z3, z4⟩ := HQ3.out.five
                  have hca := HCA.out j
                  have HTAKE : Hid (j < fx.length → ∃ g : Nat, af = some ⟨g, 0, none⟩ ∧ wr.cell? ⟨g, j, none⟩ = some (.int .i64 (classAt k j)) ∧ (wr.alloc (.cells #[.int .i64 q.kind, .string q.text, .string q.more, .int .u64 q.num, .slice a' q.kids.length c'] 25)).cell? ⟨g, j, none⟩ = some (.int .i64 (classAt k j))) := Lib.hid fun h => by
                    obtain ⟨g, hg, _, _, hcell⟩ := HI2.out.cellAt h
                    rw [hca, List.getElem?_eq_getElem h]
                    exact ⟨g, hg, hcell, (hBw.cell (p := ⟨g, j, none⟩) (cell_lt hcell)).trans hcell⟩
                  have HREST : Hid (¬ j < fx.length → classAt k j = rs) := Lib.hid fun h => by rw [hca, List.getElem?_eq_none (by omega)]; rfl
                  clear hih hin hin2 hX2 hI2 hQ2 hBn hBw hca hcl
                  generalize classAt k j = cls at *
                  by_cases hjf : j < fx.length
                  · obtain ⟨g, rfl, hg0, hg1⟩ := HTAKE.out hjf
                    go_wp2_with fail
                    ((with_reducible refine HOC.out.mono ?_))
                    rintro e w4 ⟨bk, rfl, hbk, hb4⟩
                    have HB4 := Lib.hid (HBn.out.trans (hb4.mono HBn.out.size))
                    have HX4 := Lib.hid (HX3.out.below hb4)
                    have HI4 := Lib.hid (HI3.out.keep hb4)
                    have HQ4 := Lib.hid (HQ3.out.below hb4)
                    have HIN4 := Lib.hid (HIN.out.keep (Keep.of_below hb4 (Nat.le_trans hN HBn.out.size)))
                    clear hb4
                    cases bk with
                    | false =>
                      go_wp2
                      go_ret
                      exact HF.out _ HB4.out
                    | true =>
                      have hih2 := HIH.out _ (lv - 1) N _ HIN4.out (Nat.le_trans hN HB4.out.size) (Utf8Tabs_below HT.out HB4.out) (by omega) (by omega)
                      unfold nodeU at hih2
                      have HIH4 := Lib.hid hih2
                      have HCLS := Lib.hid (hbk rfl)
                      obtain ⟨q0, q1, q2, q3, q4⟩ := HQ4.out.five
                      clear hih2 hbk
                      go_wp2_with fail
                      ((with_reducible refine HIH4.out.mono ?_))
                      rintro e w5 ⟨bf, rfl, hbf, hb5⟩
                      have HB5 := Lib.hid (HB4.out.trans (hb5.mono HB4.out.size))
                      have HX5 := Lib.hid (HX4.out.below hb5)
                      have HI5 := Lib.hid (HI4.out.keep hb5)
                      clear hb5 q0 q1 q2 q3 q4
                      cases bf with
                      | false =>
                        go_wp2
                        go_ret
                        exact HF.out _ HB5.out
                      | true =>
                        have hst := HSTEP.out (fun _ => HCLS.out) (hbf rfl)
                        have HST := Lib.hid hst
                        clear hst hbf
                        go_wp2
                        go_roundw
                        case rel => exact ⟨j + 1, by go_num, by omega, HST.out.1, HST.out.2, HX5.out, (by rw [HFX.out]; exact HI5.out), HB5.out⟩
                        case measure => simp [intOf]; omega
                  · obtain rfl := HREST.out hjf
                    go_wp2_with fail
                    ((with_reducible refine HOC.out.mono ?_))
                    rintro e w4 ⟨bk, rfl, hbk, hb4⟩
                    have HB4 := Lib.hid (HBn.out.trans (hb4.mono HBn.out.size))
                    have HX4 := Lib.hid (HX3.out.below hb4)
                    have HI4 := Lib.hid (HI3.out.keep hb4)
                    have HQ4 := Lib.hid (HQ3.out.below hb4)
                    have HIN4 := Lib.hid (HIN.out.keep (Keep.of_below hb4 (Nat.le_trans hN HBn.out.size)))
                    clear hb4
                    cases bk with
                    | false =>
                      go_wp2
                      go_ret
                      exact HF.out _ HB4.out
                    | true =>
                      have hih2 := HIH.out _ (lv - 1) N _ HIN4.out (Nat.le_trans hN HB4.out.size) (Utf8Tabs_below HT.out HB4.out) (by omega) (by omega)
                      unfold nodeU at hih2
                      have HIH4 := Lib.hid hih2
                      have HCLS := Lib.hid (hbk rfl)
                      obtain ⟨q0, q1, q2, q3, q4⟩ := HQ4.out.five
                      clear hih2 hbk
                      go_wp2_with fail
                      ((with_reducible refine HIH4.out.mono ?_))
                      rintro e w5 ⟨bf, rfl, hbf, hb5⟩
                      have HB5 := Lib.hid (HB4.out.trans (hb5.mono HB4.out.size))
                      have HX5 := Lib.hid (HX4.out.below hb5)
                      have HI5 := Lib.hid (HI4.out.keep hb5)
                      clear hb5 q0 q1 q2 q3 q4
                      cases bf with
                      | false =>
                        go_wp2
                        go_ret
                        exact HF.out _ HB5.out
                      | true =>
                        have hst := HSTEP.out (fun _ => HCLS.out) (hbf rfl)
                        have HST := Lib.hid hst
                        clear hst hbf
                        go_wp2
                        go_roundw
                        case rel => exact ⟨j + 1, by go_num, by omega, HST.out.1, HST.out.2, HX5.out, (by rw [HFX.out]; exact HI5.out), HB5.out⟩
                        case measure => simp [intOf]; omega
                · have hfull : ks.take j = ks := List.take_of_length_le (by omega)
                  have HFIN : Hid ((k = 27 → ks.length % 2 = 0) → FitsT (.mk k t m n ks)) := Lib.hid fun h3 => HEND.out (fun _ => ⟨HOK.out.1, HOK.out.2, fun i h => HCL.out HK1.out i h (by omega)⟩) (by have := HAL.out; rwa [hfull] at this) h3
                  clear hfull
                  by_cases h27 : k = 27
                  · have hk27 : (k != 27) = false := by simpa using h27
                    have hnn : (0 : Int) ≤ ks.length := by omega
                    have HMOD : Hid (((ks.length : Int) % 2 == 0) = true → FitsT (.mk k t m n ks)) := Lib.hid fun h => HFIN.out fun _ => by simp at h; omega
                    clear h27
                    go_wp2
                    go_ret
                    exact ⟨_, rfl, HMOD.out, HB.out⟩
                  · have hk27 : (k != 27) = true := by simpa using h27
                    have HFIN2 := Lib.hid (HFIN.out fun h => absurd h h27)
                    clear h27
                    go_wp2
                    go_ret
                    exact ⟨true, rfl, fun _ => HFIN2.out, HB.out⟩
          · have HOK : Hid (fx.length ≤ ks.length ∧ (fx.length < ks.length → rs ≠ 28)) := Lib.hid ⟨by omega, fun h => absurd h hmore⟩
            go_wp2
            go_loopw [87] (fun i wr => ∃ j : Nat, i = .int .i64 j ∧ FitsRel k t m n ks a c (.slice af fx.length cf) w j wr) (fun i _ => ks.length - (intOf i).toNat)
            case atStart => exact ⟨0, rfl, Nat.zero_le _, (fun _ i h hi => absurd hi (Nat.not_lt_zero _)), by simp, HX2.out, (by rw [HFX.out]; exact HIF.out), HB2.out⟩
            case round =>
              obtain ⟨j, rfl, hj, hcls, hall, hx, hif, hb⟩ := hrel
              rw [HFX.out] at hif
              have HB := Lib.hid hb
              have HX := Lib.hid hx
              have HCL := Lib.hid hcls
              have HAL := Lib.hid hall
              have HI2 := Lib.hid hif
              clear c0 c1 c2 c3 c4 hb hx hcls hall hif
              obtain ⟨c0, c1, c2, c3, c4⟩ := HX.out.five
              by_cases hlt : j < ks.length
              · obtain ⟨b, o, rfl, hbN, hkid⟩ := HK.out (by omega)
                obtain ⟨a', c', hin, d0, d1, d2, d3, d4⟩ := hkid wr (Keep.of_below HB.out hN) j hlt
                have htk := Lib.hid (List.take_succ_eq_append_getElem hlt)
                have hih := HI.out ks[j] (List.getElem_mem hlt)
                have HSTEP : Hid ((k ≠ 1 → ClassP ks[j] (classAt k j)) → FitsT ks[j] → (k ≠ 1 → ∀ i (h : i < ks.length), i < j + 1 → ClassP ks[i] (classAt k i)) ∧ (∀ y ∈ ks.take (j + 1), FitsT y)) := Lib.hid fun h1 h2 => ⟨fun hk i h hi => by
                    by_cases hij : i = j
                    · subst hij; exact h1 hk
                    · exact HCL.out hk i h (by omega), fun y hy => by
                    rw [htk.out] at hy
                    rcases List.mem_append.1 hy with h | h
                    · exact HAL.out y h
                    · simp at h; subst h; exact h2⟩
                clear hkid
                generalize ks[j] = q at *
                have hBn := HB.out.alloc HB.out.size (.cells #[.int .i64 q.kind, .string q.text, .string q.more, .int .u64 q.num, .slice a' q.kids.length c'] 25)
                have hBw : Below wr.heap.size wr (wr.alloc (.cells #[.int .i64 q.kind, .string q.text, .string q.more, .int .u64 q.num, .slice a' q.kids.length c'] 25)) := (Below.refl _ wr).alloc (Nat.le_refl _) _
                have hin2 := hin.keep (Keep.of_below hBw (Nat.le_trans hN HB.out.size))
                have hX2 := HX.out.below hBw
                have hI2 := HI2.out.keep hBw
                have hQ2 : BoxAt wr.heap.size q.kind q.text q.more q.num a' q.kids.length c' (wr.alloc (.cells #[.int .i64 q.kind, .string q.text, .string q.more, .int .u64 q.num, .slice a' q.kids.length c'] 25)) := heap_alloc_new wr _
                have hcl := ofClass_any q _ (classAt k j) N _ hin2 (Nat.le_trans hN hBn.size) (classAt_bounds k j)
                unfold nodeU at hcl
                have HOC := Lib.hid hcl
                have HIH := Lib.hid hih
                have HIN := Lib.hid hin2
                have HBn := Lib.hid hBn
                have HX3 := Lib.hid hX2
                have HI3 := Lib.hid hI2
                have HQ3 := Lib.hid hQ2
                obtain ⟨x0, x1, x2, x3, x4⟩ := HX3.out.five
                obtain ⟨z0, z1, z2, z3, z4⟩ := HQ3.out.five
                have hca := HCA.out j
                have HTAKE : Hid (j < fx.length → ∃ g : Nat, af = some ⟨g, 0, none⟩ ∧ wr.cell? ⟨g, j, none⟩ = some (.int .i64 (classAt k j)) ∧ (wr.alloc (.cells #[.int .i64 q.kind, .string q.text, .string q.more, .int .u64 q.num, .slice a' q.kids.length c'] 25)).cell? ⟨g, j, none⟩ = some (.int .i64 (classAt k j))) := Lib.hid fun h => by
                  obtain ⟨g, hg, _, _, hcell⟩ := HI2.out.cellAt h
                  rw [hca, List.getElem?_eq_getElem h]
                  exact ⟨g, hg, hcell, (hBw.cell (p := ⟨g, j, none⟩) (cell_lt hcell)).trans hcell⟩
                have HREST : Hid (¬ j < fx.length → classAt k j = rs) := Lib.hid fun h => by rw [hca, List.getElem?_eq_none (by omega)]; rfl
                clear hih hin hin2 hX2 hI2 hQ2 hBn hBw hca hcl
                generalize classAt k j = cls at *
                by_cases hjf : j < fx.length
                · obtain ⟨g, rfl, hg0, hg1⟩ := HTAKE.out hjf
                  go_wp2_with fail
                  ((with_reducible refine HOC.out.mono ?_))
                  rintro e w4 ⟨bk, rfl, hbk, hb4⟩
                  have HB4 := Lib.hid (HBn.out.trans (hb4.mono HBn.out.size))
                  have HX4 := Lib.hid (HX3.out.below hb4)
                  have HI4 := Lib.hid (HI3.out.keep hb4)
                  have HQ4 := Lib.hid (HQ3.out.below hb4)
                  have HIN4 := Lib.hid (HIN.out.keep (Keep.of_below hb4 (Nat.le_trans hN HBn.out.size)))
                  clear hb4
                  cases bk with
                  | false =>
                    go_wp2
                    go_ret
                    exact HF.out _ HB4.out
                  | true =>
                    have hih2 := HIH.out _ (lv - 1) N _ HIN4.out (Nat.le_trans hN HB4.out.size) (Utf8Tabs_below HT.out HB4.out) (by omega) (by omega)
                    unfold nodeU at hih2
                    have HIH4 := Lib.hid hih2
                    have HCLS := Lib.hid (hbk rfl)
                    obtain ⟨q0, q1, q2, q3, q4⟩ := HQ4.out.five
                    clear hih2 hbk
                    go_wp2_with fail
                    ((with_reducible refine HIH4.out.mono ?_))
                    rintro e w5 ⟨bf, rfl, hbf, hb5⟩
                    have HB5 := Lib.hid (HB4.out.trans (hb5.mono HB4.out.size))
                    have HX5 := Lib.hid (HX4.out.below hb5)
                    have HI5 := Lib.hid (HI4.out.keep hb5)
                    clear hb5 q0 q1 q2 q3 q4
                    cases bf with
                    | false =>
                      go_wp2
                      go_ret
                      exact HF.out _ HB5.out
                    | true =>
                      have hst := HSTEP.out (fun _ => HCLS.out) (hbf rfl)
                      have HST := Lib.hid hst
                      clear hst hbf
                      go_wp2
                      go_roundw
                      case rel => exact ⟨j + 1, by go_num, by omega, HST.out.1, HST.out.2, HX5.out, (by rw [HFX.out]; exact HI5.out), HB5.out⟩
                      case measure => simp [intOf]; omega
                · exact absurd hlt (by omega)
              · have hfull : ks.take j = ks := List.take_of_length_le (by omega)
                have HFIN : Hid ((k = 27 → ks.length % 2 = 0) → FitsT (.mk k t m n ks)) := Lib.hid fun h3 => HEND.out (fun _ => ⟨HOK.out.1, HOK.out.2, fun i h => HCL.out HK1.out i h (by omega)⟩) (by have := HAL.out; rwa [hfull] at this) h3
                clear hfull
                by_cases h27 : k = 27
                · have hk27 : (k != 27) = false := by simpa using h27
                  have hnn : (0 : Int) ≤ ks.length := by omega
                  have HMOD : Hid (((ks.length : Int) % 2 == 0) = true → FitsT (.mk k t m n ks)) := Lib.hid fun h => HFIN.out fun _ => by simp at h; omega
                  clear h27
                  go_wp2
                  go_ret
                  exact ⟨_, rfl, HMOD.out, HB.out⟩
                · have hk27 : (k != 27) = true := by simpa using h27
                  have HFIN2 := Lib.hid (HFIN.out fun h => absurd h h27)
                  clear h27
                  go_wp2
                  go_ret
                  exact ⟨true, rfl, fun _ => HFIN2.out, HB.out⟩

def BigFits (t : Tr) : Prop := FitsT t ∧ t.count ≤ 400

set_option maxHeartbeats 2000000 in
set_option maxRecDepth 100000 in
theorem Fits_any (t : Tr) (v : Value) (N : Nat) (w : World) (hv : NodeIn w (· < N) t v) (hN : N ≤ w.heap.size) (hT : Lib.Utf8Tabs 1 2 w) :
    Calls Tryz.prog 15 #[v] w (YesB (BigFits t) w) := by
  obtain ⟨k, x, m, n, ks, a, c, rfl, rfl⟩ := hv.form
  have hb0 : Below w.heap.size w (w.alloc (.cells #[.int .i64 k, .string x, .string m, .int .u64 n, .slice a ks.length c] 25)) := (Below.refl _ w).alloc (Nat.le_refl _) _
  have hbb : Below w.heap.size w ((w.alloc (.cells #[.int .i64 k, .string x, .string m, .int .u64 n, .slice a ks.length c] 25)).alloc (.cells #[.int .i64 400] 3)) := hb0.alloc (by simp) _
  have hin := hv.keep (Keep.of_below hbb hN)
  have hL : IntAt (w.heap.size + 1) 400 ((w.alloc (.cells #[.int .i64 k, .string x, .string m, .int .u64 n, .slice a ks.length c] 25)).alloc (.cells #[.int .i64 400] 3)) := row_two _ _ _
  have hX : BoxAt w.heap.size k x m n a ks.length c ((w.alloc (.cells #[.int .i64 k, .string x, .string m, .int .u64 n, .slice a ks.length c] 25)).alloc (.cells #[.int .i64 400] 3)) := (Below.heap_alloc _ _ _ (by simp)).trans (heap_alloc_new w _)
  have hF := few_any _ _ 400 (w.heap.size + 1) N _ hin (by omega) (by simp; omega) hL (by omega) (by omega)
  have HV := Lib.hid hv
  have HB := Lib.hid hbb
  have HX := Lib.hid hX
  have HT := Lib.hid hT
  unfold nodeU at hF ⊢
  have HFW := Lib.hid hF
  have hs2 : ((w.alloc (.cells #[.int .i64 k, .string x, .string m, .int .u64 n, .slice a ks.length c] 25)).alloc (.cells #[.int .i64 400] 3)).heap.size = w.heap.size + 2 := by simp
  have HS := Lib.hid hs2
  clear hv hb0 hbb hin hL hX hF hT hs2
  go_enter Tryz.func15, Tryz.ntmps15
  go_wp2_with fail
  ((with_reducible refine HFW.out.mono ?_))
  rintro e w1 ⟨b, y, rfl, _, _, hb, hg⟩
  have hb1 : Below w.heap.size w w1 := HB.out.grown hg (by have := HS.out; omega) (fun r e => by cases e; omega)
  have hX1 : BoxAt w.heap.size k x m n a ks.length c w1 := (hg.block _ HX.out.lt (by intro e; have := Option.some.inj e; omega)).trans HX.out
  have HB1 := Lib.hid hb1
  obtain ⟨c0, c1, c2, c3, c4⟩ := hX1.five
  clear hb1 hX1 hg
  cases b with
  | false =>
    go_wp2
    go_ret
    exact ⟨false, rfl, (fun h => by cases h), HB1.out⟩
  | true =>
    have hcnt := hb rfl
    have HCN : Hid ((Tr.mk k x m n ks).count ≤ 400) := Lib.hid (by omega)
    have hfit := fits_any _ _ 12 N w1 (HV.out.keep (Keep.of_below HB1.out hN)) (Nat.le_trans hN HB1.out.size) (Utf8Tabs_below HT.out HB1.out) (by omega) (by omega)
    unfold nodeU at hfit
    have HFT := Lib.hid hfit
    clear hcnt hb hfit
    go_wp2_with fail
    ((with_reducible refine HFT.out.mono ?_))
    rintro e w2 ⟨b2, rfl, hb2, hbl⟩
    have HB2 := Lib.hid (HB1.out.trans (hbl.mono HB1.out.size))
    have HR : Hid (b2 = true → BigFits (.mk k x m n ks)) := Lib.hid fun h => ⟨hb2 h, HCN.out⟩
    clear hbl hb2
    go_wp2
    go_ret
    exact ⟨b2, rfl, HR.out, HB2.out⟩

end Go.Proofs.YtkohgndmhgcgeaaGreatDoor
