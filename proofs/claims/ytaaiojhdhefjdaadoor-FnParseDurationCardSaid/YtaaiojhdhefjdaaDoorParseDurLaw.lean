/- FnParseDuration: the walk of the law. -/
import Derived.Test.YtaaiojhdhefjdaaDoorMagn
import Derived.Test.YtaaiojhdhefjdaaDoorSpanTree
import Derived.Test.YtaaiojhdhefjdaaDoorSame
import Derived.Test.YtaaiojhdhefjdaaDoorDigits
namespace Go.Proofs.YtaaiojhdhefjdaaDoor
open Go Go.RowKit Go.Shelf
set_option linter.unusedVariables false
set_option linter.unusedSimpArgs false

set_option maxHeartbeats 2000000 in
set_option maxRecDepth 100000 in
theorem zzFits1_any (k : Int) (t m : ByteArray) (n : Int) (a : Option Addr) (l c : Nat) (w : World) :
    Calls Tryd.prog 4 #[nodeU k t m n a l c] w (YesB True w) := by
  have HB : Hid (Below w.heap.size w (w.alloc (.cells #[.int .i64 k, .string t, .string m, .int .u64 n, .slice a l c] 25))) := Lib.hid ((Below.refl _ w).alloc (Nat.le_refl _) _)
  have HF : Hid (YesB True w (.returned (.bool false)) (w.alloc (.cells #[.int .i64 k, .string t, .string m, .int .u64 n, .slice a l c] 25))) := Lib.hid ⟨false, rfl, fun _ => trivial, HB.out⟩
  have HY : Hid (YesB True w (.returned (.bool true)) (w.alloc (.cells #[.int .i64 k, .string t, .string m, .int .u64 n, .slice a l c] 25))) := Lib.hid ⟨true, rfl, fun _ => trivial, HB.out⟩
  unfold nodeU
  go_enter Tryd.func4, Tryd.ntmps4
  go_wp2
  all_goals (go_ret; first | exact HF.out | exact HY.out)

/-- A part as it is written: with a mu, where it is asked. -/
def partMu (mu : Bool) (x : Int × ByteArray) : List UInt8 × List UInt8 := (Lib.decDigits x.1.toNat, if mu = true ∧ x.2 = ⟨#[117, 115]⟩ then muL else x.2.data.toList)

theorem spanB_snoc (l) (x) : spanB (l ++ [x]) = spanB l ++ (x.1 ++ x.2) := by simp [spanB]

theorem partMu_ok (mu : Bool) (x : Int × ByteArray) (hu : x.2 ∈ unitTexts) : PartP (partMu mu x) := by
  refine ⟨decDigits_ne _, decDigits_digits _, ?_⟩
  show (if mu = true ∧ x.2 = ⟨#[117, 115]⟩ then muL else x.2.data.toList) ∈ plainU ∨ _
  by_cases h : mu = true ∧ x.2 = ⟨#[117, 115]⟩
  · right
    show (if mu = true ∧ x.2 = ⟨#[117, 115]⟩ then muL else x.2.data.toList) = muL
    rw [if_pos h]
  · rw [if_neg h]
    exact .inl (unit_plain _ hu).1

theorem partMu_parsed (mu : Bool) (x : Int × ByteArray) (hu : x.2 ∈ unitTexts) (h0 : 0 ≤ x.1) : parsedOf (partMu mu x) = x := by
  have hp := (unit_plain _ hu).1
  have h1 : (decV (Lib.decDigits x.1.toNat) : Int) = x.1 := by rw [decV_digits, Int.toNat_of_nonneg h0]
  have h2 : unitOut (if mu = true ∧ x.2 = ⟨#[117, 115]⟩ then muL else x.2.data.toList) = x.2 := by
    by_cases h : mu = true ∧ x.2 = ⟨#[117, 115]⟩
    · rw [if_pos h, h.2]
      rfl
    · rw [if_neg h]
      have hn : x.2.data.toList ≠ muL := fun e => by rw [e] at hp; exact absurd hp (by decide)
      unfold unitOut
      rw [if_neg hn]
  show ((decV (Lib.decDigits x.1.toNat) : Int), unitOut (if mu = true ∧ x.2 = ⟨#[117, 115]⟩ then muL else x.2.data.toList)) = x
  rw [h1, h2]

theorem partMu_len (mu : Bool) (x : Int × ByteArray) (hu : x.2 ∈ unitTexts) (h1 : x.1 ≤ 9223372036854775807) : (partMu mu x).1.length + (partMu mu x).2.length ≤ 23 := by
  have h2 : (Lib.decDigits x.1.toNat).length ≤ 20 := decDigits_20 _ (by omega)
  have h3 := (unit_plain _ hu).2
  have h4 : x.2.data.toList.length = x.2.size := by simp
  show (Lib.decDigits x.1.toNat).length + (if mu = true ∧ x.2 = ⟨#[117, 115]⟩ then muL else x.2.data.toList).length ≤ 23
  split
  · have : muL.length = 3 := rfl
    omega
  · omega

theorem spanMu_len (mu : Bool) (l : List (Int × ByteArray)) (hu : ∀ x ∈ l, x.2 ∈ unitTexts) (h1 : ∀ x ∈ l, x.1 ≤ 9223372036854775807) : (spanB (l.map (partMu mu))).length ≤ 23 * l.length := by
  induction l with
  | nil => simp [spanB]
  | cons x l ih =>
    have h2 := ih (fun y hy => hu y (by simp [hy])) (fun y hy => h1 y (by simp [hy]))
    have h3 := partMu_len mu x (hu x (by simp)) (h1 x (by simp))
    rw [List.map_cons, spanB_cons, List.length_append, List.length_append, List.length_cons]
    omega

theorem parse_awake (w : World) (hT : Lib.Utf8Tabs 0 1 w) :
    Calls Tryd.prog 5 #[.string ⟨#[49, 104]⟩] w (ParsedAt [(1, ⟨#[104]⟩)] w) := by
  have h := parseImpl_any ⟨#[49, 104]⟩ [([49], [104])] rfl (by intro y hy; simp at hy; subst hy; exact ⟨by decide, by decide, .inl (by decide)⟩) (by intro y hy; simp at hy; subst hy; decide) (by decide) (by decide) w hT
  have e : [(([49], [104]) : List UInt8 × List UInt8)].map parsedOf = [(1, ⟨#[104]⟩)] := rfl
  rwa [e] at h

set_option maxHeartbeats 8000000 in
set_option maxRecDepth 100000 in
theorem parseLaw_any (tr : Tr) (v : Value) (N : Nat) (w : World) (hv : NodeIn w (· < N) tr v) (hN : N ≤ w.heap.size) (mu : Bool) (hT : Lib.Utf8Tabs 0 1 w) :
    Calls Tryd.prog 3 #[v, .bool mu] w fun e w' => e = .returned (.bool true) ∧ Below w.heap.size w w' := by
  obtain ⟨k, x, m, n, ks, a, c, rfl, rfl⟩ := hv.form
  have hb0 : Below w.heap.size w (w.alloc (.cells #[.int .i64 k, .string x, .string m, .int .u64 n, .slice a ks.length c] 25)) := (Below.refl _ w).alloc (Nat.le_refl _) _
  have hx0 : BoxAt w.heap.size k x m n a ks.length c (w.alloc (.cells #[.int .i64 k, .string x, .string m, .int .u64 n, .slice a ks.length c] 25)) := heap_alloc_new w _
  have hz := zzFits1_any k x m n a ks.length c (w.alloc (.cells #[.int .i64 k, .string x, .string m, .int .u64 n, .slice a ks.length c] 25))
  unfold nodeU at hz ⊢
  have HV := Lib.hid hv
  have HT := Lib.hid hT
  have HB0 := Lib.hid hb0
  have HX0 := Lib.hid hx0
  have HZ := Lib.hid hz
  clear hv hT hb0 hx0 hz
  go_enter Tryd.func3, Tryd.ntmps3
  go_wp2_with fail
  ((with_reducible refine HZ.out.mono ?_))
  rintro e w1 ⟨b, rfl, _, hb1⟩
  have HB1 := Lib.hid (HB0.out.trans (hb1.mono HB0.out.size))
  have HX1 := Lib.hid (HX0.out.below hb1)
  clear hb1
  cases b with
  | false =>
    go_wp2
    go_ret
    exact ⟨rfl, HB1.out⟩
  | true =>
    have HPA := Lib.hid (parse_awake w1 (Utf8Tabs_below HT.out HB1.out))
    go_wp2_with fail
    ((with_reducible refine HPA.out.mono ?_))
    rintro e w2 ⟨a1, c1, rfl, hn1, hb2⟩
    have HB2 := Lib.hid (HB1.out.trans (hb2.mono HB1.out.size))
    have HX2 := Lib.hid (HX1.out.below hb2)
    obtain ⟨b1, o1, rfl, _, hkid⟩ := NodeIn.kidsAt hn1 (by simp)
    have hb3 : Below w2.heap.size w2 (w2.alloc (.cells #[.int .i64 39, .string ⟨#[]⟩, .string ⟨#[]⟩, .int .u64 0, .slice (some ⟨b1, o1, none⟩) 1 c1] 25)) := (Below.refl _ w2).alloc (Nat.le_refl _) _
    obtain ⟨_, _, _, _, e1, _, _, _⟩ := hkid _ (fun b hb => hb3.block b hb.2) 0 (by simp)
    have e1' : (w2.alloc (.cells #[.int .i64 39, .string ⟨#[]⟩, .string ⟨#[]⟩, .int .u64 0, .slice (some ⟨b1, o1, none⟩) 1 c1] 25)).cell? ⟨b1, o1 + 1, none⟩ = some (.string ⟨#[104]⟩) := e1
    have HB3 := Lib.hid (HB2.out.trans (hb3.mono HB2.out.size))
    have HX3 := Lib.hid (HX2.out.below hb3)
    have hF := Fits_any _ _ N _ (HV.out.keep (Keep.of_below HB3.out hN)) (Nat.le_trans hN HB3.out.size) (Utf8Tabs_below HT.out HB3.out)
    unfold nodeU at hF
    have HF := Lib.hid hF
    obtain ⟨c0, cc1, c2, c3, c4⟩ := HX3.out.five
    clear hb2 hn1 hkid hb3 e1 hF
    unfold nodeU
    go_wp2_with fail
    ((with_reducible refine HF.out.mono ?_))
    rintro e w4 ⟨b, rfl, hb, hb4⟩
    have HB4 := Lib.hid (HB3.out.trans (hb4.mono HB3.out.size))
    have HX4 := Lib.hid (HX3.out.below hb4)
    clear c0 cc1 c2 c3 c4 e1' hb4
    cases b with
    | false =>
      go_wp2
      go_ret
      exact ⟨rfl, HB4.out⟩
    | true =>
      have HFIT := Lib.hid (hb rfl)
      clear hb
      obtain ⟨c0, cc1, c2, c3, c4⟩ := HX4.out.five
      by_cases hk : k = 39
      · obtain ⟨l, hl⟩ := fits_span _ HFIT.out.1 hk
        obtain ⟨hun, hln⟩ := span_fits l (by rw [← hl]; exact HFIT.out)
        unfold spanT at hl
        cases hl
        have hlm : (l.map magT).length = l.length := by simp
        rw [hlm] at HX4 c4 HV
        clear hk
        have HVS : Hid (NodeIn w (· < N) (spanT l) (nodeU 39 ⟨#[]⟩ ⟨#[]⟩ 0 a l.length c)) := HV
        have HKID := Lib.hid (fun h => span_kid (wr := w) HVS.out h)
        have HIN := Lib.hid (span_in HVS.out)
        have HUN := Lib.hid hun
        clear hun hlm
        by_cases h0 : l.length = 0
        · have hlz : ((l.length : Int) == 0) = true := by rw [h0]; rfl
          clear h0
          go_wp2
          go_ret
          exact ⟨rfl, HB4.out⟩
        · have hlz : ((l.length : Int) == 0) = false := beq_eq_false_iff_ne.2 (by omega)
          have hlz2 : 0 < l.length := by omega
          clear h0
          go_wp2
          go_loopw [8, 54] (fun sv i wr => ∃ (j : Nat) (sB : ByteArray), j ≤ l.length ∧ i = .int .i64 j ∧ sv = .string sB ∧ Hid (sB.data.toList = spanB ((l.take j).map (partMu mu))) ∧ Hid (∀ y ∈ l.take j, y.1 ≤ 9223372036854775807) ∧ Hid (BoxAt w.heap.size 39 ⟨#[]⟩ ⟨#[]⟩ 0 a l.length c wr) ∧ Hid (Below w.heap.size w wr)) (fun _ i _ => l.length - (intOf i).toNat)
          case atStart => exact ⟨0, ⟨#[]⟩, Nat.zero_le _, rfl, rfl, Lib.hid rfl, Lib.hid (by simp), HX4, HB4⟩
          case round =>
            obtain ⟨j, sB, hj, rfl, rfl, HSB, HNB, HX5, HB5⟩ := hrel
            by_cases hlt : j < l.length
            · obtain ⟨b, o, rfl, hkid⟩ := HKID.out (by omega)
              obtain ⟨a', c', d0, d1, d2, d3, d4⟩ := hkid wr (Keep.of_below HB5.out hN) j hlt
              have hin := HIN.out l[j] (List.getElem_mem hlt)
              have HT1 := Lib.hid (fun h => take_more (P := fun x : Int × ByteArray => x.1 ≤ 9223372036854775807) l j hlt HNB.out h)
              have HSN : Hid (spanB ((l.take (j + 1)).map (partMu mu)) = spanB ((l.take j).map (partMu mu)) ++ ((partMu mu l[j]).1 ++ (partMu mu l[j]).2)) := Lib.hid (by
                rw [List.take_succ_eq_append_getElem hlt, List.map_append, List.map_singleton, spanB_snoc])
              have huq := (unit_plain _ (HUN.out l[j] (List.getElem_mem hlt))).2
              have hsbs : sB.size ≤ 10000 := by
                have h1 := congrArg List.length HSB.out
                have h2 := spanMu_len mu (l.take j) (fun x hx => HUN.out x (List.mem_of_mem_take hx)) HNB.out
                have h3 : sB.data.toList.length = sB.size := by simp
                have h4 : (l.take j).length = j := by simp; omega
                omega
              clear hkid
              generalize l[j] = q at *
              obtain ⟨n, u⟩ := q
              simp only at d0 d1 d2 d3 d4 hin huq
              obtain ⟨hin0, hin1⟩ := hin
              obtain ⟨d, rfl⟩ := Int.eq_ofNat_of_zero_le hin0
              have HB6 := Lib.hid (HB5.out.alloc HB5.out.size (.cells #[.int .i64 40, .string u, .string ⟨#[]⟩, .int .u64 d, .slice a' 0 c'] 25))
              have HX6 : Hid (BoxAt w.heap.size 39 ⟨#[]⟩ ⟨#[]⟩ 0 (some ⟨b, o, none⟩) l.length c (wr.alloc (.cells #[.int .i64 40, .string u, .string ⟨#[]⟩, .int .u64 d, .slice a' 0 c'] 25))) := Lib.hid ((Below.heap_alloc _ _ _ HX5.out.lt).trans HX5.out)
              by_cases hn : d ≤ 9223372036854775807
              · have hw : IntKind.i64.wrap (d : Int) = d := by rw [IntKind.wrap_i64]; omega
                have hn0 : ¬ (d : Int) < 0 := by omega
                have HDG := Lib.hid (fun W => digits_any d (by omega) W)
                have HP2 : Hid ((partMu mu ((d : Int), u)).1 = Lib.decDigits d) := Lib.hid rfl
                generalize hdd : (⟨(Lib.decDigits d).toArray⟩ : ByteArray) = db at HDG
                have hdb : db.data.toList = Lib.decDigits d := by rw [← hdd]
                have HDB := Lib.hid hdb
                have hdbs : db.size ≤ 20 := by
                  have h1 := decDigits_20 d (by omega)
                  rw [← hdb] at h1
                  simpa using h1
                clear hdb hdd
                by_cases hus : u = ⟨#[117, 115]⟩
                · subst hus
                  cases mu with
                  | true =>
                    have HP3 : Hid ((partMu true ((d : Int), ⟨#[117, 115]⟩)).2 = muL) := Lib.hid (by unfold partMu; rw [if_pos ⟨rfl, rfl⟩])
                    rw [HP2.out, HP3.out] at HSN
                    go_wp2_with fail
                    ((with_reducible refine (HDG.out _).mono ?_))
                    rintro e w7 ⟨rfl, hb7⟩
                    have HB7 := Lib.hid (HB6.out.trans (hb7.mono HB6.out.size))
                    have HX7 := Lib.hid (HX6.out.below hb7)
                    have HS7 : Hid ((sB ++ (db ++ ⟨#[194, 181, 115]⟩) : ByteArray).data.toList = spanB ((l.take (j + 1)).map (partMu true))) := Lib.hid (by rw [HSN.out, ← HSB.out, ← HDB.out]; simp [muL])
                    clear hb7 d0 d1 d2 d3 d4
                    go_wp2
                    go_roundw
                    case rel => exact ⟨j + 1, _, by omega, by go_num, rfl, HS7, Lib.hid (HT1.out (by show (d : Int) ≤ 9223372036854775807; omega)), HX7, HB7⟩
                    case measure => simp [intOf]; omega
                  | false =>
                    have HP3 : Hid ((partMu false ((d : Int), ⟨#[117, 115]⟩)).2 = [117, 115]) := Lib.hid (by unfold partMu; rw [if_neg (by simp)])
                    rw [HP2.out, HP3.out] at HSN
                    go_wp2_with fail
                    ((with_reducible refine (HDG.out _).mono ?_))
                    rintro e w7 ⟨rfl, hb7⟩
                    have HB7 := Lib.hid (HB6.out.trans (hb7.mono HB6.out.size))
                    have HX7 := Lib.hid (HX6.out.below hb7)
                    have HS7 : Hid ((sB ++ (db ++ ⟨#[117, 115]⟩) : ByteArray).data.toList = spanB ((l.take (j + 1)).map (partMu false))) := Lib.hid (by rw [HSN.out, ← HSB.out, ← HDB.out]; simp [muL])
                    clear hb7 d0 d1 d2 d3 d4
                    go_wp2
                    go_roundw
                    case rel => exact ⟨j + 1, _, by omega, by go_num, rfl, HS7, Lib.hid (HT1.out (by show (d : Int) ≤ 9223372036854775807; omega)), HX7, HB7⟩
                    case measure => simp [intOf]; omega
                · have hus1 := (text_nel (l := [117, 115]) hus).1
                  have HUS := Lib.hid hus
                  clear hus
                  have HP3 : Hid ((partMu mu ((d : Int), u)).2 = u.data.toList) := Lib.hid (by unfold partMu; rw [if_neg (fun h => HUS.out h.2)])
                  rw [HP2.out, HP3.out] at HSN
                  go_wp2_with fail
                  ((with_reducible refine (HDG.out _).mono ?_))
                  rintro e w7 ⟨rfl, hb7⟩
                  have HB7 := Lib.hid (HB6.out.trans (hb7.mono HB6.out.size))
                  have HX7 := Lib.hid (HX6.out.below hb7)
                  have HS7 : Hid ((sB ++ (db ++ u) : ByteArray).data.toList = spanB ((l.take (j + 1)).map (partMu mu))) := Lib.hid (by rw [HSN.out, ← HSB.out, ← HDB.out]; simp [muL])
                  clear hb7 d0 d1 d2 d3 d4
                  go_wp2
                  go_roundw
                  case rel => exact ⟨j + 1, _, by omega, by go_num, rfl, HS7, Lib.hid (HT1.out (by show (d : Int) ≤ 9223372036854775807; omega)), HX7, HB7⟩
                  case measure => simp [intOf]; omega
              · have hw : IntKind.i64.wrap (d : Int) = (d : Int) - 18446744073709551616 := by rw [IntKind.wrap_i64]; omega
                have hn0 : (d : Int) - 18446744073709551616 < 0 := by omega
                go_wp2
                go_ret
                exact ⟨rfl, HB6.out⟩
            · have hfull : l.take j = l := List.take_of_length_le (by omega)
              rw [hfull] at HSB HNB
              clear hfull
              have hsz : sB.size ≤ 100000 := by
                have h1 := congrArg List.length HSB.out
                have h2 := spanMu_len mu l HUN.out HNB.out
                have h3 : sB.data.toList.length = sB.size := by simp
                omega
              have hpm : (l.map (partMu mu)).map parsedOf = l := by
                rw [List.map_map]
                conv => rhs; rw [← List.map_id l]
                exact List.map_congr_left fun x hx => partMu_parsed mu x (HUN.out x hx) (HIN.out x hx).1
              have hdv : ∀ y ∈ l.map (partMu mu), decV y.1 ≤ 9223372036854775807 := fun y hy => by
                obtain ⟨x, hx, rfl⟩ := List.mem_map.1 hy
                show decV (Lib.decDigits x.1.toNat) ≤ _
                rw [decV_digits]
                have := HNB.out x hx
                omega
              have HPI := Lib.hid (fun W h => parseImpl_any sB (l.map (partMu mu)) HSB.out (fun y hy => by obtain ⟨x, hx, rfl⟩ := List.mem_map.1 hy; exact partMu_ok mu x (HUN.out x hx)) hdv hsz (by simp; omega) W h)
              rw [hpm] at HPI
              clear hpm hdv
              go_wp2_with fail
              ((with_reducible refine (HPI.out _ (Utf8Tabs_below HT.out HB5.out)).mono ?_))
              rintro e w7 ⟨a7, c7, rfl, hn7, hb7⟩
              have HB7 := Lib.hid (HB5.out.trans (hb7.mono HB5.out.size))
              have HX7 := Lib.hid (HX5.out.below hb7)
              unfold nodeU
              have hb8 : Below w7.heap.size w7 (w7.alloc (.cells #[.int .i64 39, .string ⟨#[]⟩, .string ⟨#[]⟩, .int .u64 0, .slice a7 l.length c7] 25)) := (Below.refl _ w7).alloc (Nat.le_refl _) _
              have HB8 := Lib.hid (HB7.out.trans (hb8.mono HB7.out.size))
              obtain ⟨g0, g1, g2, g3, g4⟩ := (HX7.out.below hb8).five
              have hm1 := (NodeIn.mono (B' := (· < w7.heap.size)) (fun b hb => Nat.lt_of_lt_of_le hb (Nat.le_trans hN HB7.out.size)) (HVS.out.keep (Keep.of_below HB7.out hN))).keep (Keep.below hb8)
              have hm2 := (NodeIn.mono (B' := (· < w7.heap.size)) (fun b hb => hb.2) hn7).keep (Keep.below hb8)
              have hS := same_refl _ _ _ w7.heap.size _ hm1 hm2 hb8.size
              unfold nodeU at hS
              have HSM := Lib.hid hS
              clear hb7 hn7 hb8 hm1 hm2 hS
              go_wp2_with fail
              ((with_reducible refine HSM.out.mono ?_))
              rintro e w9 ⟨rfl, hb9⟩
              have HB9 := Lib.hid (HB8.out.trans (hb9.mono HB8.out.size))
              clear hb9
              go_wp2
              go_ret
              exact ⟨rfl, HB9.out⟩
      · have hk1 : (k != 39) = true := by simpa using hk
        go_wp2
        go_ret
        exact ⟨rfl, HB4.out⟩

set_option maxRecDepth 100000 in
theorem parseDuration_walk {H : Type} {enc : TypeId × Value → H} (W : World) (hL : laidMetH Tryd.prog Rows.fnParseDurationRow.laid W) (v0 : Value) (d0 : DataW H) (p0 : List MemPlace) (hv0 : Value.okWide Tryd.prog W .any 0 25 v0) (h0 : DataW.Trod enc Tryd.prog W 0 (fun _ => true) true 25 v0 d0 p0) (mu : Bool) {hsz : Prop} (_ : hsz) :
    Calls Tryd.prog 3 #[v0, .bool mu] W fun e W' => e = .returned (.bool true) ∧ Below W.heap.size W W' := by
  have hT : Lib.Utf8Tabs 0 1 W := utf_tabs (Lib.laidMet.reads hL (.tail _ (.tail _ (.tail _ (.tail _ (.tail _ (.tail _ (.head _)))))))) (Lib.laidMet.reads hL (.tail _ (.tail _ (.tail _ (.head _)))))
  obtain ⟨t, ht⟩ := tree_arg hv0 h0
  exact parseLaw_any t v0 W.heap.size W ht (Nat.le_refl _) mu hT

end Go.Proofs.YtaaiojhdhefjdaaDoor
