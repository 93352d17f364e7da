/- parser.ParseDuration: the numbers and units that a text says. -/
import Derived.Test.YtaaiojhdhefjdaaDoorParseNum
import Derived.Test.YtaaiojhdhefjdaaDoorMagRow
import Derived.Test.YtaaiojhdhefjdaaDoorUtfTabs
import Derived.Deep.AppendLies
import Derived.LoopTactic
import Derived.WalkLawsBesides
import Derived.Outline
import Derived.BigCall
namespace Go.Proofs.YtaaiojhdhefjdaaDoor
open Go Go.RowKit Go.Shelf
set_option linter.unusedVariables false
set_option linter.unusedSimpArgs false

theorem extract_drop (s : ByteArray) (n : Nat) : (s.extract n s.size).data.toList = s.data.toList.drop n := by
  rw [ByteArray.data_extract, Array.toList_extract, List.extract_eq_take_drop]
  apply List.take_of_length_le
  simp
theorem extract_take (s : ByteArray) (n : Nat) : (s.extract 0 n).data.toList = s.data.toList.take n := by
  rw [ByteArray.data_extract, Array.toList_extract, List.extract_eq_take_drop]
  simp

theorem dec_ascii (s : ByteArray) (k : Nat) (c : UInt8) (h : s.data.toList[k]? = some c) (hc : c.toNat < 128) (W : World) :
    Calls Tryd.prog 13 #[.string (s.extract k s.size)] W fun e w' => e = .returned (.tuple #[.int .i32 c.toNat, .int .i64 1]) ∧ w' = W :=
  Tryd.utf8_DecodeRuneInString_ascii (s.extract k s.size) c W (by rw [extract_drop, List.getElem?_drop, Nat.add_zero]; exact h) hc

theorem dec_mu (s : ByteArray) (k : Nat) (r : List UInt8) (h : s.data.toList.drop k = 194 :: 181 :: r) (W : World) (hT : Lib.Utf8Tabs 0 1 W) :
    Calls Tryd.prog 13 #[.string (s.extract k s.size)] W fun e w' => e = .returned (.tuple #[.int .i32 181, .int .i64 2]) ∧ Below W.heap.size W w' := by
  have h1 := Tryd.utf8_DecodeRuneInString (s.extract k s.size) W hT
  rw [decode_mu _ r (by rw [extract_drop]; exact h)] at h1
  exact h1

theorem parseInt_b (s : ByteArray) (l : List UInt8) (hs : s.data.toList = l) (hsz : s.size ≤ 100000) (hne : l ≠ []) (hd : ∀ c ∈ l, 48 ≤ c.toNat ∧ c.toNat ≤ 57) (hv : decV l ≤ 9223372036854775807) (W : World) :
    Calls Tryd.prog 15 #[.string s, .int .i64 10, .int .i64 64] W fun e w' => e = .returned (.tuple #[.int .i64 (decV l), .nilIface]) ∧ Below W.heap.size W w' :=
  (Tryd.strconv_ParseInt_10_at64_ok s (by omega) (decV l) (by rw [hs]; exact parseInt_digits l hne hd hv) W).mono fun e w' h => by
    obtain ⟨rfl, h | ⟨t, h⟩⟩ := h
    · exact ⟨rfl, by rw [h]; exact Below.refl _ _⟩
    · exact ⟨rfl, by rw [h]; exact Lib.bytesWorld_below _ _ _⟩

/-- What is collected. -/
def ValsAt (w : World) (v : Value) (pre : List (List UInt8 × List UInt8)) (wr : World) : Prop :=
  wr.ownsRow w.heap.size 48 2 v pre.length ((pre.map parsedOf).flatMap durCells) ∧ Below w.heap.size w wr
theorem ValsAt.row {w wr : World} {v : Value} {pre : List (List UInt8 × List UInt8)} (h : ValsAt w v pre wr) : wr.ownsRow w.heap.size 48 2 v pre.length ((pre.map parsedOf).flatMap durCells) := h.1
theorem ValsAt.below {w wr w' : World} {v : Value} {pre : List (List UInt8 × List UInt8)} (h : ValsAt w v pre wr) (hb : Below wr.heap.size wr w') : ValsAt w v pre w' :=
  ⟨World.ownsRow.kept h.1 ⟨hb.os, hb.tape, hb.output, hb.size, fun k hk _ => hb.block k hk⟩ (row := none) (by cases h : v.ownBlock <;> simp), h.2.trans (hb.mono h.2.size)⟩

theorem ValsAt.bel {w wr : World} {v : Value} {pre : List (List UInt8 × List UInt8)} (h : ValsAt w v pre wr) : Below w.heap.size w wr := h.2

def strSize : Value → Nat
  | .string s => s.size
  | _ => 0

def ParsePost (l : List (List UInt8 × List UInt8)) (w : World) (e : Ending) (w' : World) : Prop :=
  ∃ v, e = .returned (.tuple #[v, .nilIface]) ∧ ValsAt w v l w'

/-- Where a letter stands in a unit: what is decoded there. -/
theorem letter_at (u : List UInt8) (hu : u ∈ plainU ∨ u = muL) (p : Nat) (hp : LettAt u p) (hlt : p < u.length) :
    (∃ c : UInt8, u[p]? = some c ∧ 97 ≤ c.toNat ∧ c.toNat ≤ 122 ∧ LettAt u (p + 1)) ∨ (u = muL ∧ p = 0 ∧ LettAt u (p + 2)) := by
  obtain ⟨h1, h2⟩ := hp
  rcases hu with hu | rfl
  · left
    refine ⟨u[p], List.getElem?_eq_getElem hlt, ?_, ?_, by omega, fun e => ?_⟩
    · exact (plain_letter u hu _ (List.getElem_mem hlt)).1
    · exact (plain_letter u hu _ (List.getElem_mem hlt)).2
    · rw [e] at hu; exact absurd hu (by decide)
  · have hp3 : p < 3 := hlt
    have hp1 : p ≠ 1 := h2 rfl
    rcases (show p = 0 ∨ p = 2 by omega) with rfl | rfl
    · exact .inr ⟨rfl, rfl, by decide, fun _ => by decide⟩
    · exact .inl ⟨115, rfl, by decide, by decide, by decide, fun _ => by decide⟩

theorem letter_dec (lit : ByteArray) (q : Nat) (u rest : List UInt8) (hu : u ∈ plainU ∨ u = muL) (p : Nat) (hp : LettAt u p) (hlt : p < u.length) (hd : lit.data.toList.drop q = u ++ rest) :
    ∃ r m : Nat, LetterR r ∧ 1 ≤ m ∧ m ≤ 2 ∧ LettAt u (p + m) ∧ ∀ W, Lib.Utf8Tabs 0 1 W →
      Calls Tryd.prog 13 #[.string (lit.extract (q + p) lit.size)] W fun e w' => e = .returned (.tuple #[.int .i32 r, .int .i64 m]) ∧ Below W.heap.size W w' := by
  have hget : ∀ j, lit.data.toList[q + j]? = (u ++ rest)[j]? := fun j => by rw [← hd, List.getElem?_drop]
  rcases letter_at u hu p hp hlt with ⟨c, hc, h1, h2, h3⟩ | ⟨rfl, rfl, h3⟩
  · refine ⟨c.toNat, 1, .inl ⟨h1, h2⟩, by omega, by omega, h3, fun W _ => ?_⟩
    refine (dec_ascii lit (q + p) c (by rw [hget, List.getElem?_append_left hlt]; exact hc) (by omega) W).mono ?_
    rintro e w' ⟨rfl, rfl⟩
    exact ⟨rfl, Below.refl _ _⟩
  · refine ⟨181, 2, .inr rfl, by omega, by omega, h3, fun W hT => ?_⟩
    exact dec_mu lit (q + 0) (115 :: rest) (by rw [Nat.add_zero, hd]; rfl) W hT

set_option maxHeartbeats 8000000 in
set_option maxRecDepth 100000 in
theorem parseDuration_any (s : ByteArray) (l : List (List UInt8 × List UInt8)) (hs : s.data.toList = spanB l) (hok : ∀ y ∈ l, PartP y) (hv : ∀ y ∈ l, decV y.1 ≤ 9223372036854775807) (hsz : s.size ≤ 100000) (hl : l.length ≤ 1000) (w : World)
    (hT : Lib.Utf8Tabs 0 1 w) :
    Calls Tryd.prog 9 #[.string s] w (ParsePost l w) := by
  obtain ⟨i0, hi, hz0, hz1, hz2⟩ := info_parts dur_info
  have HS := Lib.hid hs
  have HOK := Lib.hid hok
  have HV := Lib.hid hv
  have HT := Lib.hid hT
  have HSZ := Lib.hid hsz
  have HW0 : Hid (ValsAt w (.slice none 0 0) [] w) := Lib.hid ⟨World.ownsRow_nil _ _ _ _, Below.refl _ _⟩
  clear hs hok hv hT hsz
  go_enter Tryd.func9, Tryd.ntmps9
  go_wp2
  go_loopw [0, 4] (fun sv vv wr => ∃ (lit : ByteArray) (pre post : List (List UInt8 × List UInt8)), sv = .string lit ∧ lit.size ≤ 100000 ∧ Hid (pre ++ post = l) ∧ Hid (lit.data.toList = spanB post) ∧ Hid (ValsAt w vv pre wr)) (fun sv _ _ => strSize sv)
  case atStart => exact ⟨s, [], l, rfl, HSZ.out, Lib.hid rfl, HS, HW0⟩
  case round =>
    obtain ⟨lit, pre, post, rfl, hls, hpp, hlit, hvals⟩ := hrel
    cases post with
    | nil =>
      have h0 : lit.size = 0 := by
        have := congrArg List.length hlit.out
        simpa [spanB] using this
      have hn0 : ¬ ((0 : Int) < lit.size) := by omega
      have hpl : pre = l := by rw [← hpp.out]; simp
      have HPL := Lib.hid hpl
      clear h0 hpl
      go_wp2
      go_ret2
      exact ⟨_, rfl, by rw [← HPL.out]; exact hvals.out⟩
    | cons y post' =>
      have hyl : y ∈ l := by rw [← hpp.out]; simp
      obtain ⟨hy1, hy2, hy3⟩ := HOK.out y hyl
      have hvy := HV.out y hyl
      have hlt0 : lit.data.toList = y.1 ++ (y.2 ++ spanB post') := by rw [hlit.out, spanB_cons]; simp
      obtain ⟨n, hn⟩ : ∃ n, n = y.1.length := ⟨_, rfl⟩
      have hn1 : 1 ≤ n := by rw [hn]; exact List.length_pos_iff.2 hy1
      have hm1 : 1 ≤ y.2.length ∧ y.2.length ≤ 3 := by
        rcases hy3 with h | h
        · simp only [plainU, List.mem_cons, List.mem_nil_iff, or_false] at h
          rcases h with e | e | e | e | e | e | e | e | e | e <;> rw [e] <;> decide
        · rw [h]; decide
      have hsz1 : lit.size = n + y.2.length + (spanB post').length := by
        have := congrArg List.length hlt0
        simp at this
        omega
      have hdg : ∀ k, k < n → ∃ c : UInt8, lit.data.toList[k]? = some c ∧ 48 ≤ c.toNat ∧ c.toNat ≤ 57 := fun k hk => by
        have hk' : k < y.1.length := by omega
        refine ⟨y.1[k], by rw [hlt0, List.getElem?_append_left hk', List.getElem?_eq_getElem hk'], ?_, ?_⟩
        · exact (hy2 _ (List.getElem_mem hk')).1
        · exact (hy2 _ (List.getElem_mem hk')).2
      have htl : lit.data.toList.drop n = y.2 ++ spanB post' := by rw [hlt0, hn, List.drop_left]
      have HTL := Lib.hid htl
      have HDG := Lib.hid hdg
      have HPI : Hid (∀ W, Calls Tryd.prog 15 #[.string (lit.extract 0 n), .int .i64 10, .int .i64 64] W fun e w' => e = .returned (.tuple #[.int .i64 (decV y.1), .nilIface]) ∧ Below W.heap.size W w') :=
        Lib.hid fun W => parseInt_b (lit.extract 0 n) y.1 (by rw [extract_take, hlt0, hn, List.take_left]) (by simp; omega) hy1 hy2 hvy W
      have HPP : Hid ((pre ++ [y]) ++ post' = l) := Lib.hid (by rw [← hpp.out]; simp)
      have HMG : Hid (parsedOf y = ((decV y.1 : Int), unitOut y.2)) := Lib.hid rfl
      have HYI := Lib.hid hyl
      have HUY := Lib.hid hy3
      have hdv : decV y.1 ≤ 9223372036854775807 := hvy
      generalize decV y.1 = vn at *
      have HSZ1 := Lib.hid hsz1
      have hlz : 0 < lit.size := by omega
      have hlzb : decide (0 < lit.size) = true := decide_eq_true hlz
      have hnz : n ≤ lit.size := by omega
      have hnz2 : n + 1 ≤ lit.size := by omega
      have hplen : pre.length ≤ 1000 := by
        have := congrArg List.length HPP.out
        simp at this
        omega
      clear hdg htl hlt0 hy1 hy2 hy3 hvy hlit hyl hsz1 hn
      go_wp2
      go_loopw [5] (fun nv wd => ∃ k : Nat, k ≤ n ∧ nv = .int .i64 k ∧ Hid (ValsAt w u4 pre wd)) (fun nv _ => lit.size - (intOf nv).toNat)
      case atStart => exact ⟨0, Nat.zero_le _, rfl, hvals⟩
      case round =>
        obtain ⟨k, hk, rfl, hvals⟩ := hrel
        have hklt : (k : Int) < lit.size := by omega
        have hkle : (k : Int) ≤ lit.size := by omega
        by_cases hkn : k < n
        · obtain ⟨c, hc, hc1, hc2⟩ := HDG.out k hkn
          have HD := Lib.hid (fun W => dec_ascii lit k c hc (by omega) W)
          clear hc
          generalize hx : lit.extract k lit.size = x at HD
          generalize c.toNat = cn at HD hc1 hc2
          go_wp2_with fail
          ((with_reducible refine (HD.out _).mono ?_))
          rintro e w1 ⟨rfl, rfl⟩
          go_wp2
          go_roundw
          case rel => exact ⟨k + 1, by omega, by go_num, hvals⟩
          case measure => simp [intOf]; omega
        · obtain rfl : k = n := by omega
          obtain ⟨r, m, hr, hm, hm2, _, hdec⟩ := letter_dec lit k y.2 (spanB post') HUY.out 0 ⟨Nat.zero_le _, fun _ => by decide⟩ (by omega) HTL.out
          rw [Nat.add_zero] at hdec
          have HDEC := Lib.hid hdec
          have hr57 : (57 : Int) < r := by rcases hr with h | h <;> omega
          have hm0 : ((m : Int) == 0) = false := by simp; omega
          have hk0 : ((k : Int) == 0) = false := by simp; omega
          clear hdec hr
          generalize hx : lit.extract k lit.size = x at HDEC
          have HX := Lib.hid hx
          clear hx
          go_wp2_with fail
          rw [HX.out]
          ((with_reducible refine (HDEC.out _ (Utf8Tabs_below HT.out hvals.out.bel)).mono ?_))
          rintro e w1 ⟨rfl, hb1⟩
          have HV1 := Lib.hid (hvals.out.below hb1)
          clear hb1
          generalize hp0 : lit.extract 0 k = p0 at HPI
          have HP0 := Lib.hid hp0
          clear hp0
          go_wp2_with fail
          rw [HP0.out]
          ((with_reducible refine (HPI.out _).mono ?_))
          rintro e w2 ⟨rfl, hb2⟩
          have HV2 := Lib.hid (HV1.out.below hb2)
          clear hb2
          go_wp2
          rw [HX.out]
          have hxl : x.data.toList = y.2 ++ spanB post' := by rw [← HX.out, extract_drop]; exact HTL.out
          have hxs : x.size = y.2.length + (spanB post').length := by
            have := congrArg List.length hxl
            simpa using this
          have HXL := Lib.hid hxl
          have HXS := Lib.hid hxs
          have hxb : x.size ≤ 100000 := by have := HSZ1.out; omega
          obtain ⟨un, hun⟩ : ∃ un, un = y.2.length := ⟨_, rfl⟩
          have HUN := Lib.hid hun
          rw [← hun] at hm1 hxs
          have hxge : un ≤ x.size := by omega
          have HXS2 := Lib.hid hxs
          clear hxl hun hxs
          have hul1 : 0 < x.size := by omega
          have hulb : decide (0 < x.size) = true := decide_eq_true hul1
          go_loopw [5] (fun nv wd => ∃ p : Nat, LettAt y.2 p ∧ nv = .int .i64 p ∧ Hid (ValsAt w u4 pre wd)) (fun nv _ => un - (intOf nv).toNat)
          case atStart => exact ⟨0, ⟨Nat.zero_le _, fun _ => by decide⟩, rfl, HV2⟩
          case round =>
            obtain ⟨p, hp, rfl, hvals⟩ := hrel
            have hple : p ≤ un := by have := hp.1; have := HUN.out; omega
            have HP := Lib.hid hp
            have hpx : (p : Int) ≤ x.size := by omega
            clear hp
            by_cases hpu : p < un
            · obtain ⟨r2, m2, hr2, hn2, hn22, hl2, hdec2⟩ := letter_dec x 0 y.2 (spanB post') HUY.out p HP.out (by have := HUN.out; omega) (by rw [List.drop_zero]; exact HXL.out)
              rw [Nat.zero_add] at hdec2
              have HDEC2 := Lib.hid hdec2
              have HL2 := Lib.hid hl2
              have hmz : ((m2 : Int) == 0) = false := by simp; omega
              have hplt : (p : Int) < x.size := by omega
              have hpl2 : p + m2 ≤ un := by have := hl2.1; have := HUN.out; omega
              clear hdec2 hl2
              generalize hx2 : x.extract p x.size = x2 at HDEC2
              have HX2 := Lib.hid hx2
              clear hx2
              rcases hr2 with hr2 | hr2
              all_goals
                go_wp2_with fail
                rw [HX2.out]
                ((with_reducible refine (HDEC2.out _ (Utf8Tabs_below HT.out hvals.out.bel)).mono ?_))
                rintro e w3 ⟨rfl, hb3⟩
                have HV3 := Lib.hid (hvals.out.below hb3)
                clear hb3
                first | (obtain ⟨hr2a, hr2b⟩ := hr2) | subst hr2
                go_wp2
                go_roundw
                case rel => first | exact ⟨p + m2, HL2.out, by go_num, HV3⟩ | ((repeat apply Exists.intro); exact ⟨⟨p + m2, HL2.out, by go_num, HV3⟩, rfl⟩)
                case measure => simp [intOf]; omega
            · obtain rfl : p = un := by omega
              have hun0 : ((p : Int) == 0) = false := by simp; omega
              have hu0 : (x.extract 0 p).data.toList = y.2 := by rw [extract_take, HXL.out, HUN.out, List.take_left]
              have hl2 : (x.extract p x.size).data.toList = spanB post' := by rw [extract_drop, HXL.out, HUN.out, List.drop_left]
              have HL2 := Lib.hid hl2
              have hl2s : (x.extract p x.size).size = (spanB post').length := by
                have := congrArg List.length hl2
                simpa using this
              have hl2b : (x.extract p x.size).size ≤ 100000 := by have := HXS2.out; omega
              have hl2lt : (x.extract p x.size).size < lit.size := by have := HSZ1.out; omega
              have hu0t : (x.extract 0 p).toList = y.2 := by rw [ByteArray.toList_eq]; exact hu0
              have HU0B : Hid ((⟨y.2.toArray⟩ : ByteArray) = x.extract 0 p) := Lib.hid (ByteArray.ext (by rw [← hu0]))
              have hend : post' = [] → ¬ (p : Int) < x.size := fun e => by
                have := HXS2.out
                rw [e] at this
                simp [spanB] at this
                omega
              have HEND := Lib.hid hend
              have hdig : post' ≠ [] → ∃ c : UInt8, x.data.toList[p]? = some c ∧ 48 ≤ c.toNat ∧ c.toNat ≤ 57 ∧ (p : Int) < x.size := fun hne => by
                obtain ⟨z, r, rfl⟩ := List.exists_cons_of_ne_nil hne
                have hz := HOK.out z (by rw [← HPP.out]; simp)
                obtain ⟨c, cs, hc⟩ := List.exists_cons_of_ne_nil hz.1
                have h1 := hz.2.1 c (by rw [hc]; simp)
                have hxx := HXS2.out
                rw [spanB_cons, hc] at hxx
                refine ⟨c, ?_, h1.1, h1.2, ?_⟩
                · rw [HXL.out, HUN.out, List.getElem?_append_right (Nat.le_refl _), Nat.sub_self, spanB_cons, hc]
                  rfl
                · simp at hxx
                  omega
              have HDIG := Lib.hid hdig
              have HLB := Lib.hid hl2b
              have HLT := Lib.hid hl2lt
              obtain ⟨a4, c4, rfl⟩ := slice_form hvals.out.row
              clear hu0 hl2 hl2s hend hdig hl2b hl2lt
              by_cases hmu : y.2 = muL
              · have hcmp : ((x.extract 0 p).toList == [194, 181, 115]) = true := by rw [hu0t]; simp; exact hmu
                have HMU := Lib.hid hmu
                clear hmu hu0t
                by_cases hpo : post' = []
                · have hge := HEND.out hpo
                  have HVT := hvals
                  clear hpo
                  have hmx : pre.length + 1 ≤ maxLen := by unfold maxLen; omega
                  have hbl : (pre.length + 1) * 24 ≤ 140737488355328 := by omega
                  go_wp2_with (at_builtin; refine wpList_append_own _ rfl _ _ 32 rfl w.heap.size 48 i0 _ 2 24 Tryd.underlying32 hi hz0 hz1 hz2 rfl (by decide) _ _ _ rfl (HVT.out.row.alloc _) _ 1 1 [.int .i64 vn, .string ⟨#[117, 115]⟩] rfl rfl ?c1a ?c2a hmx hbl ?c3a ?_)
                  case c2a => first | exact ⟨rfl, rfl⟩ | (intro v hv; simp at hv; rcases hv with rfl | rfl <;> rfl)
                  case c3a =>
                    have := HVT.out.bel.size
                    simp
                    omega
                  intro v' w5 hown' hgrow _
                  have HV5 : Hid (ValsAt w v' (pre ++ [y]) w5) := Lib.hid (by
                    refine ⟨?_, (HVT.out.bel.alloc HVT.out.bel.size _).grown hgrow (by have := HVT.out.bel.size; simp; omega) (fun k e => (HVT.out.row.lt k e).1)⟩
                    rw [List.length_append, List.map_append, List.flatMap_append, List.map_singleton, List.flatMap_singleton, HMG.out, show unitOut y.2 = ⟨#[117, 115]⟩ by unfold unitOut; rw [if_pos HMU.out]]
                    exact hown')
                  clear hown' hgrow
                  go_wp2
                  go_roundw
                  case rel => exact ⟨x.extract p x.size, pre ++ [y], _, rfl, HLB.out, HPP, HL2, HV5⟩
                  case measure => simp only [strSize]; exact HLT.out
                · obtain ⟨c, hc, hc1, hc2, hplt⟩ := HDIG.out hpo
                  have HD := Lib.hid (fun W => dec_ascii x p c hc (by omega) W)
                  have HVT := hvals
                  clear hc hpo
                  generalize c.toNat = cn at HD hc1 hc2
                  have d97 : (cn : Int) < 97 := by omega
                  have d65 : (cn : Int) < 65 := by omega
                  have d181 : ((cn : Int) == 181) = false := by simp; omega
                  have d956 : ((cn : Int) == 956) = false := by simp; omega
                  have e181 : ((cn : Int) != 181) = true := by simp; omega
                  have e956 : ((cn : Int) != 956) = true := by simp; omega
                  go_wp2_with fail
                  ((with_reducible refine (HD.out _).mono ?_))
                  rintro e w6 ⟨rfl, rfl⟩
                  have hmx : pre.length + 1 ≤ maxLen := by unfold maxLen; omega
                  have hbl : (pre.length + 1) * 24 ≤ 140737488355328 := by omega
                  go_wp2_with (at_builtin; refine wpList_append_own _ rfl _ _ 32 rfl w.heap.size 48 i0 _ 2 24 Tryd.underlying32 hi hz0 hz1 hz2 rfl (by decide) _ _ _ rfl (HVT.out.row.alloc _) _ 1 1 [.int .i64 vn, .string ⟨#[117, 115]⟩] rfl rfl ?c1b ?c2b hmx hbl ?c3b ?_)
                  case c1b => exact World.news_of_block (cs := #[.int .i64 vn, .string ⟨#[117, 115]⟩]) (t := 48) (fr := (0, 0)) (heap_alloc_new _ _)
                  case c2b => first | exact ⟨rfl, rfl⟩ | (intro v hv; simp at hv; rcases hv with rfl | rfl <;> rfl)
                  case c3b =>
                    have := HVT.out.bel.size
                    simp
                    omega
                  intro v' w5 hown' hgrow _
                  have HV5 : Hid (ValsAt w v' (pre ++ [y]) w5) := Lib.hid (by
                    refine ⟨?_, (HVT.out.bel.alloc HVT.out.bel.size _).grown hgrow (by have := HVT.out.bel.size; simp; omega) (fun k e => (HVT.out.row.lt k e).1)⟩
                    rw [List.length_append, List.map_append, List.flatMap_append, List.map_singleton, List.flatMap_singleton, HMG.out, show unitOut y.2 = ⟨#[117, 115]⟩ by unfold unitOut; rw [if_pos HMU.out]]
                    exact hown')
                  clear hown' hgrow
                  go_wp2
                  go_roundw
                  case rel => exact ⟨x.extract p x.size, pre ++ [y], _, rfl, HLB.out, HPP, HL2, HV5⟩
                  case measure => simp only [strSize]; exact HLT.out
              · have hcmp : ((x.extract 0 p).toList == [194, 181, 115]) = false := by rw [hu0t]; simp; exact hmu
                have HMU := Lib.hid hmu
                clear hmu hu0t
                by_cases hpo : post' = []
                · have hge := HEND.out hpo
                  have HVT := hvals
                  clear hpo
                  have hmx : pre.length + 1 ≤ maxLen := by unfold maxLen; omega
                  have hbl : (pre.length + 1) * 24 ≤ 140737488355328 := by omega
                  go_wp2_with (at_builtin; refine wpList_append_own _ rfl _ _ 32 rfl w.heap.size 48 i0 _ 2 24 Tryd.underlying32 hi hz0 hz1 hz2 rfl (by decide) _ _ _ rfl (HVT.out.row.alloc _) _ 1 1 [.int .i64 vn, .string (x.extract 0 p)] rfl rfl ?c1c ?c2c hmx hbl ?c3c ?_)
                  case c2c => first | exact ⟨rfl, rfl⟩ | (intro v hv; simp at hv; rcases hv with rfl | rfl <;> rfl)
                  case c3c =>
                    have := HVT.out.bel.size
                    simp
                    omega
                  intro v' w5 hown' hgrow _
                  have HV5 : Hid (ValsAt w v' (pre ++ [y]) w5) := Lib.hid (by
                    refine ⟨?_, (HVT.out.bel.alloc HVT.out.bel.size _).grown hgrow (by have := HVT.out.bel.size; simp; omega) (fun k e => (HVT.out.row.lt k e).1)⟩
                    rw [List.length_append, List.map_append, List.flatMap_append, List.map_singleton, List.flatMap_singleton, HMG.out, show unitOut y.2 = (x.extract 0 p) by unfold unitOut; rw [if_neg HMU.out]; exact HU0B.out]
                    exact hown')
                  clear hown' hgrow
                  go_wp2
                  go_roundw
                  case rel => exact ⟨x.extract p x.size, pre ++ [y], _, rfl, HLB.out, HPP, HL2, HV5⟩
                  case measure => simp only [strSize]; exact HLT.out
                · obtain ⟨c, hc, hc1, hc2, hplt⟩ := HDIG.out hpo
                  have HD := Lib.hid (fun W => dec_ascii x p c hc (by omega) W)
                  have HVT := hvals
                  clear hc hpo
                  generalize c.toNat = cn at HD hc1 hc2
                  have d97 : (cn : Int) < 97 := by omega
                  have d65 : (cn : Int) < 65 := by omega
                  have d181 : ((cn : Int) == 181) = false := by simp; omega
                  have d956 : ((cn : Int) == 956) = false := by simp; omega
                  have e181 : ((cn : Int) != 181) = true := by simp; omega
                  have e956 : ((cn : Int) != 956) = true := by simp; omega
                  go_wp2_with fail
                  ((with_reducible refine (HD.out _).mono ?_))
                  rintro e w6 ⟨rfl, rfl⟩
                  have hmx : pre.length + 1 ≤ maxLen := by unfold maxLen; omega
                  have hbl : (pre.length + 1) * 24 ≤ 140737488355328 := by omega
                  go_wp2_with (at_builtin; refine wpList_append_own _ rfl _ _ 32 rfl w.heap.size 48 i0 _ 2 24 Tryd.underlying32 hi hz0 hz1 hz2 rfl (by decide) _ _ _ rfl (HVT.out.row.alloc _) _ 1 1 [.int .i64 vn, .string (x.extract 0 p)] rfl rfl ?c1d ?c2d hmx hbl ?c3d ?_)
                  case c1d => exact World.news_of_block (cs := #[.int .i64 vn, .string (x.extract 0 p)]) (t := 48) (fr := (0, 0)) (heap_alloc_new _ _)
                  case c2d => first | exact ⟨rfl, rfl⟩ | (intro v hv; simp at hv; rcases hv with rfl | rfl <;> rfl)
                  case c3d =>
                    have := HVT.out.bel.size
                    simp
                    omega
                  intro v' w5 hown' hgrow _
                  have HV5 : Hid (ValsAt w v' (pre ++ [y]) w5) := Lib.hid (by
                    refine ⟨?_, (HVT.out.bel.alloc HVT.out.bel.size _).grown hgrow (by have := HVT.out.bel.size; simp; omega) (fun k e => (HVT.out.row.lt k e).1)⟩
                    rw [List.length_append, List.map_append, List.flatMap_append, List.map_singleton, List.flatMap_singleton, HMG.out, show unitOut y.2 = (x.extract 0 p) by unfold unitOut; rw [if_neg HMU.out]; exact HU0B.out]
                    exact hown')
                  clear hown' hgrow
                  go_wp2
                  go_roundw
                  case rel => exact ⟨x.extract p x.size, pre ++ [y], _, rfl, HLB.out, HPP, HL2, HV5⟩
                  case measure => simp only [strSize]; exact HLT.out

end Go.Proofs.YtaaiojhdhefjdaaDoor
