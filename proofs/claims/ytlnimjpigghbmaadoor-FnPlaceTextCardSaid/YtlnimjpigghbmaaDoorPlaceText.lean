/- FnPlaceText: a place's text is its line's digits, a colon, and its column's. -/
import Derived.Test.YtlnimjpigghbmaaDoorInteger
import Derived.Deep.RegionHeld3
import Derived.Deep.QuietTactic
import Derived.BigQuiet
import Derived.Lib.SmallJoins
namespace Go.Proofs.YtlnimjpigghbmaaDoor
open Go Go.RowKit Go.Shelf

/-- A place's text. -/
def placeBytes (a b : Int) : List UInt8 := Lib.itoa a ++ [58] ++ Lib.itoa b

set_option maxHeartbeats 2000000 in
set_option maxRecDepth 100000 in
theorem positionString_any (a b : Int) (w : World) (a0 : -9223372036854775808 ≤ a) (a1 : a ≤ 9223372036854775807) (b0 : -9223372036854775808 ≤ b) (b1 : b ≤ 9223372036854775807)
    (htab : Lib.TabIs Tryd.prog w "internal/strconv.uint64pow10" .u64 Lib.pow10Tab) :
    Calls Tryd.prog 17 #[.agg #[.int .i64 a, .int .i64 b]] w fun e w' => e = .returned (.string ⟨(placeBytes a b).toArray⟩) ∧ Below w.heap.size w w' := by
  have HT := Lib.hid htab
  clear htab
  obtain ⟨da, hda⟩ : ∃ d : ByteArray, d = ⟨(Lib.itoa a).toArray⟩ := ⟨_, rfl⟩
  obtain ⟨db, hdb⟩ : ∃ d : ByteArray, d = ⟨(Lib.itoa b).toArray⟩ := ⟨_, rfl⟩
  have hla : da.size ≤ 21 := by rw [hda, size_of_list]; exact itoa_21 a a0 a1
  have hlb : db.size ≤ 21 := by rw [hdb, size_of_list]; exact itoa_21 b b0 b1
  have hres : (⟨(placeBytes a b).toArray⟩ : ByteArray) = da ++ ⟨#[58]⟩ ++ db := by
    apply Go.WideShapes.bytes_inj
    rw [hda, hdb]
    simp [placeBytes]
  have hA : ∀ w', Below w.heap.size w w' → Calls Tryd.prog 23 #[.int .i64 a] w' fun e w'' => e = .returned (.string da) ∧ Below w'.heap.size w' w'' := by
    intro w' hb
    rw [hda]
    refine (Tryd.strconv_Itoa a a0 a1 w' (tab_below HT.out hb)).mono ?_
    rintro e w1 ⟨rfl, q, os, rfl⟩
    exact ⟨rfl, below_more w' q os⟩
  have hB : ∀ w', Below w.heap.size w w' → Calls Tryd.prog 23 #[.int .i64 b] w' fun e w'' => e = .returned (.string db) ∧ Below w'.heap.size w' w'' := by
    intro w' hb
    rw [hdb]
    refine (Tryd.strconv_Itoa b b0 b1 w' (tab_below HT.out hb)).mono ?_
    rintro e w1 ⟨rfl, q, os, rfl⟩
    exact ⟨rfl, below_more w' q os⟩
  have HA := Lib.hid hA
  have HB := Lib.hid hB
  rw [hres]
  clear hA hB hda hdb hres
  go_enter Tryd.func17, Tryd.ntmps17
  go_wp2_with fail
  have hw0 : Below w.heap.size w (w.alloc (.cells #[.int .i64 a, .int .i64 b] 43)).drew := Below.drew ((Below.refl _ w).alloc (Nat.le_refl _) _)
  have k0 : (w.alloc (.cells #[.int .i64 a, .int .i64 b] 43)).cell? ⟨w.heap.size, 0, none⟩ = some (.int .i64 a) := by rw [World.cell?_alloc_at _ _ _ _ rfl]; rfl
  have k1 : (w.alloc (.cells #[.int .i64 a, .int .i64 b] 43)).cell? ⟨w.heap.size, 1, none⟩ = some (.int .i64 b) := by rw [World.cell?_alloc_at _ _ _ _ rfl]; rfl
  have hs0 : w.heap.size < (w.alloc (.cells #[.int .i64 a, .int .i64 b] 43)).drew.heap.size := by
    show w.heap.size < (w.alloc _).heap.size
    simp
  have H0 := Lib.hid hw0
  have HS0 := Lib.hid hs0
  have K0 := Lib.hid k0
  have K1 := Lib.hid k1
  clear hw0 hs0 k0 k1
  have hn1 : ¬ 9223372036854775807 < da.size + 1 := by omega
  have hn2 : ¬ 9223372036854775807 < da.size + 1 + db.size := by omega
  go_region_held3 (fun w' => w'.cell? ⟨w.heap.size, 0, none⟩ = some (.int .i64 a) ∧ w'.cell? ⟨w.heap.size, 1, none⟩ = some (.int .i64 b)) (first | go_keep | (exact ⟨(hbA.cell (p := ⟨w.heap.size, 0, none⟩) HS0.out).trans K0.out, (hbA.cell (p := ⟨w.heap.size, 1, none⟩) HS0.out).trans K1.out⟩) | (exact ⟨(hbB.cell (p := ⟨w.heap.size, 0, none⟩) (Nat.lt_of_lt_of_le HS0.out hbA.size)).trans ((hbA.cell (p := ⟨w.heap.size, 0, none⟩) HS0.out).trans K0.out), (hbB.cell (p := ⟨w.heap.size, 1, none⟩) (Nat.lt_of_lt_of_le HS0.out hbA.size)).trans ((hbA.cell (p := ⟨w.heap.size, 1, none⟩) HS0.out).trans K1.out)⟩)) (first | (go_at_call 23; ((with_reducible refine (HA.out _ H0.out).mono ?_)); rintro e wA ⟨rfl, hbA⟩) | (go_at_call 23; ((with_reducible refine (HB.out _ (H0.out.trans (hbA.mono (Nat.le_of_lt HS0.out)))).mono ?_)); rintro e wB ⟨rfl, hbB⟩))
  clear hn1 hn2
  go_wp2
  go_ret
  exact ⟨rfl, (H0.out.trans (hbA.mono (Nat.le_of_lt HS0.out))).trans (hbB.mono (Nat.le_trans (Nat.le_of_lt HS0.out) hbA.size))⟩

set_option maxHeartbeats 2000000 in
theorem implPlace_any (a b : Int) (w : World) :
    Calls Tryd.prog 16 #[.agg #[.int .i64 a, .int .i64 b]] w fun e w' => e = .returned (.agg #[.int .i64 a, .int .i64 b]) ∧ Below w.heap.size w w' := by
  go_enter Tryd.func16, Tryd.ntmps16
  go_wp2
  refine bodyPost_ret (v := .agg #[.int .i64 a, .int .i64 b]) (by simp [results, Tryd.results16, go_sem]) rfl ⟨rfl, ?_⟩
  exact ((Below.refl _ w).alloc (Nat.le_refl _) _).alloc (by simp) _

set_option maxHeartbeats 2000000 in
theorem placeText_any (a b : Int) (w : World) (a0 : -9223372036854775808 ≤ a) (a1 : a ≤ 9223372036854775807) (b0 : -9223372036854775808 ≤ b) (b1 : b ≤ 9223372036854775807)
    (htab : Lib.TabIs Tryd.prog w "internal/strconv.uint64pow10" .u64 Lib.pow10Tab) :
    Calls Tryd.prog 9 #[.agg #[.int .i64 a, .int .i64 b]] w fun e w' => e = .returned (.string ⟨(placeBytes a b).toArray⟩) ∧ Below w.heap.size w w' := by
  have HT := Lib.hid htab
  clear htab
  have hw0 : Below w.heap.size w (w.alloc (.cells #[.int .i64 a, .int .i64 b] 25)) := (Below.refl _ w).alloc (Nat.le_refl _) _
  have H0 := Lib.hid hw0
  clear hw0
  go_enter Tryd.func9, Tryd.ntmps9
  go_wp2_with fail
  refine (implPlace_any a b _).mono ?_
  rintro e w1 ⟨rfl, hb1⟩
  have hb01 := H0.out.trans (hb1.mono H0.out.size)
  go_wp2_with fail
  refine (positionString_any a b _ a0 a1 b0 b1 (tab_below HT.out hb01)).mono ?_
  rintro e w2 ⟨rfl, hb2⟩
  go_wp2
  go_ret
  exact ⟨rfl, hb01.trans (hb2.mono hb01.size)⟩

theorem placeText_awake (w : World) (htab : Lib.TabIs Tryd.prog w "internal/strconv.uint64pow10" .u64 Lib.pow10Tab) :
    Calls Tryd.prog 9 #[.agg #[.int .i64 1, .int .i64 2]] w fun e w' => e = .returned (.string ⟨#[49, 58, 50]⟩) ∧ Below w.heap.size w w' := by
  have h := placeText_any 1 2 w (by decide) (by decide) (by decide) (by decide) htab
  have e : (placeBytes 1 2).toArray = #[49, 58, 50] := by
    have h1 : Lib.decDigits 1 = [49] := by rw [Lib.decDigits, dif_pos (by decide)]; rfl
    have h2 : Lib.decDigits 2 = [50] := by rw [Lib.decDigits, dif_pos (by decide)]; rfl
    have i1 : Lib.itoa 1 = [49] := by unfold Lib.itoa; rw [if_neg (by decide)]; exact h1
    have i2 : Lib.itoa 2 = [50] := by unfold Lib.itoa; rw [if_neg (by decide)]; exact h2
    unfold placeBytes
    rw [i1, i2]
    rfl
  rw [e] at h
  exact h

set_option maxHeartbeats 4000000 in
set_option maxRecDepth 100000 in
theorem placeText_law (a b : Int) (w : World) (a0 : -9223372036854775808 ≤ a) (a1 : a ≤ 9223372036854775807) (b0 : -9223372036854775808 ≤ b) (b1 : b ≤ 9223372036854775807)
    (htab : Lib.TabIs Tryd.prog w "internal/strconv.uint64pow10" .u64 Lib.pow10Tab) :
    Calls Tryd.prog 4 #[.agg #[.int .i64 a, .int .i64 b]] w fun e w' => e = .returned (.bool true) ∧ Below w.heap.size w w' := by
  have HT := Lib.hid htab
  clear htab
  have hw0 : Below w.heap.size w (w.alloc (.cells #[.int .i64 a, .int .i64 b] 25)) := (Below.refl _ w).alloc (Nat.le_refl _) _
  have k0 : (w.alloc (.cells #[.int .i64 a, .int .i64 b] 25)).cell? ⟨w.heap.size, 0, none⟩ = some (.int .i64 a) := by rw [World.cell?_alloc_at _ _ _ _ rfl]; rfl
  have k1 : (w.alloc (.cells #[.int .i64 a, .int .i64 b] 25)).cell? ⟨w.heap.size, 1, none⟩ = some (.int .i64 b) := by rw [World.cell?_alloc_at _ _ _ _ rfl]; rfl
  have hs0 : w.heap.size < (w.alloc (.cells #[.int .i64 a, .int .i64 b] 25)).heap.size := by simp
  have H0 := Lib.hid hw0
  have K0 := Lib.hid k0
  have K1 := Lib.hid k1
  have HS := Lib.hid hs0
  clear hw0 k0 k1 hs0
  go_enter Tryd.func4, Tryd.ntmps4
  go_wp2_with fail
  refine (placeText_awake _ (tab_below HT.out H0.out)).mono ?_
  rintro e w1 ⟨rfl, hb1⟩
  have hb01 := H0.out.trans (hb1.mono H0.out.size)
  have c0 : w1.cell? ⟨w.heap.size, 0, none⟩ = some (.int .i64 a) := (hb1.cell (p := ⟨w.heap.size, 0, none⟩) HS.out).trans K0.out
  have c1 : w1.cell? ⟨w.heap.size, 1, none⟩ = some (.int .i64 b) := (hb1.cell (p := ⟨w.heap.size, 1, none⟩) HS.out).trans K1.out
  have hs1 : w.heap.size < w1.heap.size := Nat.lt_of_lt_of_le HS.out hb1.size
  by_cases ha : a < 0
  · go_wp2
    go_ret
    exact ⟨rfl, hb01⟩
  by_cases hb : b < 0
  · go_wp2
    go_ret
    exact ⟨rfl, hb01⟩
  obtain ⟨m, rfl⟩ : ∃ m : Nat, a = (m : Int) := ⟨a.toNat, by omega⟩
  obtain ⟨n, rfl⟩ : ∃ n : Nat, b = (n : Int) := ⟨b.toNat, by omega⟩
  obtain ⟨da, hda⟩ : ∃ d : ByteArray, d = ⟨(Lib.decDigits m).toArray⟩ := ⟨_, rfl⟩
  obtain ⟨db, hdb⟩ : ∃ d : ByteArray, d = ⟨(Lib.decDigits n).toArray⟩ := ⟨_, rfl⟩
  have hla : da.size ≤ 20 := by rw [hda, size_of_list]; exact decDigits_20 m (by omega)
  have hlb : db.size ≤ 20 := by rw [hdb, size_of_list]; exact decDigits_20 n (by omega)
  have hres : (⟨(placeBytes (m : Int) (n : Int)).toArray⟩ : ByteArray) = da ++ ⟨#[58]⟩ ++ db := by
    apply Go.WideShapes.bytes_inj
    rw [hda, hdb]
    have i1 : ∀ k : Nat, Lib.itoa (k : Int) = Lib.decDigits k := fun k => by unfold Lib.itoa; rw [if_neg (by omega)]; simp
    simp [placeBytes, i1]
  have hA : ∀ w', Calls Tryd.prog 10 #[.int .u64 (m : Int)] w' fun e w'' => e = .returned (.string da) ∧ Below w'.heap.size w' w'' := fun w' => by
    rw [hda]; exact digits_any m (by omega) w'
  have hB : ∀ w', Calls Tryd.prog 10 #[.int .u64 (n : Int)] w' fun e w'' => e = .returned (.string db) ∧ Below w'.heap.size w' w'' := fun w' => by
    rw [hdb]; exact digits_any n (by omega) w'
  have hP : ∀ w', Below w.heap.size w w' → Calls Tryd.prog 9 #[.agg #[.int .i64 (m : Int), .int .i64 (n : Int)]] w' fun e w'' => e = .returned (.string (da ++ ⟨#[58]⟩ ++ db)) ∧ Below w'.heap.size w' w'' := fun w' h => by
    rw [← hres]; exact placeText_any _ _ w' a0 a1 b0 b1 (tab_below HT.out h)
  have HA := Lib.hid hA
  have HB := Lib.hid hB
  have HP := Lib.hid hP
  have hu1 : IntKind.u64.wrap (m : Int) = (m : Int) := IntWalk.u64_in _ (by omega)
  have hu2 : IntKind.u64.wrap (n : Int) = (n : Int) := IntWalk.u64_in _ (by omega)
  have hn1 : ¬ 9223372036854775807 < da.size + 1 := by omega
  have hn2 : ¬ 9223372036854775807 < da.size + 1 + db.size := by omega
  have HB01 := Lib.hid hb01
  clear hA hB hP hda hdb hres a0 a1 b0 b1 hb01
  go_wp2_with fail
  go_region_held3 (fun w' => w'.cell? ⟨w.heap.size, 0, none⟩ = some (.int .i64 (m : Int)) ∧ w'.cell? ⟨w.heap.size, 1, none⟩ = some (.int .i64 (n : Int))) (first | go_keep | (exact ⟨(hbP.cell (p := ⟨w.heap.size, 0, none⟩) hs1).trans c0, (hbP.cell (p := ⟨w.heap.size, 1, none⟩) hs1).trans c1⟩) | (exact ⟨(hbA.cell (p := ⟨w.heap.size, 0, none⟩) (Nat.lt_of_lt_of_le hs1 hbP.size)).trans ((hbP.cell (p := ⟨w.heap.size, 0, none⟩) hs1).trans c0), (hbA.cell (p := ⟨w.heap.size, 1, none⟩) (Nat.lt_of_lt_of_le hs1 hbP.size)).trans ((hbP.cell (p := ⟨w.heap.size, 1, none⟩) hs1).trans c1)⟩) | (exact ⟨(hbB.cell (p := ⟨w.heap.size, 0, none⟩) (Nat.lt_of_lt_of_le (Nat.lt_of_lt_of_le hs1 hbP.size) hbA.size)).trans ((hbA.cell (p := ⟨w.heap.size, 0, none⟩) (Nat.lt_of_lt_of_le hs1 hbP.size)).trans ((hbP.cell (p := ⟨w.heap.size, 0, none⟩) hs1).trans c0)), (hbB.cell (p := ⟨w.heap.size, 1, none⟩) (Nat.lt_of_lt_of_le (Nat.lt_of_lt_of_le hs1 hbP.size) hbA.size)).trans ((hbA.cell (p := ⟨w.heap.size, 1, none⟩) (Nat.lt_of_lt_of_le hs1 hbP.size)).trans ((hbP.cell (p := ⟨w.heap.size, 1, none⟩) hs1).trans c1))⟩)) (first | (go_at_call 9; ((with_reducible refine (HP.out _ (Below.drew HB01.out)).mono ?_)); rintro e wP ⟨rfl, hbP⟩) | (go_at_call 10; ((with_reducible refine (HA.out _).mono ?_)); rintro e wA ⟨rfl, hbA⟩) | (go_at_call 10; ((with_reducible refine (HB.out _).mono ?_)); rintro e wB ⟨rfl, hbB⟩))
  clear hn1 hn2 hu1 hu2
  go_wp2
  go_ret
  have e1 := Nat.le_trans (Nat.le_of_lt HS.out) hb1.size
  have e2 := HB01.out.size
  exact ⟨rfl, (((HB01.out.drew).trans (hbP.mono e2)).trans (hbA.mono (Nat.le_trans e2 hbP.size))).trans (hbB.mono (Nat.le_trans (Nat.le_trans e2 hbP.size) hbA.size))⟩

theorem cellsPlace : Tryd.prog.cellsOf 25 = 2 := by kernel_rfl

set_option maxRecDepth 100000 in
theorem placeText_walk {H : Type} {enc : TypeId × Value → H} (W : World) (hL : laidMetH Tryd.prog Rows.fnPlaceTextRow.laid W) (v : Value) (d : DataW H) (p : List MemPlace) (hv : Value.okWide Tryd.prog W .any 0 25 v)
    (h : DataW.Trod enc Tryd.prog W 0 (fun _ => true) true 25 v d p) {ts : List TypeId} {ds : List (DataW H)} (_ : (DataW.weightsEach Tryd.prog ts ds).all (· ≤ reachBytes) = true) :
    Calls Tryd.prog 4 #[v] W fun e W' => e = .returned (.bool true) ∧ Below W.heap.size W W' := by
  obtain ⟨c0, c1, y0, y1, m, rfl, rfl, rfl, hy0, hy1⟩ := Go.Joins.open_agg2 Tryd.underlying25 (by kernel_rfl) cellsPlace hv h
  obtain ⟨a, e0, rfl, wa⟩ := DataW.trod_int Tryd.underlying3 hy0
  obtain ⟨b, e1, rfl, wb⟩ := DataW.trod_int Tryd.underlying3 hy1
  simp at e0 e1
  subst e0 e1
  obtain ⟨a0, a1⟩ := bounds_i64 wa
  obtain ⟨b0, b1⟩ := bounds_i64 wb
  exact placeText_law a b W a0 a1 b0 b1 (pow_tab hL.tail.tail)

end Go.Proofs.YtlnimjpigghbmaaDoor
