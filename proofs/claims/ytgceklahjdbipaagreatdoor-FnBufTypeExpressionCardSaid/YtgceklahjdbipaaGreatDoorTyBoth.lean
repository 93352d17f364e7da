/- Laws on buffers of types: what their walks share. -/
import Derived.Test.YtgceklahjdbipaaGreatDoorTyBuf
import Derived.Test.YtgceklahjdbipaaGreatDoorTyFits
import Derived.Test.YtgceklahjdbipaaGreatDoorUtfTabs
namespace Go.Proofs.YtgceklahjdbipaaGreatDoor
open Go Go.RowKit
set_option linter.unusedVariables false
set_option linter.unusedSimpArgs false

theorem simple_of_ty {tr : Tr} (h : TyT tr) : SimpleT tr := by
  have hno : SimpleT noT := .mk (by decide) fun z hz => by cases hz
  induction h with
  | id x hx h0 hv => exact .mk (by decide) fun z hz => by cases hz
  | name k hk x h ih => exact .mk (by rcases hk with rfl | rfl <;> decide) fun z hz => by rw [List.mem_singleton] at hz; rw [hz]; exact ih
  | array e he h ih => exact .mk (by decide) fun z hz => by rw [List.mem_singleton] at hz; rw [hz]; exact ih
  | dict e1 e2 he1 h1 he2 h2 ih1 ih2 =>
    refine .mk (by decide) fun z hz => ?_
    rcases List.mem_cons.1 hz with rfl | hz
    · exact ih1
    · rw [List.mem_singleton] at hz; rw [hz]; exact ih2
  | record ks hk h ih =>
    refine .mk (by decide) fun z hz => ?_
    rcases List.mem_cons.1 hz with rfl | hz
    · exact hno
    · exact ih z hz
  | recordWith x hx ks hk h ihx ih =>
    refine .mk (by decide) fun z hz => ?_
    rcases List.mem_cons.1 hz with rfl | hz
    · exact ihx
    · exact ih z hz
  | prop x hx e he h ihx ih =>
    refine .mk (by decide) fun z hz => ?_
    rcases List.mem_cons.1 hz with rfl | hz
    · exact ihx
    · rw [List.mem_singleton] at hz; rw [hz]; exact ih
  | func e he h1 ks hk h ih1 ih =>
    refine .mk (by decide) fun z hz => ?_
    rcases List.mem_cons.1 hz with rfl | hz
    · exact ih1
    · exact ih z hz
  | param n hn e he h ih =>
    refine .mk (by decide) fun z hz => ?_
    rcases List.mem_cons.1 hz with rfl | hz
    · exact hno
    · rw [List.mem_singleton] at hz; rw [hz]; exact ih
  | paramWith n hn x hx e he h ihx ih =>
    refine .mk (by decide) fun z hz => ?_
    rcases List.mem_cons.1 hz with rfl | hz
    · exact ihx
    · rw [List.mem_singleton] at hz; rw [hz]; exact ih
  | cons x hx ks hk h ihx ih =>
    refine .mk (by decide) fun z hz => ?_
    rcases List.mem_cons.1 hz with rfl | hz
    · exact ihx
    · exact ih z hz
  | expr e he h1 ks hk h ih1 ih =>
    refine .mk (by decide) fun z hz => ?_
    rcases List.mem_cons.1 hz with rfl | hz
    · exact ih1
    · exact ih z hz

theorem simple_types (kd : Int) (hkd : 44 ≤ kd ∧ kd ≤ 53) (tr : Tr) (hl : Lies tr) (h : FitsT tr) (hk : tr.kind = kd) : SimpleT tr := simple_of_ty (fits_ty tr hl h (by rw [hk]; exact hkd))

/-- A buffer whose root says Q. -/
def TypeBuf (Q : List UInt8 → Nat → Prop) (w : World) (e : Ending) (w' : World) : Prop :=
  ∃ (g L c : Nat) (bs : List UInt8) (q : Nat), e = .returned (.slice (some ⟨g, 0, none⟩) L c) ∧ RowAt g L c bs w' ∧ Below w.heap.size w w' ∧ rd bs 0 4 = q ∧ q + 4 ≤ bs.length ∧ Q bs q

/-- spec.Buffer over a tree whose table is written. -/
theorem buffer_made {base : Bool} {tr : Tr} {P : List UInt8 → List UInt8 × Nat} {sz : Nat} {Q : List UInt8 → Nat → Prop} (h : Wr base tr P sz Q) (hsz : sz < 700000) (w : World) (N : Nat) (v : Value) (hN : N ≤ w.heap.size) (hv : NodeIn w (· < N) tr v) :
    Calls Tryz.prog 10 #[v, .bool base] w (TypeBuf Q w) := by
  obtain ⟨k, t, m, u, ks, a, c, rfl, rfl⟩ := hv.form
  refine (buffer_any base P sz Q h.part (by omega) k t m u (.slice a ks.length c) ⟨a, _, c, rfl⟩ w (fun M W hM hb ho => ?_)).mono ?_
  · exact h.wr M N _ W _ hM (hv.keep (Keep.of_below hb hN)) (fun r hr => ho r (by omega)) (Nat.le_trans hN hb.size) (by simp; omega)
  · rintro e w' ⟨g, c', rfl, hby, hb, hc, hgl⟩
    obtain ⟨hl, q, h1, h2, h3, h4⟩ := whole_ok _ _ _ h.part (by omega)
    exact ⟨g, _, c', _, q, rfl, ⟨bytes_row hby, rfl, hc, by omega, hgl⟩, hb, h1, h3, h4⟩

set_option maxHeartbeats 4000000 in
set_option maxRecDepth 100000 in
/-- laws.buffered over any tree, at a kind whose trees are simple. -/
theorem bufferedL_any (kd : Int) (hsm : ∀ tr, Lies tr → FitsT tr → tr.kind = kd → SimpleT tr) (tr : Tr) (v : Value) (N : Nat) (w : World) (hv : NodeIn w (· < N) tr v) (hN : N ≤ w.heap.size) (hT : Lib.Utf8Tabs 1 2 w) :
    Calls Tryz.prog 8 #[v, .int .i64 kd] w (YesB (BigFits tr ∧ tr.kind = kd) w) := by
  obtain ⟨k, x, m, n, ks, a, c, rfl, rfl⟩ := hv.form
  have hb0 : Below w.heap.size w (w.alloc (.cells #[.int .i64 k, .string x, .string m, .int .u64 n, .slice a ks.length c] 25)) := (Below.refl _ w).alloc (Nat.le_refl _) _
  have hx0 : BoxAt w.heap.size k x m n a ks.length c (w.alloc (.cells #[.int .i64 k, .string x, .string m, .int .u64 n, .slice a ks.length c] 25)) := heap_alloc_new w _
  have hF := Fits_any _ _ N _ (hv.keep (Keep.of_below hb0 hN)) (Nat.le_trans hN hb0.size) (Utf8Tabs_below hT hb0)
  have HNO : Hid (∀ w', Below w.heap.size w w' → YesB (BigFits (.mk k x m n ks) ∧ (Tr.mk k x m n ks).kind = kd) w (.returned (.bool false)) w') := Lib.hid fun w' h => ⟨false, rfl, (fun h => by cases h), h⟩
  unfold nodeU at hF ⊢
  have HB0 := Lib.hid hb0
  have HX0 := Lib.hid hx0
  have HF := Lib.hid hF
  have HV := Lib.hid hv
  have HSM := Lib.hid hsm
  clear hv hT hb0 hx0 hF hsm
  go_enter Tryz.func8, Tryz.ntmps8
  go_wp2_with fail
  ((with_reducible refine HF.out.mono ?_))
  rintro e w1 ⟨b, rfl, hb, hb1⟩
  have HB1 := Lib.hid (HB0.out.trans (hb1.mono HB0.out.size))
  have HX1 := Lib.hid (HX0.out.below hb1)
  clear hb1
  cases b with
  | false =>
    go_wp2
    go_ret
    exact HNO.out _ HB1.out
  | true =>
    have HFIT := Lib.hid (hb rfl)
    obtain ⟨c0, c1, c2, c3, c4⟩ := HX1.out.five
    clear hb
    by_cases hk : k = kd
    · subst hk
      have HST := Lib.hid (HSM.out _ ⟨_, _, _, HV.out⟩ HFIT.out.1 rfl)
      have HYES : Hid (∀ w', Below w.heap.size w w' → YesB (BigFits (.mk k x m n ks) ∧ (Tr.mk k x m n ks).kind = k) w (.returned (.bool true)) w') := Lib.hid fun w' h => ⟨true, rfl, fun _ => ⟨HFIT.out, rfl⟩, h⟩
      have hK := buffered_simple _ _ N w1 HST.out (HV.out.keep (Keep.of_below HB1.out hN)) (Nat.le_trans hN HB1.out.size)
      unfold nodeU at hK
      have HKE := Lib.hid hK
      clear hK
      go_wp2_with fail
      ((with_reducible refine HKE.out.mono ?_))
      rintro e w2 ⟨rfl, hb2⟩
      have HB2 := Lib.hid (HB1.out.trans (hb2.mono HB1.out.size))
      have HX2 : Hid (BoxAt w.heap.size k x m n a ks.length c w2) := Lib.hid (HX1.out.below hb2)
      have hP := plain_simple _ _ N w2 HST.out (HV.out.keep (Keep.of_below HB2.out hN)) (Nat.le_trans hN HB2.out.size)
      unfold nodeU at hP
      have HPL := Lib.hid hP
      clear hb2 hP c0 c1 c2 c3 c4
      obtain ⟨c0, c1, c2, c3, c4⟩ := HX2.out.five
      go_wp2_with fail
      ((with_reducible refine HPL.out.mono ?_))
      rintro e w3 ⟨rfl, hb3⟩
      have HB3 := Lib.hid (HB2.out.trans (hb3.mono HB2.out.size))
      clear hb3
      go_wp2
      go_ret
      exact HYES.out _ HB3.out
    · have hkb : (k == kd) = false := beq_eq_false_iff_ne.2 hk
      go_wp2
      go_ret
      exact HNO.out _ HB1.out

end Go.Proofs.YtgceklahjdbipaaGreatDoor
