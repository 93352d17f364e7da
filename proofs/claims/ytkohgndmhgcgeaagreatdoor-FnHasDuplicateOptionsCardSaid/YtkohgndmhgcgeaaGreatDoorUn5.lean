/- impl.unnode over kinds of nodes and a list. -/
import Derived.Test.YtkohgndmhgcgeaaGreatDoorUnL
import Derived.Test.YtkohgndmhgcgeaaGreatDoorUn1
namespace Go.Proofs.YtkohgndmhgcgeaaGreatDoor
open Go Go.RowKit
set_option linter.unusedVariables false
set_option linter.unusedSimpArgs false

set_option maxHeartbeats 2000000 in
theorem kid_any (k : Int) (t m : ByteArray) (u : Int) (b o n c : Nat) (hp : 0 < n) (a0 : Tr) (x0 : Option Addr) (y0 : Nat) (W : World) (d0 : W.cell? ⟨b, o, none⟩ = some (.int .i64 a0.kind)) (d1 : W.cell? ⟨b, o + 1, none⟩ = some (.string a0.text)) (d2 : W.cell? ⟨b, o + 2, none⟩ = some (.string a0.more)) (d3 : W.cell? ⟨b, o + 3, none⟩ = some (.int .u64 a0.num)) (d4 : W.cell? ⟨b, o + 4, none⟩ = some (.slice x0 a0.kids.length y0)) :
    Calls Tryz.prog 45 #[.agg #[.int .i64 k, .string t, .string m, .int .u64 u, .slice (some ⟨b, o, none⟩) n c], .int .i64 0] W fun e w' => e = .returned (.agg #[.int .i64 a0.kind, .string a0.text, .string a0.more, .int .u64 a0.num, .slice x0 a0.kids.length y0]) ∧ Below W.heap.size W w' := by
  have hb0 := (Below.refl W.heap.size W).alloc (Nat.le_refl _) (.cells #[.int .i64 k, .string t, .string m, .int .u64 u, .slice (some ⟨b, o, none⟩) n c] 25)
  have hb1 := hb0.alloc hb0.size (.cells #[.int .i64 0, .string ⟨#[]⟩, .string ⟨#[]⟩, .int .u64 0, .slice none 0 0] 25)
  have e0 := (hb1.cell (p := ⟨b, o, none⟩) (cell_lt d0)).trans d0
  have e1 := (hb1.cell (p := ⟨b, o + 1, none⟩) (cell_lt d1)).trans d1
  have e2 := (hb1.cell (p := ⟨b, o + 2, none⟩) (cell_lt d2)).trans d2
  have e3 := (hb1.cell (p := ⟨b, o + 3, none⟩) (cell_lt d3)).trans d3
  have e4 := (hb1.cell (p := ⟨b, o + 4, none⟩) (cell_lt d4)).trans d4
  have HB := Lib.hid hb0
  have hpi : (0 : Int) < (n : Int) := by omega
  clear d0 d1 d2 d3 d4 hb0 hb1
  go_enter Tryz.func45, Tryz.ntmps45
  go_wp2
  refine bodyPost_ret (v := .agg #[.int .i64 a0.kind, .string a0.text, .string a0.more, .int .u64 a0.num, .slice x0 a0.kids.length y0]) (by simp [results, Tryz.results45, go_sem]) rfl ⟨rfl, ?_⟩
  exact HB.out.alloc HB.out.size _

theorem NodeIn.cap {w : World} {B : Nat → Prop} {k : Int} {t m : ByteArray} {n : Int} {ks : List Tr} {a : Option Addr} {l c : Nat} (h : NodeIn w B (.mk k t m n ks) (nodeU k t m n a l c)) : ks.length ≤ c := by
  obtain ⟨a1, c1, he, hk, hn, ht, hm, hl, hc, _⟩ := h.parts
  unfold nodeU at he
  simp only [Value.agg.injEq, Array.mk.injEq, List.cons.injEq, Value.slice.injEq] at he
  rw [he.2.2.2.2.1.2.2]
  exact hc


set_option maxHeartbeats 8000000 in
set_option maxRecDepth 100000 in
theorem un_k16 {N : Nat} (a0 : Tr) (h0 : UnH N a0) (c0 : exprB a0.kind) {l : List Tr} (hl : ∀ x ∈ l, UnH N x) (cl : ∀ x ∈ l, exprB x.kind) (hlen : l.length ≤ 1000) : UnH N (.mk 16 ⟨#[]⟩ ⟨#[]⟩ 0 (a0 :: l)) := by
  intro v w hv hN
  obtain ⟨k', t', m', n', ks', a, c, he, rfl⟩ := hv.form
  injection he with e1 e2 e3 e4 e5
  subst e1 e2 e3 e4 e5
  have hrn := RowN.of hv
  obtain ⟨b, o, rfl, hbN, hkid⟩ := hv.kidsAt (by simp)
  have hrt := hrn.tail
  have hcap : l.length + 1 ≤ c := hv.cap
  obtain ⟨nl, hnl⟩ : ∃ nl, l.length = nl := ⟨_, rfl⟩
  have hb0 := (Below.refl w.heap.size w).alloc (Nat.le_refl _) (.cells #[.int .i64 16, .string ⟨#[]⟩, .string ⟨#[]⟩, .int .u64 0, .slice (some ⟨b, o, none⟩) (nl + 1) c] 25)
  have hrow0 := heap_alloc_new w (.cells #[.int .i64 16, .string ⟨#[]⟩, .string ⟨#[]⟩, .int .u64 0, .slice (some ⟨b, o, none⟩) (nl + 1) c] 25)
  obtain ⟨w0, hw0⟩ : ∃ w0, w0 = w.alloc (.cells #[.int .i64 16, .string ⟨#[]⟩, .string ⟨#[]⟩, .int .u64 0, .slice (some ⟨b, o, none⟩) (nl + 1) c] 25) := ⟨_, rfl⟩
  rw [← hw0] at hb0 hrow0
  have hN0 : N ≤ w0.heap.size := Nat.le_trans hN hb0.size
  have hbl : b < w0.heap.size := Nat.lt_of_lt_of_le hbN hN0
  obtain ⟨x0, y0, hn0, d00, d01, d02, d03, d04⟩ := hkid w0 (Keep.of_below hb0 hN) 0 (by simp)
  simp only [List.getElem_cons_zero, Nat.zero_mul, Nat.add_zero] at hn0 d00 d01 d02 d03 d04
  unfold nodeU at hn0
  have HKID : Hid (∀ W, Below w0.heap.size w0 W → Calls Tryz.prog 45 #[.agg #[.int .i64 16, .string ⟨#[]⟩, .string ⟨#[]⟩, .int .u64 0, .slice (some ⟨b, o, none⟩) (nl + 1) c], .int .i64 0] W fun e w' => e = .returned (.agg #[.int .i64 a0.kind, .string a0.text, .string a0.more, .int .u64 a0.num, .slice x0 a0.kids.length y0]) ∧ Below W.heap.size W w') := Lib.hid fun W hb => kid_any _ _ _ _ b o _ c (Nat.succ_pos _) a0 x0 y0 W ((hb.cell (p := ⟨b, o, none⟩) hbl).trans d00) ((hb.cell (p := ⟨b, o + 1, none⟩) hbl).trans d01) ((hb.cell (p := ⟨b, o + 2, none⟩) hbl).trans d02) ((hb.cell (p := ⟨b, o + 3, none⟩) hbl).trans d03) ((hb.cell (p := ⟨b, o + 4, none⟩) hbl).trans d04)
  have HC0 : Hid (∀ W, Below w0.heap.size w0 W → Calls Tryz.prog 44 #[.agg #[.int .i64 a0.kind, .string a0.text, .string a0.more, .int .u64 a0.num, .slice x0 a0.kids.length y0]] W (UnP a0 W)) := Lib.hid fun W hb => nodeOf_Expression h0 c0 _ W (hn0.keep (Keep.of_below hb hN0)) (Nat.le_trans hN0 hb.size)
  have HL : Hid (∀ W ad c9, (0 < nl → ad = some ⟨b, o + 5, none⟩) → Below w0.heap.size w0 W → Calls Tryz.prog 46 #[.slice ad nl c9] W (ListP 68 valI l W)) := Lib.hid fun W ad c9 had hb => by
    rw [← hnl] at had ⊢
    refine nodesOf_Expression hl cl hlen _ c9 W (Nat.le_trans hN0 hb.size) fun hp => ?_
    rw [had hp]
    exact hrt.keep ((Keep.of_below hb0 hN).trans (Keep.of_below hb hN0)) hp
  have HROW := Lib.hid hrow0
  have HB0 := Lib.hid hb0
  have HS : Hid (∀ w', Below w0.heap.size w0 w' → w'.cell? ⟨w.heap.size, 0, none⟩ = some (.int .i64 16) ∧ w'.cell? ⟨w.heap.size, 1, none⟩ = some (.string ⟨#[]⟩) ∧ w'.cell? ⟨w.heap.size, 2, none⟩ = some (.string ⟨#[]⟩) ∧ w'.cell? ⟨w.heap.size, 3, none⟩ = some (.int .u64 0) ∧ w'.cell? ⟨w.heap.size, 4, none⟩ = some (.slice (some ⟨b, o, none⟩) (nl + 1) c)) := Lib.hid fun w' hb => by
    have hc : ∀ r i, r < w0.heap.size → w'.cell? ⟨r, i, none⟩ = w0.cell? ⟨r, i, none⟩ := fun r i hr => hb.cell (p := ⟨r, i, none⟩) hr
    have hx := (Array.getElem?_eq_some_iff.1 HROW.out).1
    exact ⟨(hc _ _ hx).trans (by rw [Lib.cell_of_heap HROW.out]; rfl), (hc _ _ hx).trans (by rw [Lib.cell_of_heap HROW.out]; rfl), (hc _ _ hx).trans (by rw [Lib.cell_of_heap HROW.out]; rfl), (hc _ _ hx).trans (by rw [Lib.cell_of_heap HROW.out]; rfl), (hc _ _ hx).trans (by rw [Lib.cell_of_heap HROW.out]; rfl)⟩
  have HW0 := Lib.hid hw0
  rw [hnl] at hcap
  have hpi : (1 : Int) ≤ (nl : Int) + 1 := by omega
  have hpj : (nl : Int) + 1 ≤ c := by omega
  have hpk : (1 : Int) ≤ c := by omega
  have hp0 : (0 : Int) ≤ 1 := by omega
  clear hv hkid hb0 hrow0 hn0 d00 d01 d02 d03 d04 h0 c0 hl cl hrn hrt
  unfold nodeU
  rw [List.length_cons, hnl]
  clear hnl
  by_cases hc1 : c = 1
  · have h0 : nl = 0 := by omega
    subst hc1 h0
    go_enter Tryz.func23, Tryz.ntmps23
    go_upto_region 45 with fail
    rw [← HW0.out]
    clear hw0 HW0
    have hbxd : Below w0.heap.size w0 w0.drew := (Below.refl _ w0).drew
    go_region_held3 (fun w' => w'.cell? ⟨w.heap.size, 0, none⟩ = some (.int .i64 16) ∧ w'.cell? ⟨w.heap.size, 1, none⟩ = some (.string ⟨#[]⟩) ∧ w'.cell? ⟨w.heap.size, 2, none⟩ = some (.string ⟨#[]⟩) ∧ w'.cell? ⟨w.heap.size, 3, none⟩ = some (.int .u64 0) ∧ w'.cell? ⟨w.heap.size, 4, none⟩ = some (.slice (some ⟨b, o, none⟩) (0 + 1) 1)) (first | exact HS.out _ (Below.refl _ _) | exact HS.out _ hbxd | exact HS.out _ hz1 | exact HS.out _ hz2 | exact HS.out _ hz3 | go_keep) (first
      | (go_at_call 45; ((with_reducible refine (HKID.out _ hbxd).mono ?_)); rintro e w1 ⟨rfl, hb1⟩; have hz1 : Below w0.heap.size w0 w1 := hbxd.trans (hb1.mono hbxd.size))
      | (go_at_call 44; ((with_reducible refine (HC0.out _ hz1).mono ?_)); rintro e w2 ⟨r0, rfl, hr0, hb2⟩; have hz2 : Below w0.heap.size w0 w2 := hz1.trans (hb2.mono hz1.size))
      | (go_at_call 46; ((with_reducible refine (HL.out _ _ _ (by first | exact fun _ => rfl | exact fun h => absurd h (Nat.lt_irrefl _)) hz2).mono ?_)); rintro e w3 ⟨s, a5, c5, rfl, hq, hb3⟩; have hz3 : Below w0.heap.size w0 w3 := hz2.trans (hb3.mono hz2.size))
      | fail "none")
    all_goals
      have HBL := Lib.hid (HB0.out.trans (hz3.mono HB0.out.size))
      have HL0 := Lib.hid (Nat.le_trans HB0.out.size hbxd.size)
      have HL2 := Lib.hid (Nat.le_trans HB0.out.size hz2.size)
      have HR0 := Lib.hid hr0
      have HQ := Lib.hid hq
      have HB1 := Lib.hid hb1
      have HB3 := Lib.hid hb3
      clear hr0 hq
      have HAL := Lib.hid ((Below.refl w3.heap.size w3).alloc (Nat.le_refl _) (.cells #[.pointer none, .slice none 0 0, .slice none 0 0, kv a0.kind r0, .slice none 0 0, .slice a5 l.length c5, .slice none 0 0] 143))
      have HROWN := Lib.hid (heap_alloc_new w3 (.cells #[.pointer none, .slice none 0 0, .slice none 0 0, kv a0.kind r0, .slice none 0 0, .slice a5 l.length c5, .slice none 0 0] 143))
      have HSZ := Lib.hid (alloc_size w3 (.cells #[.pointer none, .slice none 0 0, .slice none 0 0, kv a0.kind r0, .slice none 0 0, .slice a5 l.length c5, .slice none 0 0] 143))
      go_wp2
      go_ret
      have HU := HQ.out.up HAL.out HL2.out
      exact ⟨w3.heap.size, rfl, .k16 a0 r0 (HR0.out.up (HB3.out.trans (HAL.out.mono HB3.out.size)) (Nat.le_trans HL0.out HB1.out.size)) l s HU.len _ HU.row HU.kids _ ⟨HBL.out.size, by rw [HSZ.out]; exact Nat.lt_succ_self _⟩ HROWN.out, HBL.out.trans (HAL.out.mono HBL.out.size)⟩
  · have hc2 : ¬ c - 1 = 0 := by omega
    have hc3 : ¬ c ≤ 1 := by omega
    have hc4 : ¬ (c : Int) - 1 = 0 := by omega
    have hc5 : ¬ (c : Int) = 1 := by omega
    have hc6 : ¬ (c : Int) ≤ 1 := by omega
    have hc7 : 1 < c := by omega
    go_enter Tryz.func23, Tryz.ntmps23
    go_upto_region 45 with fail
    rw [← HW0.out]
    clear hw0 HW0
    have hbxd : Below w0.heap.size w0 w0.drew := (Below.refl _ w0).drew
    go_region_held3 (fun w' => w'.cell? ⟨w.heap.size, 0, none⟩ = some (.int .i64 16) ∧ w'.cell? ⟨w.heap.size, 1, none⟩ = some (.string ⟨#[]⟩) ∧ w'.cell? ⟨w.heap.size, 2, none⟩ = some (.string ⟨#[]⟩) ∧ w'.cell? ⟨w.heap.size, 3, none⟩ = some (.int .u64 0) ∧ w'.cell? ⟨w.heap.size, 4, none⟩ = some (.slice (some ⟨b, o, none⟩) (nl + 1) c)) (first | exact HS.out _ (Below.refl _ _) | exact HS.out _ hbxd | exact HS.out _ hz1 | exact HS.out _ hz2 | exact HS.out _ hz3 | go_keep) (first
      | (go_at_call 45; ((with_reducible refine (HKID.out _ hbxd).mono ?_)); rintro e w1 ⟨rfl, hb1⟩; have hz1 : Below w0.heap.size w0 w1 := hbxd.trans (hb1.mono hbxd.size))
      | (go_at_call 44; ((with_reducible refine (HC0.out _ hz1).mono ?_)); rintro e w2 ⟨r0, rfl, hr0, hb2⟩; have hz2 : Below w0.heap.size w0 w2 := hz1.trans (hb2.mono hz1.size))
      | (go_at_call 46; ((with_reducible refine (HL.out _ _ _ (by first | exact fun _ => rfl | exact fun h => absurd h (Nat.lt_irrefl _)) hz2).mono ?_)); rintro e w3 ⟨s, a5, c5, rfl, hq, hb3⟩; have hz3 : Below w0.heap.size w0 w3 := hz2.trans (hb3.mono hz2.size))
      | fail "none")
    all_goals
      have HBL := Lib.hid (HB0.out.trans (hz3.mono HB0.out.size))
      have HL0 := Lib.hid (Nat.le_trans HB0.out.size hbxd.size)
      have HL2 := Lib.hid (Nat.le_trans HB0.out.size hz2.size)
      have HR0 := Lib.hid hr0
      have HQ := Lib.hid hq
      have HB1 := Lib.hid hb1
      have HB3 := Lib.hid hb3
      clear hr0 hq
      have HAL := Lib.hid ((Below.refl w3.heap.size w3).alloc (Nat.le_refl _) (.cells #[.pointer none, .slice none 0 0, .slice none 0 0, kv a0.kind r0, .slice none 0 0, .slice a5 l.length c5, .slice none 0 0] 143))
      have HROWN := Lib.hid (heap_alloc_new w3 (.cells #[.pointer none, .slice none 0 0, .slice none 0 0, kv a0.kind r0, .slice none 0 0, .slice a5 l.length c5, .slice none 0 0] 143))
      have HSZ := Lib.hid (alloc_size w3 (.cells #[.pointer none, .slice none 0 0, .slice none 0 0, kv a0.kind r0, .slice none 0 0, .slice a5 l.length c5, .slice none 0 0] 143))
      go_wp2
      go_ret
      have HU := HQ.out.up HAL.out HL2.out
      exact ⟨w3.heap.size, rfl, .k16 a0 r0 (HR0.out.up (HB3.out.trans (HAL.out.mono HB3.out.size)) (Nat.le_trans HL0.out HB1.out.size)) l s HU.len _ HU.row HU.kids _ ⟨HBL.out.size, by rw [HSZ.out]; exact Nat.lt_succ_self _⟩ HROWN.out, HBL.out.trans (HAL.out.mono HBL.out.size)⟩


set_option maxHeartbeats 8000000 in
set_option maxRecDepth 100000 in
theorem un_k28 {N : Nat} (a0 : Tr) (h0 : a0.kind ≠ 0 → UnH N a0) (c0 : (a0.kind = 33 ∨ a0.kind = 0)) {l : List Tr} (hl : ∀ x ∈ l, UnH N x) (cl : ∀ x ∈ l, x.kind = 29) (hlen : l.length ≤ 1000) : UnH N (.mk 28 ⟨#[]⟩ ⟨#[]⟩ 0 (a0 :: l)) := by
  intro v w hv hN
  obtain ⟨k', t', m', n', ks', a, c, he, rfl⟩ := hv.form
  injection he with e1 e2 e3 e4 e5
  subst e1 e2 e3 e4 e5
  have hrn := RowN.of hv
  obtain ⟨b, o, rfl, hbN, hkid⟩ := hv.kidsAt (by simp)
  have hrt := hrn.tail
  have hcap : l.length + 1 ≤ c := hv.cap
  obtain ⟨nl, hnl⟩ : ∃ nl, l.length = nl := ⟨_, rfl⟩
  have hb0 := (Below.refl w.heap.size w).alloc (Nat.le_refl _) (.cells #[.int .i64 28, .string ⟨#[]⟩, .string ⟨#[]⟩, .int .u64 0, .slice (some ⟨b, o, none⟩) (nl + 1) c] 25)
  have hrow0 := heap_alloc_new w (.cells #[.int .i64 28, .string ⟨#[]⟩, .string ⟨#[]⟩, .int .u64 0, .slice (some ⟨b, o, none⟩) (nl + 1) c] 25)
  obtain ⟨w0, hw0⟩ : ∃ w0, w0 = w.alloc (.cells #[.int .i64 28, .string ⟨#[]⟩, .string ⟨#[]⟩, .int .u64 0, .slice (some ⟨b, o, none⟩) (nl + 1) c] 25) := ⟨_, rfl⟩
  rw [← hw0] at hb0 hrow0
  have hN0 : N ≤ w0.heap.size := Nat.le_trans hN hb0.size
  have hbl : b < w0.heap.size := Nat.lt_of_lt_of_le hbN hN0
  obtain ⟨x0, y0, hn0, d00, d01, d02, d03, d04⟩ := hkid w0 (Keep.of_below hb0 hN) 0 (by simp)
  simp only [List.getElem_cons_zero, Nat.zero_mul, Nat.add_zero] at hn0 d00 d01 d02 d03 d04
  unfold nodeU at hn0
  have HKID : Hid (∀ W, Below w0.heap.size w0 W → Calls Tryz.prog 45 #[.agg #[.int .i64 28, .string ⟨#[]⟩, .string ⟨#[]⟩, .int .u64 0, .slice (some ⟨b, o, none⟩) (nl + 1) c], .int .i64 0] W fun e w' => e = .returned (.agg #[.int .i64 a0.kind, .string a0.text, .string a0.more, .int .u64 a0.num, .slice x0 a0.kids.length y0]) ∧ Below W.heap.size W w') := Lib.hid fun W hb => kid_any _ _ _ _ b o _ c (Nat.succ_pos _) a0 x0 y0 W ((hb.cell (p := ⟨b, o, none⟩) hbl).trans d00) ((hb.cell (p := ⟨b, o + 1, none⟩) hbl).trans d01) ((hb.cell (p := ⟨b, o + 2, none⟩) hbl).trans d02) ((hb.cell (p := ⟨b, o + 3, none⟩) hbl).trans d03) ((hb.cell (p := ⟨b, o + 4, none⟩) hbl).trans d04)
  have HC0 : Hid (∀ W, Below w0.heap.size w0 W → Calls Tryz.prog 35 #[.agg #[.int .i64 a0.kind, .string a0.text, .string a0.more, .int .u64 a0.num, .slice x0 a0.kids.length y0]] W (OptPP a0 W)) := Lib.hid fun W hb => maybeIdentifier_any h0 c0 _ W (hn0.keep (Keep.of_below hb hN0)) (Nat.le_trans hN0 hb.size)
  have HL : Hid (∀ W ad c9, (0 < nl → ad = some ⟨b, o + 5, none⟩) → Below w0.heap.size w0 W → Calls Tryz.prog 49 #[.slice ad nl c9] W (ListP 159 valP l W)) := Lib.hid fun W ad c9 had hb => by
    rw [← hnl] at had ⊢
    refine nodesOf_Property hl cl hlen _ c9 W (Nat.le_trans hN0 hb.size) fun hp => ?_
    rw [had hp]
    exact hrt.keep ((Keep.of_below hb0 hN).trans (Keep.of_below hb hN0)) hp
  have HROW := Lib.hid hrow0
  have HB0 := Lib.hid hb0
  have HS : Hid (∀ w', Below w0.heap.size w0 w' → w'.cell? ⟨w.heap.size, 0, none⟩ = some (.int .i64 28) ∧ w'.cell? ⟨w.heap.size, 1, none⟩ = some (.string ⟨#[]⟩) ∧ w'.cell? ⟨w.heap.size, 2, none⟩ = some (.string ⟨#[]⟩) ∧ w'.cell? ⟨w.heap.size, 3, none⟩ = some (.int .u64 0) ∧ w'.cell? ⟨w.heap.size, 4, none⟩ = some (.slice (some ⟨b, o, none⟩) (nl + 1) c)) := Lib.hid fun w' hb => by
    have hc : ∀ r i, r < w0.heap.size → w'.cell? ⟨r, i, none⟩ = w0.cell? ⟨r, i, none⟩ := fun r i hr => hb.cell (p := ⟨r, i, none⟩) hr
    have hx := (Array.getElem?_eq_some_iff.1 HROW.out).1
    exact ⟨(hc _ _ hx).trans (by rw [Lib.cell_of_heap HROW.out]; rfl), (hc _ _ hx).trans (by rw [Lib.cell_of_heap HROW.out]; rfl), (hc _ _ hx).trans (by rw [Lib.cell_of_heap HROW.out]; rfl), (hc _ _ hx).trans (by rw [Lib.cell_of_heap HROW.out]; rfl), (hc _ _ hx).trans (by rw [Lib.cell_of_heap HROW.out]; rfl)⟩
  have HW0 := Lib.hid hw0
  rw [hnl] at hcap
  have hpi : (1 : Int) ≤ (nl : Int) + 1 := by omega
  have hpj : (nl : Int) + 1 ≤ c := by omega
  have hpk : (1 : Int) ≤ c := by omega
  have hp0 : (0 : Int) ≤ 1 := by omega
  clear hv hkid hb0 hrow0 hn0 d00 d01 d02 d03 d04 h0 c0 hl cl hrn hrt
  unfold nodeU
  rw [List.length_cons, hnl]
  clear hnl
  by_cases hc1 : c = 1
  · have h0 : nl = 0 := by omega
    subst hc1 h0
    go_enter Tryz.func23, Tryz.ntmps23
    go_upto_region 86 with fail
    rw [← HW0.out]
    clear hw0 HW0
    have hbxd : Below w0.heap.size w0 w0.drew := (Below.refl _ w0).drew
    go_region_held3 (fun w' => w'.cell? ⟨w.heap.size, 0, none⟩ = some (.int .i64 28) ∧ w'.cell? ⟨w.heap.size, 1, none⟩ = some (.string ⟨#[]⟩) ∧ w'.cell? ⟨w.heap.size, 2, none⟩ = some (.string ⟨#[]⟩) ∧ w'.cell? ⟨w.heap.size, 3, none⟩ = some (.int .u64 0) ∧ w'.cell? ⟨w.heap.size, 4, none⟩ = some (.slice (some ⟨b, o, none⟩) (0 + 1) 1)) (first | exact HS.out _ (Below.refl _ _) | exact HS.out _ hbxd | exact HS.out _ hz1 | exact HS.out _ hz2 | exact HS.out _ hz3 | go_keep) (first
      | (go_at_call 45; ((with_reducible refine (HKID.out _ hbxd).mono ?_)); rintro e w1 ⟨rfl, hb1⟩; have hz1 : Below w0.heap.size w0 w1 := hbxd.trans (hb1.mono hbxd.size))
      | (go_at_call 35; ((with_reducible refine (HC0.out _ hz1).mono ?_)); rintro e w2 ⟨r0, rfl, hr0, hb2⟩; have hz2 : Below w0.heap.size w0 w2 := hz1.trans (hb2.mono hz1.size))
      | (go_at_call 49; ((with_reducible refine (HL.out _ _ _ (by first | exact fun _ => rfl | exact fun h => absurd h (Nat.lt_irrefl _)) hz2).mono ?_)); rintro e w3 ⟨s, a5, c5, rfl, hq, hb3⟩; have hz3 : Below w0.heap.size w0 w3 := hz2.trans (hb3.mono hz2.size))
      | fail "none")
    all_goals
      have HBL := Lib.hid (HB0.out.trans (hz3.mono HB0.out.size))
      have HL0 := Lib.hid (Nat.le_trans HB0.out.size hbxd.size)
      have HL2 := Lib.hid (Nat.le_trans HB0.out.size hz2.size)
      have HR0 := Lib.hid hr0
      have HQ := Lib.hid hq
      have HB1 := Lib.hid hb1
      have HB3 := Lib.hid hb3
      clear hr0 hq
      have HAL := Lib.hid ((Below.refl w3.heap.size w3).alloc (Nat.le_refl _) (.cells #[.pointer none, .slice none 0 0, .slice none 0 0, .slice none 0 0, op a0.kind r0, .slice a5 l.length c5, .slice none 0 0] 193))
      have HROWN := Lib.hid (heap_alloc_new w3 (.cells #[.pointer none, .slice none 0 0, .slice none 0 0, .slice none 0 0, op a0.kind r0, .slice a5 l.length c5, .slice none 0 0] 193))
      have HSZ := Lib.hid (alloc_size w3 (.cells #[.pointer none, .slice none 0 0, .slice none 0 0, .slice none 0 0, op a0.kind r0, .slice a5 l.length c5, .slice none 0 0] 193))
      go_wp2
      go_ret
      have HU := HQ.out.up HAL.out HL2.out
      exact ⟨w3.heap.size, rfl, .k28 a0 r0 (fun hz => ((HR0.out hz).up (HB3.out.trans (HAL.out.mono HB3.out.size)) (Nat.le_trans HL0.out HB1.out.size))) l s HU.len _ HU.row HU.kids _ ⟨HBL.out.size, by rw [HSZ.out]; exact Nat.lt_succ_self _⟩ HROWN.out, HBL.out.trans (HAL.out.mono HBL.out.size)⟩
  · have hc2 : ¬ c - 1 = 0 := by omega
    have hc3 : ¬ c ≤ 1 := by omega
    have hc4 : ¬ (c : Int) - 1 = 0 := by omega
    have hc5 : ¬ (c : Int) = 1 := by omega
    have hc6 : ¬ (c : Int) ≤ 1 := by omega
    have hc7 : 1 < c := by omega
    go_enter Tryz.func23, Tryz.ntmps23
    go_upto_region 86 with fail
    rw [← HW0.out]
    clear hw0 HW0
    have hbxd : Below w0.heap.size w0 w0.drew := (Below.refl _ w0).drew
    go_region_held3 (fun w' => w'.cell? ⟨w.heap.size, 0, none⟩ = some (.int .i64 28) ∧ w'.cell? ⟨w.heap.size, 1, none⟩ = some (.string ⟨#[]⟩) ∧ w'.cell? ⟨w.heap.size, 2, none⟩ = some (.string ⟨#[]⟩) ∧ w'.cell? ⟨w.heap.size, 3, none⟩ = some (.int .u64 0) ∧ w'.cell? ⟨w.heap.size, 4, none⟩ = some (.slice (some ⟨b, o, none⟩) (nl + 1) c)) (first | exact HS.out _ (Below.refl _ _) | exact HS.out _ hbxd | exact HS.out _ hz1 | exact HS.out _ hz2 | exact HS.out _ hz3 | go_keep) (first
      | (go_at_call 45; ((with_reducible refine (HKID.out _ hbxd).mono ?_)); rintro e w1 ⟨rfl, hb1⟩; have hz1 : Below w0.heap.size w0 w1 := hbxd.trans (hb1.mono hbxd.size))
      | (go_at_call 35; ((with_reducible refine (HC0.out _ hz1).mono ?_)); rintro e w2 ⟨r0, rfl, hr0, hb2⟩; have hz2 : Below w0.heap.size w0 w2 := hz1.trans (hb2.mono hz1.size))
      | (go_at_call 49; ((with_reducible refine (HL.out _ _ _ (by first | exact fun _ => rfl | exact fun h => absurd h (Nat.lt_irrefl _)) hz2).mono ?_)); rintro e w3 ⟨s, a5, c5, rfl, hq, hb3⟩; have hz3 : Below w0.heap.size w0 w3 := hz2.trans (hb3.mono hz2.size))
      | fail "none")
    all_goals
      have HBL := Lib.hid (HB0.out.trans (hz3.mono HB0.out.size))
      have HL0 := Lib.hid (Nat.le_trans HB0.out.size hbxd.size)
      have HL2 := Lib.hid (Nat.le_trans HB0.out.size hz2.size)
      have HR0 := Lib.hid hr0
      have HQ := Lib.hid hq
      have HB1 := Lib.hid hb1
      have HB3 := Lib.hid hb3
      clear hr0 hq
      have HAL := Lib.hid ((Below.refl w3.heap.size w3).alloc (Nat.le_refl _) (.cells #[.pointer none, .slice none 0 0, .slice none 0 0, .slice none 0 0, op a0.kind r0, .slice a5 l.length c5, .slice none 0 0] 193))
      have HROWN := Lib.hid (heap_alloc_new w3 (.cells #[.pointer none, .slice none 0 0, .slice none 0 0, .slice none 0 0, op a0.kind r0, .slice a5 l.length c5, .slice none 0 0] 193))
      have HSZ := Lib.hid (alloc_size w3 (.cells #[.pointer none, .slice none 0 0, .slice none 0 0, .slice none 0 0, op a0.kind r0, .slice a5 l.length c5, .slice none 0 0] 193))
      go_wp2
      go_ret
      have HU := HQ.out.up HAL.out HL2.out
      exact ⟨w3.heap.size, rfl, .k28 a0 r0 (fun hz => ((HR0.out hz).up (HB3.out.trans (HAL.out.mono HB3.out.size)) (Nat.le_trans HL0.out HB1.out.size))) l s HU.len _ HU.row HU.kids _ ⟨HBL.out.size, by rw [HSZ.out]; exact Nat.lt_succ_self _⟩ HROWN.out, HBL.out.trans (HAL.out.mono HBL.out.size)⟩


end Go.Proofs.YtkohgndmhgcgeaaGreatDoor
