/- impl.unnode over kinds of two or three nodes. -/
import Derived.Test.YtkohgndmhgcgeaaGreatDoorUn1
import Derived.Test.YtkohgndmhgcgeaaGreatDoorUnOp
namespace Go.Proofs.YtkohgndmhgcgeaaGreatDoor
open Go Go.RowKit
set_option linter.unusedVariables false
set_option linter.unusedSimpArgs false


set_option maxHeartbeats 8000000 in
set_option maxRecDepth 100000 in
theorem un_k5 {N : Nat} (a0 : Tr) (h0 : a0.kind ≠ 0 → UnH N a0) (c0 : (a0.kind = 33 ∨ a0.kind = 0)) (a1 : Tr) (h1 : UnH N a1) (c1 : a1.kind = 34) : UnH N (.mk 5 ⟨#[]⟩ ⟨#[]⟩ 0 [a0, a1]) := by
  intro v w hv hN
  obtain ⟨k', t', m', n', ks', a, c, he, rfl⟩ := hv.form
  injection he with e1 e2 e3 e4 e5
  subst e1 e2 e3 e4 e5
  obtain ⟨b, o, rfl, hbN, hkid⟩ := hv.kidsAt (by simp)
  have hb0 := (Below.refl w.heap.size w).alloc (Nat.le_refl _) (.cells #[.int .i64 5, .string ⟨#[]⟩, .string ⟨#[]⟩, .int .u64 0, .slice (some ⟨b, o, none⟩) 2 c] 25)
  have hrow0 := heap_alloc_new w (.cells #[.int .i64 5, .string ⟨#[]⟩, .string ⟨#[]⟩, .int .u64 0, .slice (some ⟨b, o, none⟩) 2 c] 25)
  obtain ⟨w0, hw0⟩ : ∃ w0, w0 = w.alloc (.cells #[.int .i64 5, .string ⟨#[]⟩, .string ⟨#[]⟩, .int .u64 0, .slice (some ⟨b, o, none⟩) 2 c] 25) := ⟨_, rfl⟩
  rw [← hw0] at hb0 hrow0
  have hN0 : N ≤ w0.heap.size := Nat.le_trans hN hb0.size
  have hbl : b < w0.heap.size := Nat.lt_of_lt_of_le hbN hN0
  obtain ⟨x0, y0, hn0, d00, d01, d02, d03, d04⟩ := hkid w0 (Keep.of_below hb0 hN) 0 (by simp)
  simp only [List.getElem_cons_zero, List.getElem_cons_succ, Nat.zero_mul, Nat.add_zero, Nat.one_mul, Nat.reduceMul] at hn0 d00 d01 d02 d03 d04
  unfold nodeU at hn0
  obtain ⟨x1, y1, hn1, d10, d11, d12, d13, d14⟩ := hkid w0 (Keep.of_below hb0 hN) 1 (by simp)
  simp only [List.getElem_cons_zero, List.getElem_cons_succ, Nat.zero_mul, Nat.add_zero, Nat.one_mul, Nat.reduceMul] at hn1 d10 d11 d12 d13 d14
  unfold nodeU at hn1
  have HC0 : Hid (∀ W, Below w0.heap.size w0 W → Calls Tryz.prog 35 #[.agg #[.int .i64 a0.kind, .string a0.text, .string a0.more, .int .u64 a0.num, .slice x0 a0.kids.length y0]] W (OptPP a0 W)) := Lib.hid fun W hb => maybeIdentifier_any h0 c0 _ W (hn0.keep (Keep.of_below hb hN0)) (Nat.le_trans hN0 hb.size)
  have HC1 : Hid (∀ W, Below w0.heap.size w0 W → Calls Tryz.prog 36 #[.agg #[.int .i64 a1.kind, .string a1.text, .string a1.more, .int .u64 a1.num, .slice x1 a1.kids.length y1]] W (PtrP a1 W)) := Lib.hid fun W hb => nodeOf_StringLiteral h1 c1 _ W (hn1.keep (Keep.of_below hb hN0)) (Nat.le_trans hN0 hb.size)
  have HEX := Lib.hid (fun W => exactly_any 5 ⟨#[]⟩ ⟨#[]⟩ 0 (some ⟨b, o, none⟩) 2 c 2 rfl W)
  have HROW := Lib.hid hrow0
  have HB0 := Lib.hid hb0
  have HS : Hid (∀ w', Below w0.heap.size w0 w' → w'.cell? ⟨w.heap.size, 4, none⟩ = some (.slice (some ⟨b, o, none⟩) 2 c) ∧ (w'.cell? ⟨b, o, none⟩ = some (.int .i64 a0.kind) ∧ w'.cell? ⟨b, o + 1, none⟩ = some (.string a0.text) ∧ w'.cell? ⟨b, o + 2, none⟩ = some (.string a0.more) ∧ w'.cell? ⟨b, o + 3, none⟩ = some (.int .u64 a0.num) ∧ w'.cell? ⟨b, o + 4, none⟩ = some (.slice x0 a0.kids.length y0)) ∧ (w'.cell? ⟨b, o + 5, none⟩ = some (.int .i64 a1.kind) ∧ w'.cell? ⟨b, o + 5 + 1, none⟩ = some (.string a1.text) ∧ w'.cell? ⟨b, o + 5 + 2, none⟩ = some (.string a1.more) ∧ w'.cell? ⟨b, o + 5 + 3, none⟩ = some (.int .u64 a1.num) ∧ w'.cell? ⟨b, o + 5 + 4, none⟩ = some (.slice x1 a1.kids.length y1))) := Lib.hid fun w' hb => by
    have hc : ∀ r i, r < w0.heap.size → w'.cell? ⟨r, i, none⟩ = w0.cell? ⟨r, i, none⟩ := fun r i hr => hb.cell (p := ⟨r, i, none⟩) hr
    have hx := (Array.getElem?_eq_some_iff.1 HROW.out).1
    exact ⟨(hc _ _ hx).trans (by rw [Lib.cell_of_heap HROW.out]; rfl), ⟨(hc _ _ hbl).trans d00, (hc _ _ hbl).trans d01, (hc _ _ hbl).trans d02, (hc _ _ hbl).trans d03, (hc _ _ hbl).trans d04⟩, ⟨(hc _ _ hbl).trans d10, (hc _ _ hbl).trans d11, (hc _ _ hbl).trans d12, (hc _ _ hbl).trans d13, (hc _ _ hbl).trans d14⟩⟩
  have HW0 := Lib.hid hw0
  clear hv hkid hb0 hrow0 hn0 d00 d01 d02 d03 d04 h0 c0 hn1 d10 d11 d12 d13 d14 h1 c1
  unfold nodeU
  go_enter Tryz.func23, Tryz.ntmps23
  go_wp2_with fail
  ((with_reducible refine (HEX.out _).mono ?_))
  rintro e wx ⟨rfl, hbx⟩
  rw [← HW0.out] at hbx
  clear hw0 HW0
  go_upto_region 15 with fail
  have hbxd : Below w0.heap.size w0 wx.drew := hbx.drew
  go_region_held3 (fun w' => w'.cell? ⟨w.heap.size, 4, none⟩ = some (.slice (some ⟨b, o, none⟩) 2 c) ∧ (w'.cell? ⟨b, o, none⟩ = some (.int .i64 a0.kind) ∧ w'.cell? ⟨b, o + 1, none⟩ = some (.string a0.text) ∧ w'.cell? ⟨b, o + 2, none⟩ = some (.string a0.more) ∧ w'.cell? ⟨b, o + 3, none⟩ = some (.int .u64 a0.num) ∧ w'.cell? ⟨b, o + 4, none⟩ = some (.slice x0 a0.kids.length y0)) ∧ (w'.cell? ⟨b, o + 5, none⟩ = some (.int .i64 a1.kind) ∧ w'.cell? ⟨b, o + 5 + 1, none⟩ = some (.string a1.text) ∧ w'.cell? ⟨b, o + 5 + 2, none⟩ = some (.string a1.more) ∧ w'.cell? ⟨b, o + 5 + 3, none⟩ = some (.int .u64 a1.num) ∧ w'.cell? ⟨b, o + 5 + 4, none⟩ = some (.slice x1 a1.kids.length y1))) (first | exact HS.out _ hbx | exact HS.out _ hbxd | exact HS.out _ hz1 | exact HS.out _ hz2 | go_keep) (first
    | (go_at_call 35; ((with_reducible refine (HC0.out _ hbxd).mono ?_)); rintro e w1 ⟨r0, rfl, hr0, hb1⟩; have hz1 : Below w0.heap.size w0 w1 := hbxd.trans (hb1.mono hbxd.size))
    | (go_at_call 36; ((with_reducible refine (HC1.out _ hz1).mono ?_)); rintro e w2 ⟨r1, rfl, hr1, hb2⟩; have hz2 : Below w0.heap.size w0 w2 := hz1.trans (hb2.mono hz1.size))
    | fail "none")
  all_goals
    have HBL := Lib.hid (HB0.out.trans (hz2.mono HB0.out.size))
    have HL0 := Lib.hid (Nat.le_trans HB0.out.size hbxd.size)
    have HR0 := Lib.hid hr0
    have HR1 := Lib.hid hr1
    have HB1 := Lib.hid hb1
    have HB2 := Lib.hid hb2
    clear hr0 hr1
    have HAL := Lib.hid ((Below.refl w2.heap.size w2).alloc (Nat.le_refl _) (.cells #[.pointer none, .slice none 0 0, .slice none 0 0, op a0.kind r0, pp r1] 100))
    have HROWN := Lib.hid (heap_alloc_new w2 (.cells #[.pointer none, .slice none 0 0, .slice none 0 0, op a0.kind r0, pp r1] 100))
    have HSZ := Lib.hid (alloc_size w2 (.cells #[.pointer none, .slice none 0 0, .slice none 0 0, op a0.kind r0, pp r1] 100))
    go_wp2
    go_ret
    exact ⟨w2.heap.size, rfl, .k5 a0 r0 (fun hz => (HR0.out hz).up (HB2.out.trans (HAL.out.mono HB2.out.size)) HL0.out) a1 r1 (HR1.out.up HAL.out (Nat.le_trans HL0.out HB1.out.size)) _ ⟨HBL.out.size, by rw [HSZ.out]; exact Nat.lt_succ_self _⟩ HROWN.out, HBL.out.trans (HAL.out.mono HBL.out.size)⟩


set_option maxHeartbeats 8000000 in
set_option maxRecDepth 100000 in
theorem un_k10 {N : Nat} (a0 : Tr) (h0 : UnH N a0) (c0 : a0.kind = 33) (a1 : Tr) (h1 : UnH N a1) (c1 : exprB a1.kind) : UnH N (.mk 10 ⟨#[]⟩ ⟨#[]⟩ 0 [a0, a1]) := by
  intro v w hv hN
  obtain ⟨k', t', m', n', ks', a, c, he, rfl⟩ := hv.form
  injection he with e1 e2 e3 e4 e5
  subst e1 e2 e3 e4 e5
  obtain ⟨b, o, rfl, hbN, hkid⟩ := hv.kidsAt (by simp)
  have hb0 := (Below.refl w.heap.size w).alloc (Nat.le_refl _) (.cells #[.int .i64 10, .string ⟨#[]⟩, .string ⟨#[]⟩, .int .u64 0, .slice (some ⟨b, o, none⟩) 2 c] 25)
  have hrow0 := heap_alloc_new w (.cells #[.int .i64 10, .string ⟨#[]⟩, .string ⟨#[]⟩, .int .u64 0, .slice (some ⟨b, o, none⟩) 2 c] 25)
  obtain ⟨w0, hw0⟩ : ∃ w0, w0 = w.alloc (.cells #[.int .i64 10, .string ⟨#[]⟩, .string ⟨#[]⟩, .int .u64 0, .slice (some ⟨b, o, none⟩) 2 c] 25) := ⟨_, rfl⟩
  rw [← hw0] at hb0 hrow0
  have hN0 : N ≤ w0.heap.size := Nat.le_trans hN hb0.size
  have hbl : b < w0.heap.size := Nat.lt_of_lt_of_le hbN hN0
  obtain ⟨x0, y0, hn0, d00, d01, d02, d03, d04⟩ := hkid w0 (Keep.of_below hb0 hN) 0 (by simp)
  simp only [List.getElem_cons_zero, List.getElem_cons_succ, Nat.zero_mul, Nat.add_zero, Nat.one_mul, Nat.reduceMul] at hn0 d00 d01 d02 d03 d04
  unfold nodeU at hn0
  obtain ⟨x1, y1, hn1, d10, d11, d12, d13, d14⟩ := hkid w0 (Keep.of_below hb0 hN) 1 (by simp)
  simp only [List.getElem_cons_zero, List.getElem_cons_succ, Nat.zero_mul, Nat.add_zero, Nat.one_mul, Nat.reduceMul] at hn1 d10 d11 d12 d13 d14
  unfold nodeU at hn1
  have HC0 : Hid (∀ W, Below w0.heap.size w0 W → Calls Tryz.prog 34 #[.agg #[.int .i64 a0.kind, .string a0.text, .string a0.more, .int .u64 a0.num, .slice x0 a0.kids.length y0]] W (PtrP a0 W)) := Lib.hid fun W hb => nodeOf_Identifier h0 c0 _ W (hn0.keep (Keep.of_below hb hN0)) (Nat.le_trans hN0 hb.size)
  have HC1 : Hid (∀ W, Below w0.heap.size w0 W → Calls Tryz.prog 37 #[.agg #[.int .i64 a1.kind, .string a1.text, .string a1.more, .int .u64 a1.num, .slice x1 a1.kids.length y1]] W (UnP a1 W)) := Lib.hid fun W hb => maybeExpr_some h1 c1 _ W (hn1.keep (Keep.of_below hb hN0)) (Nat.le_trans hN0 hb.size)
  have HEX := Lib.hid (fun W => exactly_any 10 ⟨#[]⟩ ⟨#[]⟩ 0 (some ⟨b, o, none⟩) 2 c 2 rfl W)
  have HROW := Lib.hid hrow0
  have HB0 := Lib.hid hb0
  have HS : Hid (∀ w', Below w0.heap.size w0 w' → w'.cell? ⟨w.heap.size, 4, none⟩ = some (.slice (some ⟨b, o, none⟩) 2 c) ∧ (w'.cell? ⟨b, o, none⟩ = some (.int .i64 a0.kind) ∧ w'.cell? ⟨b, o + 1, none⟩ = some (.string a0.text) ∧ w'.cell? ⟨b, o + 2, none⟩ = some (.string a0.more) ∧ w'.cell? ⟨b, o + 3, none⟩ = some (.int .u64 a0.num) ∧ w'.cell? ⟨b, o + 4, none⟩ = some (.slice x0 a0.kids.length y0)) ∧ (w'.cell? ⟨b, o + 5, none⟩ = some (.int .i64 a1.kind) ∧ w'.cell? ⟨b, o + 5 + 1, none⟩ = some (.string a1.text) ∧ w'.cell? ⟨b, o + 5 + 2, none⟩ = some (.string a1.more) ∧ w'.cell? ⟨b, o + 5 + 3, none⟩ = some (.int .u64 a1.num) ∧ w'.cell? ⟨b, o + 5 + 4, none⟩ = some (.slice x1 a1.kids.length y1))) := Lib.hid fun w' hb => by
    have hc : ∀ r i, r < w0.heap.size → w'.cell? ⟨r, i, none⟩ = w0.cell? ⟨r, i, none⟩ := fun r i hr => hb.cell (p := ⟨r, i, none⟩) hr
    have hx := (Array.getElem?_eq_some_iff.1 HROW.out).1
    exact ⟨(hc _ _ hx).trans (by rw [Lib.cell_of_heap HROW.out]; rfl), ⟨(hc _ _ hbl).trans d00, (hc _ _ hbl).trans d01, (hc _ _ hbl).trans d02, (hc _ _ hbl).trans d03, (hc _ _ hbl).trans d04⟩, ⟨(hc _ _ hbl).trans d10, (hc _ _ hbl).trans d11, (hc _ _ hbl).trans d12, (hc _ _ hbl).trans d13, (hc _ _ hbl).trans d14⟩⟩
  have HW0 := Lib.hid hw0
  clear hv hkid hb0 hrow0 hn0 d00 d01 d02 d03 d04 h0 c0 hn1 d10 d11 d12 d13 d14 h1 c1
  unfold nodeU
  go_enter Tryz.func23, Tryz.ntmps23
  go_wp2_with fail
  ((with_reducible refine (HEX.out _).mono ?_))
  rintro e wx ⟨rfl, hbx⟩
  rw [← HW0.out] at hbx
  clear hw0 HW0
  go_upto_region 28 with fail
  have hbxd : Below w0.heap.size w0 wx.drew := hbx.drew
  go_region_held3 (fun w' => w'.cell? ⟨w.heap.size, 4, none⟩ = some (.slice (some ⟨b, o, none⟩) 2 c) ∧ (w'.cell? ⟨b, o, none⟩ = some (.int .i64 a0.kind) ∧ w'.cell? ⟨b, o + 1, none⟩ = some (.string a0.text) ∧ w'.cell? ⟨b, o + 2, none⟩ = some (.string a0.more) ∧ w'.cell? ⟨b, o + 3, none⟩ = some (.int .u64 a0.num) ∧ w'.cell? ⟨b, o + 4, none⟩ = some (.slice x0 a0.kids.length y0)) ∧ (w'.cell? ⟨b, o + 5, none⟩ = some (.int .i64 a1.kind) ∧ w'.cell? ⟨b, o + 5 + 1, none⟩ = some (.string a1.text) ∧ w'.cell? ⟨b, o + 5 + 2, none⟩ = some (.string a1.more) ∧ w'.cell? ⟨b, o + 5 + 3, none⟩ = some (.int .u64 a1.num) ∧ w'.cell? ⟨b, o + 5 + 4, none⟩ = some (.slice x1 a1.kids.length y1))) (first | exact HS.out _ hbx | exact HS.out _ hbxd | exact HS.out _ hz1 | exact HS.out _ hz2 | go_keep) (first
    | (go_at_call 34; ((with_reducible refine (HC0.out _ hbxd).mono ?_)); rintro e w1 ⟨r0, rfl, hr0, hb1⟩; have hz1 : Below w0.heap.size w0 w1 := hbxd.trans (hb1.mono hbxd.size))
    | (go_at_call 37; ((with_reducible refine (HC1.out _ hz1).mono ?_)); rintro e w2 ⟨r1, rfl, hr1, hb2⟩; have hz2 : Below w0.heap.size w0 w2 := hz1.trans (hb2.mono hz1.size))
    | fail "none")
  all_goals
    have HBL := Lib.hid (HB0.out.trans (hz2.mono HB0.out.size))
    have HL0 := Lib.hid (Nat.le_trans HB0.out.size hbxd.size)
    have HR0 := Lib.hid hr0
    have HR1 := Lib.hid hr1
    have HB1 := Lib.hid hb1
    have HB2 := Lib.hid hb2
    clear hr0 hr1
    have HAL := Lib.hid ((Below.refl w2.heap.size w2).alloc (Nat.le_refl _) (.cells #[.pointer none, .slice none 0 0, .slice none 0 0, pp r0, kv a1.kind r1] 70))
    have HROWN := Lib.hid (heap_alloc_new w2 (.cells #[.pointer none, .slice none 0 0, .slice none 0 0, pp r0, kv a1.kind r1] 70))
    have HSZ := Lib.hid (alloc_size w2 (.cells #[.pointer none, .slice none 0 0, .slice none 0 0, pp r0, kv a1.kind r1] 70))
    go_wp2
    go_ret
    exact ⟨w2.heap.size, rfl, .k10 a0 r0 (HR0.out.up (HB2.out.trans (HAL.out.mono HB2.out.size)) HL0.out) a1 r1 (HR1.out.up HAL.out (Nat.le_trans HL0.out HB1.out.size)) _ ⟨HBL.out.size, by rw [HSZ.out]; exact Nat.lt_succ_self _⟩ HROWN.out, HBL.out.trans (HAL.out.mono HBL.out.size)⟩


set_option maxHeartbeats 8000000 in
set_option maxRecDepth 100000 in
theorem un_k11 {N : Nat} (a0 : Tr) (h0 : UnH N a0) (c0 : a0.kind = 17) (a1 : Tr) (h1 : UnH N a1) (c1 : exprB a1.kind) : UnH N (.mk 11 ⟨#[]⟩ ⟨#[]⟩ 0 [a0, a1]) := by
  intro v w hv hN
  obtain ⟨k', t', m', n', ks', a, c, he, rfl⟩ := hv.form
  injection he with e1 e2 e3 e4 e5
  subst e1 e2 e3 e4 e5
  obtain ⟨b, o, rfl, hbN, hkid⟩ := hv.kidsAt (by simp)
  have hb0 := (Below.refl w.heap.size w).alloc (Nat.le_refl _) (.cells #[.int .i64 11, .string ⟨#[]⟩, .string ⟨#[]⟩, .int .u64 0, .slice (some ⟨b, o, none⟩) 2 c] 25)
  have hrow0 := heap_alloc_new w (.cells #[.int .i64 11, .string ⟨#[]⟩, .string ⟨#[]⟩, .int .u64 0, .slice (some ⟨b, o, none⟩) 2 c] 25)
  obtain ⟨w0, hw0⟩ : ∃ w0, w0 = w.alloc (.cells #[.int .i64 11, .string ⟨#[]⟩, .string ⟨#[]⟩, .int .u64 0, .slice (some ⟨b, o, none⟩) 2 c] 25) := ⟨_, rfl⟩
  rw [← hw0] at hb0 hrow0
  have hN0 : N ≤ w0.heap.size := Nat.le_trans hN hb0.size
  have hbl : b < w0.heap.size := Nat.lt_of_lt_of_le hbN hN0
  obtain ⟨x0, y0, hn0, d00, d01, d02, d03, d04⟩ := hkid w0 (Keep.of_below hb0 hN) 0 (by simp)
  simp only [List.getElem_cons_zero, List.getElem_cons_succ, Nat.zero_mul, Nat.add_zero, Nat.one_mul, Nat.reduceMul] at hn0 d00 d01 d02 d03 d04
  unfold nodeU at hn0
  obtain ⟨x1, y1, hn1, d10, d11, d12, d13, d14⟩ := hkid w0 (Keep.of_below hb0 hN) 1 (by simp)
  simp only [List.getElem_cons_zero, List.getElem_cons_succ, Nat.zero_mul, Nat.add_zero, Nat.one_mul, Nat.reduceMul] at hn1 d10 d11 d12 d13 d14
  unfold nodeU at hn1
  have HC0 : Hid (∀ W, Below w0.heap.size w0 W → Calls Tryz.prog 38 #[.agg #[.int .i64 a0.kind, .string a0.text, .string a0.more, .int .u64 a0.num, .slice x0 a0.kids.length y0]] W (PtrP a0 W)) := Lib.hid fun W hb => nodeOf_MemberExpression h0 c0 _ W (hn0.keep (Keep.of_below hb hN0)) (Nat.le_trans hN0 hb.size)
  have HC1 : Hid (∀ W, Below w0.heap.size w0 W → Calls Tryz.prog 37 #[.agg #[.int .i64 a1.kind, .string a1.text, .string a1.more, .int .u64 a1.num, .slice x1 a1.kids.length y1]] W (UnP a1 W)) := Lib.hid fun W hb => maybeExpr_some h1 c1 _ W (hn1.keep (Keep.of_below hb hN0)) (Nat.le_trans hN0 hb.size)
  have HEX := Lib.hid (fun W => exactly_any 11 ⟨#[]⟩ ⟨#[]⟩ 0 (some ⟨b, o, none⟩) 2 c 2 rfl W)
  have HROW := Lib.hid hrow0
  have HB0 := Lib.hid hb0
  have HS : Hid (∀ w', Below w0.heap.size w0 w' → w'.cell? ⟨w.heap.size, 4, none⟩ = some (.slice (some ⟨b, o, none⟩) 2 c) ∧ (w'.cell? ⟨b, o, none⟩ = some (.int .i64 a0.kind) ∧ w'.cell? ⟨b, o + 1, none⟩ = some (.string a0.text) ∧ w'.cell? ⟨b, o + 2, none⟩ = some (.string a0.more) ∧ w'.cell? ⟨b, o + 3, none⟩ = some (.int .u64 a0.num) ∧ w'.cell? ⟨b, o + 4, none⟩ = some (.slice x0 a0.kids.length y0)) ∧ (w'.cell? ⟨b, o + 5, none⟩ = some (.int .i64 a1.kind) ∧ w'.cell? ⟨b, o + 5 + 1, none⟩ = some (.string a1.text) ∧ w'.cell? ⟨b, o + 5 + 2, none⟩ = some (.string a1.more) ∧ w'.cell? ⟨b, o + 5 + 3, none⟩ = some (.int .u64 a1.num) ∧ w'.cell? ⟨b, o + 5 + 4, none⟩ = some (.slice x1 a1.kids.length y1))) := Lib.hid fun w' hb => by
    have hc : ∀ r i, r < w0.heap.size → w'.cell? ⟨r, i, none⟩ = w0.cell? ⟨r, i, none⟩ := fun r i hr => hb.cell (p := ⟨r, i, none⟩) hr
    have hx := (Array.getElem?_eq_some_iff.1 HROW.out).1
    exact ⟨(hc _ _ hx).trans (by rw [Lib.cell_of_heap HROW.out]; rfl), ⟨(hc _ _ hbl).trans d00, (hc _ _ hbl).trans d01, (hc _ _ hbl).trans d02, (hc _ _ hbl).trans d03, (hc _ _ hbl).trans d04⟩, ⟨(hc _ _ hbl).trans d10, (hc _ _ hbl).trans d11, (hc _ _ hbl).trans d12, (hc _ _ hbl).trans d13, (hc _ _ hbl).trans d14⟩⟩
  have HW0 := Lib.hid hw0
  clear hv hkid hb0 hrow0 hn0 d00 d01 d02 d03 d04 h0 c0 hn1 d10 d11 d12 d13 d14 h1 c1
  unfold nodeU
  go_enter Tryz.func23, Tryz.ntmps23
  go_wp2_with fail
  ((with_reducible refine (HEX.out _).mono ?_))
  rintro e wx ⟨rfl, hbx⟩
  rw [← HW0.out] at hbx
  clear hw0 HW0
  go_upto_region 31 with fail
  have hbxd : Below w0.heap.size w0 wx.drew := hbx.drew
  go_region_held3 (fun w' => w'.cell? ⟨w.heap.size, 4, none⟩ = some (.slice (some ⟨b, o, none⟩) 2 c) ∧ (w'.cell? ⟨b, o, none⟩ = some (.int .i64 a0.kind) ∧ w'.cell? ⟨b, o + 1, none⟩ = some (.string a0.text) ∧ w'.cell? ⟨b, o + 2, none⟩ = some (.string a0.more) ∧ w'.cell? ⟨b, o + 3, none⟩ = some (.int .u64 a0.num) ∧ w'.cell? ⟨b, o + 4, none⟩ = some (.slice x0 a0.kids.length y0)) ∧ (w'.cell? ⟨b, o + 5, none⟩ = some (.int .i64 a1.kind) ∧ w'.cell? ⟨b, o + 5 + 1, none⟩ = some (.string a1.text) ∧ w'.cell? ⟨b, o + 5 + 2, none⟩ = some (.string a1.more) ∧ w'.cell? ⟨b, o + 5 + 3, none⟩ = some (.int .u64 a1.num) ∧ w'.cell? ⟨b, o + 5 + 4, none⟩ = some (.slice x1 a1.kids.length y1))) (first | exact HS.out _ hbx | exact HS.out _ hbxd | exact HS.out _ hz1 | exact HS.out _ hz2 | go_keep) (first
    | (go_at_call 38; ((with_reducible refine (HC0.out _ hbxd).mono ?_)); rintro e w1 ⟨r0, rfl, hr0, hb1⟩; have hz1 : Below w0.heap.size w0 w1 := hbxd.trans (hb1.mono hbxd.size))
    | (go_at_call 37; ((with_reducible refine (HC1.out _ hz1).mono ?_)); rintro e w2 ⟨r1, rfl, hr1, hb2⟩; have hz2 : Below w0.heap.size w0 w2 := hz1.trans (hb2.mono hz1.size))
    | fail "none")
  all_goals
    have HBL := Lib.hid (HB0.out.trans (hz2.mono HB0.out.size))
    have HL0 := Lib.hid (Nat.le_trans HB0.out.size hbxd.size)
    have HR0 := Lib.hid hr0
    have HR1 := Lib.hid hr1
    have HB1 := Lib.hid hb1
    have HB2 := Lib.hid hb2
    clear hr0 hr1
    have HAL := Lib.hid ((Below.refl w2.heap.size w2).alloc (Nat.le_refl _) (.cells #[.pointer none, .slice none 0 0, .slice none 0 0, pp r0, kv a1.kind r1] 118))
    have HROWN := Lib.hid (heap_alloc_new w2 (.cells #[.pointer none, .slice none 0 0, .slice none 0 0, pp r0, kv a1.kind r1] 118))
    have HSZ := Lib.hid (alloc_size w2 (.cells #[.pointer none, .slice none 0 0, .slice none 0 0, pp r0, kv a1.kind r1] 118))
    go_wp2
    go_ret
    exact ⟨w2.heap.size, rfl, .k11 a0 r0 (HR0.out.up (HB2.out.trans (HAL.out.mono HB2.out.size)) HL0.out) a1 r1 (HR1.out.up HAL.out (Nat.le_trans HL0.out HB1.out.size)) _ ⟨HBL.out.size, by rw [HSZ.out]; exact Nat.lt_succ_self _⟩ HROWN.out, HBL.out.trans (HAL.out.mono HBL.out.size)⟩


set_option maxHeartbeats 8000000 in
set_option maxRecDepth 100000 in
theorem un_k15 {N : Nat} (a0 : Tr) (h0 : UnH N a0) (c0 : a0.kind = 33) (a1 : Tr) (h1 : a1.kind ≠ 0 → UnH N a1) (c1 : (a1.kind = 34 ∨ a1.kind = 0)) (a2 : Tr) (h2 : UnH N a2) (c2 : a2.kind = 6) : UnH N (.mk 15 ⟨#[]⟩ ⟨#[]⟩ 0 [a0, a1, a2]) := by
  intro v w hv hN
  obtain ⟨k', t', m', n', ks', a, c, he, rfl⟩ := hv.form
  injection he with e1 e2 e3 e4 e5
  subst e1 e2 e3 e4 e5
  obtain ⟨b, o, rfl, hbN, hkid⟩ := hv.kidsAt (by simp)
  have hb0 := (Below.refl w.heap.size w).alloc (Nat.le_refl _) (.cells #[.int .i64 15, .string ⟨#[]⟩, .string ⟨#[]⟩, .int .u64 0, .slice (some ⟨b, o, none⟩) 3 c] 25)
  have hrow0 := heap_alloc_new w (.cells #[.int .i64 15, .string ⟨#[]⟩, .string ⟨#[]⟩, .int .u64 0, .slice (some ⟨b, o, none⟩) 3 c] 25)
  obtain ⟨w0, hw0⟩ : ∃ w0, w0 = w.alloc (.cells #[.int .i64 15, .string ⟨#[]⟩, .string ⟨#[]⟩, .int .u64 0, .slice (some ⟨b, o, none⟩) 3 c] 25) := ⟨_, rfl⟩
  rw [← hw0] at hb0 hrow0
  have hN0 : N ≤ w0.heap.size := Nat.le_trans hN hb0.size
  have hbl : b < w0.heap.size := Nat.lt_of_lt_of_le hbN hN0
  obtain ⟨x0, y0, hn0, d00, d01, d02, d03, d04⟩ := hkid w0 (Keep.of_below hb0 hN) 0 (by simp)
  simp only [List.getElem_cons_zero, List.getElem_cons_succ, Nat.zero_mul, Nat.add_zero, Nat.one_mul, Nat.reduceMul] at hn0 d00 d01 d02 d03 d04
  unfold nodeU at hn0
  obtain ⟨x1, y1, hn1, d10, d11, d12, d13, d14⟩ := hkid w0 (Keep.of_below hb0 hN) 1 (by simp)
  simp only [List.getElem_cons_zero, List.getElem_cons_succ, Nat.zero_mul, Nat.add_zero, Nat.one_mul, Nat.reduceMul] at hn1 d10 d11 d12 d13 d14
  unfold nodeU at hn1
  obtain ⟨x2, y2, hn2, d20, d21, d22, d23, d24⟩ := hkid w0 (Keep.of_below hb0 hN) 2 (by simp)
  simp only [List.getElem_cons_zero, List.getElem_cons_succ, Nat.zero_mul, Nat.add_zero, Nat.one_mul, Nat.reduceMul] at hn2 d20 d21 d22 d23 d24
  unfold nodeU at hn2
  have HC0 : Hid (∀ W, Below w0.heap.size w0 W → Calls Tryz.prog 34 #[.agg #[.int .i64 a0.kind, .string a0.text, .string a0.more, .int .u64 a0.num, .slice x0 a0.kids.length y0]] W (PtrP a0 W)) := Lib.hid fun W hb => nodeOf_Identifier h0 c0 _ W (hn0.keep (Keep.of_below hb hN0)) (Nat.le_trans hN0 hb.size)
  have HC1 : Hid (∀ W, Below w0.heap.size w0 W → Calls Tryz.prog 42 #[.agg #[.int .i64 a1.kind, .string a1.text, .string a1.more, .int .u64 a1.num, .slice x1 a1.kids.length y1]] W (OptPP a1 W)) := Lib.hid fun W hb => maybeString_any h1 c1 _ W (hn1.keep (Keep.of_below hb hN0)) (Nat.le_trans hN0 hb.size)
  have HC2 : Hid (∀ W, Below w0.heap.size w0 W → Calls Tryz.prog 43 #[.agg #[.int .i64 a2.kind, .string a2.text, .string a2.more, .int .u64 a2.num, .slice x2 a2.kids.length y2]] W (PtrP a2 W)) := Lib.hid fun W hb => nodeOf_Block h2 c2 _ W (hn2.keep (Keep.of_below hb hN0)) (Nat.le_trans hN0 hb.size)
  have HEX := Lib.hid (fun W => exactly_any 15 ⟨#[]⟩ ⟨#[]⟩ 0 (some ⟨b, o, none⟩) 3 c 3 rfl W)
  have HROW := Lib.hid hrow0
  have HB0 := Lib.hid hb0
  have HS : Hid (∀ w', Below w0.heap.size w0 w' → w'.cell? ⟨w.heap.size, 4, none⟩ = some (.slice (some ⟨b, o, none⟩) 3 c) ∧ (w'.cell? ⟨b, o, none⟩ = some (.int .i64 a0.kind) ∧ w'.cell? ⟨b, o + 1, none⟩ = some (.string a0.text) ∧ w'.cell? ⟨b, o + 2, none⟩ = some (.string a0.more) ∧ w'.cell? ⟨b, o + 3, none⟩ = some (.int .u64 a0.num) ∧ w'.cell? ⟨b, o + 4, none⟩ = some (.slice x0 a0.kids.length y0)) ∧ (w'.cell? ⟨b, o + 5, none⟩ = some (.int .i64 a1.kind) ∧ w'.cell? ⟨b, o + 5 + 1, none⟩ = some (.string a1.text) ∧ w'.cell? ⟨b, o + 5 + 2, none⟩ = some (.string a1.more) ∧ w'.cell? ⟨b, o + 5 + 3, none⟩ = some (.int .u64 a1.num) ∧ w'.cell? ⟨b, o + 5 + 4, none⟩ = some (.slice x1 a1.kids.length y1)) ∧ (w'.cell? ⟨b, o + 10, none⟩ = some (.int .i64 a2.kind) ∧ w'.cell? ⟨b, o + 10 + 1, none⟩ = some (.string a2.text) ∧ w'.cell? ⟨b, o + 10 + 2, none⟩ = some (.string a2.more) ∧ w'.cell? ⟨b, o + 10 + 3, none⟩ = some (.int .u64 a2.num) ∧ w'.cell? ⟨b, o + 10 + 4, none⟩ = some (.slice x2 a2.kids.length y2))) := Lib.hid fun w' hb => by
    have hc : ∀ r i, r < w0.heap.size → w'.cell? ⟨r, i, none⟩ = w0.cell? ⟨r, i, none⟩ := fun r i hr => hb.cell (p := ⟨r, i, none⟩) hr
    have hx := (Array.getElem?_eq_some_iff.1 HROW.out).1
    exact ⟨(hc _ _ hx).trans (by rw [Lib.cell_of_heap HROW.out]; rfl), ⟨(hc _ _ hbl).trans d00, (hc _ _ hbl).trans d01, (hc _ _ hbl).trans d02, (hc _ _ hbl).trans d03, (hc _ _ hbl).trans d04⟩, ⟨(hc _ _ hbl).trans d10, (hc _ _ hbl).trans d11, (hc _ _ hbl).trans d12, (hc _ _ hbl).trans d13, (hc _ _ hbl).trans d14⟩, ⟨(hc _ _ hbl).trans d20, (hc _ _ hbl).trans d21, (hc _ _ hbl).trans d22, (hc _ _ hbl).trans d23, (hc _ _ hbl).trans d24⟩⟩
  have HW0 := Lib.hid hw0
  clear hv hkid hb0 hrow0 hn0 d00 d01 d02 d03 d04 h0 c0 hn1 d10 d11 d12 d13 d14 h1 c1 hn2 d20 d21 d22 d23 d24 h2 c2
  unfold nodeU
  go_enter Tryz.func23, Tryz.ntmps23
  go_wp2_with fail
  ((with_reducible refine (HEX.out _).mono ?_))
  rintro e wx ⟨rfl, hbx⟩
  rw [← HW0.out] at hbx
  clear hw0 HW0
  go_upto_region 43 with fail
  have hbxd : Below w0.heap.size w0 wx.drew := hbx.drew
  go_region_held3 (fun w' => w'.cell? ⟨w.heap.size, 4, none⟩ = some (.slice (some ⟨b, o, none⟩) 3 c) ∧ (w'.cell? ⟨b, o, none⟩ = some (.int .i64 a0.kind) ∧ w'.cell? ⟨b, o + 1, none⟩ = some (.string a0.text) ∧ w'.cell? ⟨b, o + 2, none⟩ = some (.string a0.more) ∧ w'.cell? ⟨b, o + 3, none⟩ = some (.int .u64 a0.num) ∧ w'.cell? ⟨b, o + 4, none⟩ = some (.slice x0 a0.kids.length y0)) ∧ (w'.cell? ⟨b, o + 5, none⟩ = some (.int .i64 a1.kind) ∧ w'.cell? ⟨b, o + 5 + 1, none⟩ = some (.string a1.text) ∧ w'.cell? ⟨b, o + 5 + 2, none⟩ = some (.string a1.more) ∧ w'.cell? ⟨b, o + 5 + 3, none⟩ = some (.int .u64 a1.num) ∧ w'.cell? ⟨b, o + 5 + 4, none⟩ = some (.slice x1 a1.kids.length y1)) ∧ (w'.cell? ⟨b, o + 10, none⟩ = some (.int .i64 a2.kind) ∧ w'.cell? ⟨b, o + 10 + 1, none⟩ = some (.string a2.text) ∧ w'.cell? ⟨b, o + 10 + 2, none⟩ = some (.string a2.more) ∧ w'.cell? ⟨b, o + 10 + 3, none⟩ = some (.int .u64 a2.num) ∧ w'.cell? ⟨b, o + 10 + 4, none⟩ = some (.slice x2 a2.kids.length y2))) (first | exact HS.out _ hbx | exact HS.out _ hbxd | exact HS.out _ hz1 | exact HS.out _ hz2 | exact HS.out _ hz3 | go_keep) (first
    | (go_at_call 34; ((with_reducible refine (HC0.out _ hbxd).mono ?_)); rintro e w1 ⟨r0, rfl, hr0, hb1⟩; have hz1 : Below w0.heap.size w0 w1 := hbxd.trans (hb1.mono hbxd.size))
    | (go_at_call 42; ((with_reducible refine (HC1.out _ hz1).mono ?_)); rintro e w2 ⟨r1, rfl, hr1, hb2⟩; have hz2 : Below w0.heap.size w0 w2 := hz1.trans (hb2.mono hz1.size))
    | (go_at_call 43; ((with_reducible refine (HC2.out _ hz2).mono ?_)); rintro e w3 ⟨r2, rfl, hr2, hb3⟩; have hz3 : Below w0.heap.size w0 w3 := hz2.trans (hb3.mono hz2.size))
    | fail "none")
  all_goals
    have HBL := Lib.hid (HB0.out.trans (hz3.mono HB0.out.size))
    have HL0 := Lib.hid (Nat.le_trans HB0.out.size hbxd.size)
    have HR0 := Lib.hid hr0
    have HR1 := Lib.hid hr1
    have HR2 := Lib.hid hr2
    have HB1 := Lib.hid hb1
    have HB2 := Lib.hid hb2
    have HB3 := Lib.hid hb3
    clear hr0 hr1 hr2
    have HAL := Lib.hid ((Below.refl w3.heap.size w3).alloc (Nat.le_refl _) (.cells #[.pointer none, .slice none 0 0, .slice none 0 0, pp r0, op a1.kind r1, pp r2] 137))
    have HROWN := Lib.hid (heap_alloc_new w3 (.cells #[.pointer none, .slice none 0 0, .slice none 0 0, pp r0, op a1.kind r1, pp r2] 137))
    have HSZ := Lib.hid (alloc_size w3 (.cells #[.pointer none, .slice none 0 0, .slice none 0 0, pp r0, op a1.kind r1, pp r2] 137))
    go_wp2
    go_ret
    exact ⟨w3.heap.size, rfl, .k15 a0 r0 (HR0.out.up (HB2.out.trans ((HB3.out.trans (HAL.out.mono HB3.out.size)).mono HB2.out.size)) HL0.out) a1 r1 (fun hz => (HR1.out hz).up (HB3.out.trans (HAL.out.mono HB3.out.size)) (Nat.le_trans HL0.out HB1.out.size)) a2 r2 (HR2.out.up HAL.out (Nat.le_trans (Nat.le_trans HL0.out HB1.out.size) HB2.out.size)) _ ⟨HBL.out.size, by rw [HSZ.out]; exact Nat.lt_succ_self _⟩ HROWN.out, HBL.out.trans (HAL.out.mono HBL.out.size)⟩


set_option maxHeartbeats 8000000 in
set_option maxRecDepth 100000 in
theorem un_k17 {N : Nat} (a0 : Tr) (h0 : UnH N a0) (c0 : exprB a0.kind) (a1 : Tr) (h1 : UnH N a1) (c1 : (a1.kind = 33 ∨ a1.kind = 34)) : UnH N (.mk 17 ⟨#[]⟩ ⟨#[]⟩ 0 [a0, a1]) := by
  intro v w hv hN
  obtain ⟨k', t', m', n', ks', a, c, he, rfl⟩ := hv.form
  injection he with e1 e2 e3 e4 e5
  subst e1 e2 e3 e4 e5
  obtain ⟨b, o, rfl, hbN, hkid⟩ := hv.kidsAt (by simp)
  have hb0 := (Below.refl w.heap.size w).alloc (Nat.le_refl _) (.cells #[.int .i64 17, .string ⟨#[]⟩, .string ⟨#[]⟩, .int .u64 0, .slice (some ⟨b, o, none⟩) 2 c] 25)
  have hrow0 := heap_alloc_new w (.cells #[.int .i64 17, .string ⟨#[]⟩, .string ⟨#[]⟩, .int .u64 0, .slice (some ⟨b, o, none⟩) 2 c] 25)
  obtain ⟨w0, hw0⟩ : ∃ w0, w0 = w.alloc (.cells #[.int .i64 17, .string ⟨#[]⟩, .string ⟨#[]⟩, .int .u64 0, .slice (some ⟨b, o, none⟩) 2 c] 25) := ⟨_, rfl⟩
  rw [← hw0] at hb0 hrow0
  have hN0 : N ≤ w0.heap.size := Nat.le_trans hN hb0.size
  have hbl : b < w0.heap.size := Nat.lt_of_lt_of_le hbN hN0
  obtain ⟨x0, y0, hn0, d00, d01, d02, d03, d04⟩ := hkid w0 (Keep.of_below hb0 hN) 0 (by simp)
  simp only [List.getElem_cons_zero, List.getElem_cons_succ, Nat.zero_mul, Nat.add_zero, Nat.one_mul, Nat.reduceMul] at hn0 d00 d01 d02 d03 d04
  unfold nodeU at hn0
  obtain ⟨x1, y1, hn1, d10, d11, d12, d13, d14⟩ := hkid w0 (Keep.of_below hb0 hN) 1 (by simp)
  simp only [List.getElem_cons_zero, List.getElem_cons_succ, Nat.zero_mul, Nat.add_zero, Nat.one_mul, Nat.reduceMul] at hn1 d10 d11 d12 d13 d14
  unfold nodeU at hn1
  have HC0 : Hid (∀ W, Below w0.heap.size w0 W → Calls Tryz.prog 44 #[.agg #[.int .i64 a0.kind, .string a0.text, .string a0.more, .int .u64 a0.num, .slice x0 a0.kids.length y0]] W (UnP a0 W)) := Lib.hid fun W hb => nodeOf_Expression h0 c0 _ W (hn0.keep (Keep.of_below hb hN0)) (Nat.le_trans hN0 hb.size)
  have HC1 : Hid (∀ W, Below w0.heap.size w0 W → Calls Tryz.prog 47 #[.agg #[.int .i64 a1.kind, .string a1.text, .string a1.more, .int .u64 a1.num, .slice x1 a1.kids.length y1]] W (UnP a1 W)) := Lib.hid fun W hb => nodeOf_PropertyKey h1 c1 _ W (hn1.keep (Keep.of_below hb hN0)) (Nat.le_trans hN0 hb.size)
  have HEX := Lib.hid (fun W => exactly_any 17 ⟨#[]⟩ ⟨#[]⟩ 0 (some ⟨b, o, none⟩) 2 c 2 rfl W)
  have HROW := Lib.hid hrow0
  have HB0 := Lib.hid hb0
  have HS : Hid (∀ w', Below w0.heap.size w0 w' → w'.cell? ⟨w.heap.size, 4, none⟩ = some (.slice (some ⟨b, o, none⟩) 2 c) ∧ (w'.cell? ⟨b, o, none⟩ = some (.int .i64 a0.kind) ∧ w'.cell? ⟨b, o + 1, none⟩ = some (.string a0.text) ∧ w'.cell? ⟨b, o + 2, none⟩ = some (.string a0.more) ∧ w'.cell? ⟨b, o + 3, none⟩ = some (.int .u64 a0.num) ∧ w'.cell? ⟨b, o + 4, none⟩ = some (.slice x0 a0.kids.length y0)) ∧ (w'.cell? ⟨b, o + 5, none⟩ = some (.int .i64 a1.kind) ∧ w'.cell? ⟨b, o + 5 + 1, none⟩ = some (.string a1.text) ∧ w'.cell? ⟨b, o + 5 + 2, none⟩ = some (.string a1.more) ∧ w'.cell? ⟨b, o + 5 + 3, none⟩ = some (.int .u64 a1.num) ∧ w'.cell? ⟨b, o + 5 + 4, none⟩ = some (.slice x1 a1.kids.length y1))) := Lib.hid fun w' hb => by
    have hc : ∀ r i, r < w0.heap.size → w'.cell? ⟨r, i, none⟩ = w0.cell? ⟨r, i, none⟩ := fun r i hr => hb.cell (p := ⟨r, i, none⟩) hr
    have hx := (Array.getElem?_eq_some_iff.1 HROW.out).1
    exact ⟨(hc _ _ hx).trans (by rw [Lib.cell_of_heap HROW.out]; rfl), ⟨(hc _ _ hbl).trans d00, (hc _ _ hbl).trans d01, (hc _ _ hbl).trans d02, (hc _ _ hbl).trans d03, (hc _ _ hbl).trans d04⟩, ⟨(hc _ _ hbl).trans d10, (hc _ _ hbl).trans d11, (hc _ _ hbl).trans d12, (hc _ _ hbl).trans d13, (hc _ _ hbl).trans d14⟩⟩
  have HW0 := Lib.hid hw0
  clear hv hkid hb0 hrow0 hn0 d00 d01 d02 d03 d04 h0 c0 hn1 d10 d11 d12 d13 d14 h1 c1
  unfold nodeU
  go_enter Tryz.func23, Tryz.ntmps23
  go_wp2_with fail
  ((with_reducible refine (HEX.out _).mono ?_))
  rintro e wx ⟨rfl, hbx⟩
  rw [← HW0.out] at hbx
  clear hw0 HW0
  go_upto_region 48 with fail
  have hbxd : Below w0.heap.size w0 wx.drew := hbx.drew
  go_region_held3 (fun w' => w'.cell? ⟨w.heap.size, 4, none⟩ = some (.slice (some ⟨b, o, none⟩) 2 c) ∧ (w'.cell? ⟨b, o, none⟩ = some (.int .i64 a0.kind) ∧ w'.cell? ⟨b, o + 1, none⟩ = some (.string a0.text) ∧ w'.cell? ⟨b, o + 2, none⟩ = some (.string a0.more) ∧ w'.cell? ⟨b, o + 3, none⟩ = some (.int .u64 a0.num) ∧ w'.cell? ⟨b, o + 4, none⟩ = some (.slice x0 a0.kids.length y0)) ∧ (w'.cell? ⟨b, o + 5, none⟩ = some (.int .i64 a1.kind) ∧ w'.cell? ⟨b, o + 5 + 1, none⟩ = some (.string a1.text) ∧ w'.cell? ⟨b, o + 5 + 2, none⟩ = some (.string a1.more) ∧ w'.cell? ⟨b, o + 5 + 3, none⟩ = some (.int .u64 a1.num) ∧ w'.cell? ⟨b, o + 5 + 4, none⟩ = some (.slice x1 a1.kids.length y1))) (first | exact HS.out _ hbx | exact HS.out _ hbxd | exact HS.out _ hz1 | exact HS.out _ hz2 | go_keep) (first
    | (go_at_call 44; ((with_reducible refine (HC0.out _ hbxd).mono ?_)); rintro e w1 ⟨r0, rfl, hr0, hb1⟩; have hz1 : Below w0.heap.size w0 w1 := hbxd.trans (hb1.mono hbxd.size))
    | (go_at_call 47; ((with_reducible refine (HC1.out _ hz1).mono ?_)); rintro e w2 ⟨r1, rfl, hr1, hb2⟩; have hz2 : Below w0.heap.size w0 w2 := hz1.trans (hb2.mono hz1.size))
    | fail "none")
  all_goals
    have HBL := Lib.hid (HB0.out.trans (hz2.mono HB0.out.size))
    have HL0 := Lib.hid (Nat.le_trans HB0.out.size hbxd.size)
    have HR0 := Lib.hid hr0
    have HR1 := Lib.hid hr1
    have HB1 := Lib.hid hb1
    have HB2 := Lib.hid hb2
    clear hr0 hr1
    have HAL := Lib.hid ((Below.refl w2.heap.size w2).alloc (Nat.le_refl _) (.cells #[.pointer none, .slice none 0 0, .slice none 0 0, kv a0.kind r0, .slice none 0 0, kv a1.kind r1, .slice none 0 0] 148))
    have HROWN := Lib.hid (heap_alloc_new w2 (.cells #[.pointer none, .slice none 0 0, .slice none 0 0, kv a0.kind r0, .slice none 0 0, kv a1.kind r1, .slice none 0 0] 148))
    have HSZ := Lib.hid (alloc_size w2 (.cells #[.pointer none, .slice none 0 0, .slice none 0 0, kv a0.kind r0, .slice none 0 0, kv a1.kind r1, .slice none 0 0] 148))
    go_wp2
    go_ret
    exact ⟨w2.heap.size, rfl, .k17 a0 r0 (HR0.out.up (HB2.out.trans (HAL.out.mono HB2.out.size)) HL0.out) a1 r1 (HR1.out.up HAL.out (Nat.le_trans HL0.out HB1.out.size)) _ ⟨HBL.out.size, by rw [HSZ.out]; exact Nat.lt_succ_self _⟩ HROWN.out, HBL.out.trans (HAL.out.mono HBL.out.size)⟩


set_option maxHeartbeats 8000000 in
set_option maxRecDepth 100000 in
theorem un_k18 {N : Nat} (a0 : Tr) (h0 : UnH N a0) (c0 : exprB a0.kind) (a1 : Tr) (h1 : UnH N a1) (c1 : exprB a1.kind) : UnH N (.mk 18 ⟨#[]⟩ ⟨#[]⟩ 0 [a0, a1]) := by
  intro v w hv hN
  obtain ⟨k', t', m', n', ks', a, c, he, rfl⟩ := hv.form
  injection he with e1 e2 e3 e4 e5
  subst e1 e2 e3 e4 e5
  obtain ⟨b, o, rfl, hbN, hkid⟩ := hv.kidsAt (by simp)
  have hb0 := (Below.refl w.heap.size w).alloc (Nat.le_refl _) (.cells #[.int .i64 18, .string ⟨#[]⟩, .string ⟨#[]⟩, .int .u64 0, .slice (some ⟨b, o, none⟩) 2 c] 25)
  have hrow0 := heap_alloc_new w (.cells #[.int .i64 18, .string ⟨#[]⟩, .string ⟨#[]⟩, .int .u64 0, .slice (some ⟨b, o, none⟩) 2 c] 25)
  obtain ⟨w0, hw0⟩ : ∃ w0, w0 = w.alloc (.cells #[.int .i64 18, .string ⟨#[]⟩, .string ⟨#[]⟩, .int .u64 0, .slice (some ⟨b, o, none⟩) 2 c] 25) := ⟨_, rfl⟩
  rw [← hw0] at hb0 hrow0
  have hN0 : N ≤ w0.heap.size := Nat.le_trans hN hb0.size
  have hbl : b < w0.heap.size := Nat.lt_of_lt_of_le hbN hN0
  obtain ⟨x0, y0, hn0, d00, d01, d02, d03, d04⟩ := hkid w0 (Keep.of_below hb0 hN) 0 (by simp)
  simp only [List.getElem_cons_zero, List.getElem_cons_succ, Nat.zero_mul, Nat.add_zero, Nat.one_mul, Nat.reduceMul] at hn0 d00 d01 d02 d03 d04
  unfold nodeU at hn0
  obtain ⟨x1, y1, hn1, d10, d11, d12, d13, d14⟩ := hkid w0 (Keep.of_below hb0 hN) 1 (by simp)
  simp only [List.getElem_cons_zero, List.getElem_cons_succ, Nat.zero_mul, Nat.add_zero, Nat.one_mul, Nat.reduceMul] at hn1 d10 d11 d12 d13 d14
  unfold nodeU at hn1
  have HC0 : Hid (∀ W, Below w0.heap.size w0 W → Calls Tryz.prog 44 #[.agg #[.int .i64 a0.kind, .string a0.text, .string a0.more, .int .u64 a0.num, .slice x0 a0.kids.length y0]] W (UnP a0 W)) := Lib.hid fun W hb => nodeOf_Expression h0 c0 _ W (hn0.keep (Keep.of_below hb hN0)) (Nat.le_trans hN0 hb.size)
  have HC1 : Hid (∀ W, Below w0.heap.size w0 W → Calls Tryz.prog 44 #[.agg #[.int .i64 a1.kind, .string a1.text, .string a1.more, .int .u64 a1.num, .slice x1 a1.kids.length y1]] W (UnP a1 W)) := Lib.hid fun W hb => nodeOf_Expression h1 c1 _ W (hn1.keep (Keep.of_below hb hN0)) (Nat.le_trans hN0 hb.size)
  have HEX := Lib.hid (fun W => exactly_any 18 ⟨#[]⟩ ⟨#[]⟩ 0 (some ⟨b, o, none⟩) 2 c 2 rfl W)
  have HROW := Lib.hid hrow0
  have HB0 := Lib.hid hb0
  have HS : Hid (∀ w', Below w0.heap.size w0 w' → w'.cell? ⟨w.heap.size, 4, none⟩ = some (.slice (some ⟨b, o, none⟩) 2 c) ∧ (w'.cell? ⟨b, o, none⟩ = some (.int .i64 a0.kind) ∧ w'.cell? ⟨b, o + 1, none⟩ = some (.string a0.text) ∧ w'.cell? ⟨b, o + 2, none⟩ = some (.string a0.more) ∧ w'.cell? ⟨b, o + 3, none⟩ = some (.int .u64 a0.num) ∧ w'.cell? ⟨b, o + 4, none⟩ = some (.slice x0 a0.kids.length y0)) ∧ (w'.cell? ⟨b, o + 5, none⟩ = some (.int .i64 a1.kind) ∧ w'.cell? ⟨b, o + 5 + 1, none⟩ = some (.string a1.text) ∧ w'.cell? ⟨b, o + 5 + 2, none⟩ = some (.string a1.more) ∧ w'.cell? ⟨b, o + 5 + 3, none⟩ = some (.int .u64 a1.num) ∧ w'.cell? ⟨b, o + 5 + 4, none⟩ = some (.slice x1 a1.kids.length y1))) := Lib.hid fun w' hb => by
    have hc : ∀ r i, r < w0.heap.size → w'.cell? ⟨r, i, none⟩ = w0.cell? ⟨r, i, none⟩ := fun r i hr => hb.cell (p := ⟨r, i, none⟩) hr
    have hx := (Array.getElem?_eq_some_iff.1 HROW.out).1
    exact ⟨(hc _ _ hx).trans (by rw [Lib.cell_of_heap HROW.out]; rfl), ⟨(hc _ _ hbl).trans d00, (hc _ _ hbl).trans d01, (hc _ _ hbl).trans d02, (hc _ _ hbl).trans d03, (hc _ _ hbl).trans d04⟩, ⟨(hc _ _ hbl).trans d10, (hc _ _ hbl).trans d11, (hc _ _ hbl).trans d12, (hc _ _ hbl).trans d13, (hc _ _ hbl).trans d14⟩⟩
  have HW0 := Lib.hid hw0
  clear hv hkid hb0 hrow0 hn0 d00 d01 d02 d03 d04 h0 c0 hn1 d10 d11 d12 d13 d14 h1 c1
  unfold nodeU
  go_enter Tryz.func23, Tryz.ntmps23
  go_wp2_with fail
  ((with_reducible refine (HEX.out _).mono ?_))
  rintro e wx ⟨rfl, hbx⟩
  rw [← HW0.out] at hbx
  clear hw0 HW0
  go_upto_region 51 with fail
  have hbxd : Below w0.heap.size w0 wx.drew := hbx.drew
  go_region_held3 (fun w' => w'.cell? ⟨w.heap.size, 4, none⟩ = some (.slice (some ⟨b, o, none⟩) 2 c) ∧ (w'.cell? ⟨b, o, none⟩ = some (.int .i64 a0.kind) ∧ w'.cell? ⟨b, o + 1, none⟩ = some (.string a0.text) ∧ w'.cell? ⟨b, o + 2, none⟩ = some (.string a0.more) ∧ w'.cell? ⟨b, o + 3, none⟩ = some (.int .u64 a0.num) ∧ w'.cell? ⟨b, o + 4, none⟩ = some (.slice x0 a0.kids.length y0)) ∧ (w'.cell? ⟨b, o + 5, none⟩ = some (.int .i64 a1.kind) ∧ w'.cell? ⟨b, o + 5 + 1, none⟩ = some (.string a1.text) ∧ w'.cell? ⟨b, o + 5 + 2, none⟩ = some (.string a1.more) ∧ w'.cell? ⟨b, o + 5 + 3, none⟩ = some (.int .u64 a1.num) ∧ w'.cell? ⟨b, o + 5 + 4, none⟩ = some (.slice x1 a1.kids.length y1))) (first | exact HS.out _ hbx | exact HS.out _ hbxd | exact HS.out _ hz1 | exact HS.out _ hz2 | go_keep) (first
    | (go_at_call 44; ((with_reducible refine (HC0.out _ hbxd).mono ?_)); rintro e w1 ⟨r0, rfl, hr0, hb1⟩; have hz1 : Below w0.heap.size w0 w1 := hbxd.trans (hb1.mono hbxd.size))
    | (go_at_call 44; ((with_reducible refine (HC1.out _ hz1).mono ?_)); rintro e w2 ⟨r1, rfl, hr1, hb2⟩; have hz2 : Below w0.heap.size w0 w2 := hz1.trans (hb2.mono hz1.size))
    | fail "none")
  all_goals
    have HBL := Lib.hid (HB0.out.trans (hz2.mono HB0.out.size))
    have HL0 := Lib.hid (Nat.le_trans HB0.out.size hbxd.size)
    have HR0 := Lib.hid hr0
    have HR1 := Lib.hid hr1
    have HB1 := Lib.hid hb1
    have HB2 := Lib.hid hb2
    clear hr0 hr1
    have HAL := Lib.hid ((Below.refl w2.heap.size w2).alloc (Nat.le_refl _) (.cells #[.pointer none, .slice none 0 0, .slice none 0 0, kv a0.kind r0, .slice none 0 0, kv a1.kind r1, .slice none 0 0] 151))
    have HROWN := Lib.hid (heap_alloc_new w2 (.cells #[.pointer none, .slice none 0 0, .slice none 0 0, kv a0.kind r0, .slice none 0 0, kv a1.kind r1, .slice none 0 0] 151))
    have HSZ := Lib.hid (alloc_size w2 (.cells #[.pointer none, .slice none 0 0, .slice none 0 0, kv a0.kind r0, .slice none 0 0, kv a1.kind r1, .slice none 0 0] 151))
    go_wp2
    go_ret
    exact ⟨w2.heap.size, rfl, .k18 a0 r0 (HR0.out.up (HB2.out.trans (HAL.out.mono HB2.out.size)) HL0.out) a1 r1 (HR1.out.up HAL.out (Nat.le_trans HL0.out HB1.out.size)) _ ⟨HBL.out.size, by rw [HSZ.out]; exact Nat.lt_succ_self _⟩ HROWN.out, HBL.out.trans (HAL.out.mono HBL.out.size)⟩


set_option maxHeartbeats 8000000 in
set_option maxRecDepth 100000 in
theorem un_k21 {N : Nat} (t : ByteArray) (ht : t ∈ operatorTexts) (a0 : Tr) (h0 : UnH N a0) (c0 : exprB a0.kind) (a1 : Tr) (h1 : UnH N a1) (c1 : exprB a1.kind) : UnH N (.mk 21 t ⟨#[]⟩ 0 [a0, a1]) := by
  intro v w hv hN
  obtain ⟨k', t', m', n', ks', a, c, he, rfl⟩ := hv.form
  injection he with e1 e2 e3 e4 e5
  subst e1 e2 e3 e4 e5
  obtain ⟨b, o, rfl, hbN, hkid⟩ := hv.kidsAt (by simp)
  have hb0 := (Below.refl w.heap.size w).alloc (Nat.le_refl _) (.cells #[.int .i64 21, .string t, .string ⟨#[]⟩, .int .u64 0, .slice (some ⟨b, o, none⟩) 2 c] 25)
  have hrow0 := heap_alloc_new w (.cells #[.int .i64 21, .string t, .string ⟨#[]⟩, .int .u64 0, .slice (some ⟨b, o, none⟩) 2 c] 25)
  obtain ⟨w0, hw0⟩ : ∃ w0, w0 = w.alloc (.cells #[.int .i64 21, .string t, .string ⟨#[]⟩, .int .u64 0, .slice (some ⟨b, o, none⟩) 2 c] 25) := ⟨_, rfl⟩
  rw [← hw0] at hb0 hrow0
  have hN0 : N ≤ w0.heap.size := Nat.le_trans hN hb0.size
  have hbl : b < w0.heap.size := Nat.lt_of_lt_of_le hbN hN0
  obtain ⟨x0, y0, hn0, d00, d01, d02, d03, d04⟩ := hkid w0 (Keep.of_below hb0 hN) 0 (by simp)
  simp only [List.getElem_cons_zero, List.getElem_cons_succ, Nat.zero_mul, Nat.add_zero, Nat.one_mul, Nat.reduceMul] at hn0 d00 d01 d02 d03 d04
  unfold nodeU at hn0
  obtain ⟨x1, y1, hn1, d10, d11, d12, d13, d14⟩ := hkid w0 (Keep.of_below hb0 hN) 1 (by simp)
  simp only [List.getElem_cons_zero, List.getElem_cons_succ, Nat.zero_mul, Nat.add_zero, Nat.one_mul, Nat.reduceMul] at hn1 d10 d11 d12 d13 d14
  unfold nodeU at hn1
  have HC0 : Hid (∀ W, Below w0.heap.size w0 W → Calls Tryz.prog 37 #[.agg #[.int .i64 a0.kind, .string a0.text, .string a0.more, .int .u64 a0.num, .slice x0 a0.kids.length y0]] W (UnP a0 W)) := Lib.hid fun W hb => maybeExpr_some h0 c0 _ W (hn0.keep (Keep.of_below hb hN0)) (Nat.le_trans hN0 hb.size)
  have HC1 : Hid (∀ W, Below w0.heap.size w0 W → Calls Tryz.prog 37 #[.agg #[.int .i64 a1.kind, .string a1.text, .string a1.more, .int .u64 a1.num, .slice x1 a1.kids.length y1]] W (UnP a1 W)) := Lib.hid fun W hb => maybeExpr_some h1 c1 _ W (hn1.keep (Keep.of_below hb hN0)) (Nat.le_trans hN0 hb.size)
  have HEX := Lib.hid (fun W => exactly_any 21 t ⟨#[]⟩ 0 (some ⟨b, o, none⟩) 2 c 2 rfl W)
  have HROW := Lib.hid hrow0
  have HB0 := Lib.hid hb0
  have HS : Hid (∀ w', Below w0.heap.size w0 w' → w'.cell? ⟨w.heap.size, 4, none⟩ = some (.slice (some ⟨b, o, none⟩) 2 c) ∧ (w'.cell? ⟨b, o, none⟩ = some (.int .i64 a0.kind) ∧ w'.cell? ⟨b, o + 1, none⟩ = some (.string a0.text) ∧ w'.cell? ⟨b, o + 2, none⟩ = some (.string a0.more) ∧ w'.cell? ⟨b, o + 3, none⟩ = some (.int .u64 a0.num) ∧ w'.cell? ⟨b, o + 4, none⟩ = some (.slice x0 a0.kids.length y0)) ∧ (w'.cell? ⟨b, o + 5, none⟩ = some (.int .i64 a1.kind) ∧ w'.cell? ⟨b, o + 5 + 1, none⟩ = some (.string a1.text) ∧ w'.cell? ⟨b, o + 5 + 2, none⟩ = some (.string a1.more) ∧ w'.cell? ⟨b, o + 5 + 3, none⟩ = some (.int .u64 a1.num) ∧ w'.cell? ⟨b, o + 5 + 4, none⟩ = some (.slice x1 a1.kids.length y1)) ∧ w'.cell? ⟨w.heap.size, 1, none⟩ = some (.string t)) := Lib.hid fun w' hb => by
    have hc : ∀ r i, r < w0.heap.size → w'.cell? ⟨r, i, none⟩ = w0.cell? ⟨r, i, none⟩ := fun r i hr => hb.cell (p := ⟨r, i, none⟩) hr
    have hx := (Array.getElem?_eq_some_iff.1 HROW.out).1
    exact ⟨(hc _ _ hx).trans (by rw [Lib.cell_of_heap HROW.out]; rfl), ⟨(hc _ _ hbl).trans d00, (hc _ _ hbl).trans d01, (hc _ _ hbl).trans d02, (hc _ _ hbl).trans d03, (hc _ _ hbl).trans d04⟩, ⟨(hc _ _ hbl).trans d10, (hc _ _ hbl).trans d11, (hc _ _ hbl).trans d12, (hc _ _ hbl).trans d13, (hc _ _ hbl).trans d14⟩, (hc _ _ hx).trans (by rw [Lib.cell_of_heap HROW.out]; rfl)⟩
  have HW0 := Lib.hid hw0
  clear hv hkid hb0 hrow0 hn0 d00 d01 d02 d03 d04 h0 c0 hn1 d10 d11 d12 d13 d14 h1 c1
  unfold nodeU
  go_enter Tryz.func23, Tryz.ntmps23
  go_wp2_with fail
  ((with_reducible refine (HEX.out _).mono ?_))
  rintro e wx ⟨rfl, hbx⟩
  rw [← HW0.out] at hbx
  clear hw0 HW0
  go_upto_region 63 with fail
  have hbxd : Below w0.heap.size w0 wx.drew := hbx.drew
  go_region_held3 (fun w' => w'.cell? ⟨w.heap.size, 4, none⟩ = some (.slice (some ⟨b, o, none⟩) 2 c) ∧ (w'.cell? ⟨b, o, none⟩ = some (.int .i64 a0.kind) ∧ w'.cell? ⟨b, o + 1, none⟩ = some (.string a0.text) ∧ w'.cell? ⟨b, o + 2, none⟩ = some (.string a0.more) ∧ w'.cell? ⟨b, o + 3, none⟩ = some (.int .u64 a0.num) ∧ w'.cell? ⟨b, o + 4, none⟩ = some (.slice x0 a0.kids.length y0)) ∧ (w'.cell? ⟨b, o + 5, none⟩ = some (.int .i64 a1.kind) ∧ w'.cell? ⟨b, o + 5 + 1, none⟩ = some (.string a1.text) ∧ w'.cell? ⟨b, o + 5 + 2, none⟩ = some (.string a1.more) ∧ w'.cell? ⟨b, o + 5 + 3, none⟩ = some (.int .u64 a1.num) ∧ w'.cell? ⟨b, o + 5 + 4, none⟩ = some (.slice x1 a1.kids.length y1)) ∧ w'.cell? ⟨w.heap.size, 1, none⟩ = some (.string t)) (first | exact HS.out _ hbx | exact HS.out _ hbxd | exact HS.out _ hz1 | exact HS.out _ hz2 | exact HS.out _ hz3 | go_keep) (first
    | (go_at_call 50; ((with_reducible refine (operator_any t ht _).mono ?_)); rintro e w1 ⟨rfl, hb1⟩; have hz1 : Below w0.heap.size w0 w1 := hbxd.trans (hb1.mono hbxd.size))
    | (go_at_call 37; ((with_reducible refine (HC0.out _ hz1).mono ?_)); rintro e w2 ⟨r0, rfl, hr0, hb2⟩; have hz2 : Below w0.heap.size w0 w2 := hz1.trans (hb2.mono hz1.size))
    | (go_at_call 37; ((with_reducible refine (HC1.out _ hz2).mono ?_)); rintro e w3 ⟨r1, rfl, hr1, hb3⟩; have hz3 : Below w0.heap.size w0 w3 := hz2.trans (hb3.mono hz2.size))
    | fail "none")
  all_goals
    have HBL := Lib.hid (HB0.out.trans (hz3.mono HB0.out.size))
    have HL0 := Lib.hid (Nat.le_trans HB0.out.size hbxd.size)
    have HR0 := Lib.hid hr0
    have HR1 := Lib.hid hr1
    have HB1 := Lib.hid hb1
    have HB2 := Lib.hid hb2
    have HB3 := Lib.hid hb3
    clear hr0 hr1
    have HAL := Lib.hid ((Below.refl w3.heap.size w3).alloc (Nat.le_refl _) (.cells #[.pointer none, .slice none 0 0, .slice none 0 0, .int .i64 (opOf t), kv a0.kind r0, kv a1.kind r1] 166))
    have HROWN := Lib.hid (heap_alloc_new w3 (.cells #[.pointer none, .slice none 0 0, .slice none 0 0, .int .i64 (opOf t), kv a0.kind r0, kv a1.kind r1] 166))
    have HSZ := Lib.hid (alloc_size w3 (.cells #[.pointer none, .slice none 0 0, .slice none 0 0, .int .i64 (opOf t), kv a0.kind r0, kv a1.kind r1] 166))
    go_wp2
    go_ret
    exact ⟨w3.heap.size, rfl, .k21 t a0 r0 (HR0.out.up (HB3.out.trans (HAL.out.mono HB3.out.size)) (Nat.le_trans HL0.out HB1.out.size)) a1 r1 (HR1.out.up HAL.out (Nat.le_trans (Nat.le_trans HL0.out HB1.out.size) HB2.out.size)) _ ⟨HBL.out.size, by rw [HSZ.out]; exact Nat.lt_succ_self _⟩ HROWN.out, HBL.out.trans (HAL.out.mono HBL.out.size)⟩


set_option maxHeartbeats 8000000 in
set_option maxRecDepth 100000 in
theorem un_k22 {N : Nat} (t : ByteArray) (ht : t ∈ unaryTexts) (a0 : Tr) (h0 : UnH N a0) (c0 : exprB a0.kind) : UnH N (.mk 22 t ⟨#[]⟩ 0 [a0]) := by
  intro v w hv hN
  obtain ⟨k', t', m', n', ks', a, c, he, rfl⟩ := hv.form
  injection he with e1 e2 e3 e4 e5
  subst e1 e2 e3 e4 e5
  obtain ⟨b, o, rfl, hbN, hkid⟩ := hv.kidsAt (by simp)
  have hb0 := (Below.refl w.heap.size w).alloc (Nat.le_refl _) (.cells #[.int .i64 22, .string t, .string ⟨#[]⟩, .int .u64 0, .slice (some ⟨b, o, none⟩) 1 c] 25)
  have hrow0 := heap_alloc_new w (.cells #[.int .i64 22, .string t, .string ⟨#[]⟩, .int .u64 0, .slice (some ⟨b, o, none⟩) 1 c] 25)
  obtain ⟨w0, hw0⟩ : ∃ w0, w0 = w.alloc (.cells #[.int .i64 22, .string t, .string ⟨#[]⟩, .int .u64 0, .slice (some ⟨b, o, none⟩) 1 c] 25) := ⟨_, rfl⟩
  rw [← hw0] at hb0 hrow0
  have hN0 : N ≤ w0.heap.size := Nat.le_trans hN hb0.size
  have hbl : b < w0.heap.size := Nat.lt_of_lt_of_le hbN hN0
  obtain ⟨x0, y0, hn0, d00, d01, d02, d03, d04⟩ := hkid w0 (Keep.of_below hb0 hN) 0 (by simp)
  simp only [List.getElem_cons_zero, List.getElem_cons_succ, Nat.zero_mul, Nat.add_zero, Nat.one_mul, Nat.reduceMul] at hn0 d00 d01 d02 d03 d04
  unfold nodeU at hn0
  have HC0 : Hid (∀ W, Below w0.heap.size w0 W → Calls Tryz.prog 44 #[.agg #[.int .i64 a0.kind, .string a0.text, .string a0.more, .int .u64 a0.num, .slice x0 a0.kids.length y0]] W (UnP a0 W)) := Lib.hid fun W hb => nodeOf_Expression h0 c0 _ W (hn0.keep (Keep.of_below hb hN0)) (Nat.le_trans hN0 hb.size)
  have HEX := Lib.hid (fun W => exactly_any 22 t ⟨#[]⟩ 0 (some ⟨b, o, none⟩) 1 c 1 rfl W)
  have HROW := Lib.hid hrow0
  have HB0 := Lib.hid hb0
  have HS : Hid (∀ w', Below w0.heap.size w0 w' → w'.cell? ⟨w.heap.size, 4, none⟩ = some (.slice (some ⟨b, o, none⟩) 1 c) ∧ (w'.cell? ⟨b, o, none⟩ = some (.int .i64 a0.kind) ∧ w'.cell? ⟨b, o + 1, none⟩ = some (.string a0.text) ∧ w'.cell? ⟨b, o + 2, none⟩ = some (.string a0.more) ∧ w'.cell? ⟨b, o + 3, none⟩ = some (.int .u64 a0.num) ∧ w'.cell? ⟨b, o + 4, none⟩ = some (.slice x0 a0.kids.length y0)) ∧ w'.cell? ⟨w.heap.size, 1, none⟩ = some (.string t)) := Lib.hid fun w' hb => by
    have hc : ∀ r i, r < w0.heap.size → w'.cell? ⟨r, i, none⟩ = w0.cell? ⟨r, i, none⟩ := fun r i hr => hb.cell (p := ⟨r, i, none⟩) hr
    have hx := (Array.getElem?_eq_some_iff.1 HROW.out).1
    exact ⟨(hc _ _ hx).trans (by rw [Lib.cell_of_heap HROW.out]; rfl), ⟨(hc _ _ hbl).trans d00, (hc _ _ hbl).trans d01, (hc _ _ hbl).trans d02, (hc _ _ hbl).trans d03, (hc _ _ hbl).trans d04⟩, (hc _ _ hx).trans (by rw [Lib.cell_of_heap HROW.out]; rfl)⟩
  have HW0 := Lib.hid hw0
  clear hv hkid hb0 hrow0 hn0 d00 d01 d02 d03 d04 h0 c0
  unfold nodeU
  go_enter Tryz.func23, Tryz.ntmps23
  go_wp2_with fail
  ((with_reducible refine (HEX.out _).mono ?_))
  rintro e wx ⟨rfl, hbx⟩
  rw [← HW0.out] at hbx
  clear hw0 HW0
  go_upto_region 66 with fail
  have hbxd : Below w0.heap.size w0 wx.drew := hbx.drew
  go_region_held3 (fun w' => w'.cell? ⟨w.heap.size, 4, none⟩ = some (.slice (some ⟨b, o, none⟩) 1 c) ∧ (w'.cell? ⟨b, o, none⟩ = some (.int .i64 a0.kind) ∧ w'.cell? ⟨b, o + 1, none⟩ = some (.string a0.text) ∧ w'.cell? ⟨b, o + 2, none⟩ = some (.string a0.more) ∧ w'.cell? ⟨b, o + 3, none⟩ = some (.int .u64 a0.num) ∧ w'.cell? ⟨b, o + 4, none⟩ = some (.slice x0 a0.kids.length y0)) ∧ w'.cell? ⟨w.heap.size, 1, none⟩ = some (.string t)) (first | exact HS.out _ hbx | exact HS.out _ hbxd | exact HS.out _ hz1 | exact HS.out _ hz2 | go_keep) (first
    | (go_at_call 50; ((with_reducible refine (operator_any t (unary_op ht) _).mono ?_)); rintro e w1 ⟨rfl, hb1⟩; have hz1 : Below w0.heap.size w0 w1 := hbxd.trans (hb1.mono hbxd.size))
    | (go_at_call 44; ((with_reducible refine (HC0.out _ hz1).mono ?_)); rintro e w2 ⟨r0, rfl, hr0, hb2⟩; have hz2 : Below w0.heap.size w0 w2 := hz1.trans (hb2.mono hz1.size))
    | fail "none")
  all_goals
    have HBL := Lib.hid (HB0.out.trans (hz2.mono HB0.out.size))
    have HL0 := Lib.hid (Nat.le_trans HB0.out.size hbxd.size)
    have HR0 := Lib.hid hr0
    have HB1 := Lib.hid hb1
    have HB2 := Lib.hid hb2
    clear hr0
    have HAL := Lib.hid ((Below.refl w2.heap.size w2).alloc (Nat.le_refl _) (.cells #[.pointer none, .slice none 0 0, .slice none 0 0, .int .i64 (opOf t), kv a0.kind r0] 169))
    have HROWN := Lib.hid (heap_alloc_new w2 (.cells #[.pointer none, .slice none 0 0, .slice none 0 0, .int .i64 (opOf t), kv a0.kind r0] 169))
    have HSZ := Lib.hid (alloc_size w2 (.cells #[.pointer none, .slice none 0 0, .slice none 0 0, .int .i64 (opOf t), kv a0.kind r0] 169))
    go_wp2
    go_ret
    exact ⟨w2.heap.size, rfl, .k22 t a0 r0 (HR0.out.up HAL.out (Nat.le_trans HL0.out HB1.out.size)) _ ⟨HBL.out.size, by rw [HSZ.out]; exact Nat.lt_succ_self _⟩ HROWN.out, HBL.out.trans (HAL.out.mono HBL.out.size)⟩


set_option maxHeartbeats 8000000 in
set_option maxRecDepth 100000 in
theorem un_k23 {N : Nat} (t : ByteArray) (ht : t = ⟨#[97, 110, 100]⟩ ∨ t = ⟨#[111, 114]⟩) (a0 : Tr) (h0 : UnH N a0) (c0 : exprB a0.kind) (a1 : Tr) (h1 : UnH N a1) (c1 : exprB a1.kind) : UnH N (.mk 23 t ⟨#[]⟩ 0 [a0, a1]) := by
  intro v w hv hN
  obtain ⟨k', t', m', n', ks', a, c, he, rfl⟩ := hv.form
  injection he with e1 e2 e3 e4 e5
  subst e1 e2 e3 e4 e5
  obtain ⟨b, o, rfl, hbN, hkid⟩ := hv.kidsAt (by simp)
  have hb0 := (Below.refl w.heap.size w).alloc (Nat.le_refl _) (.cells #[.int .i64 23, .string t, .string ⟨#[]⟩, .int .u64 0, .slice (some ⟨b, o, none⟩) 2 c] 25)
  have hrow0 := heap_alloc_new w (.cells #[.int .i64 23, .string t, .string ⟨#[]⟩, .int .u64 0, .slice (some ⟨b, o, none⟩) 2 c] 25)
  obtain ⟨w0, hw0⟩ : ∃ w0, w0 = w.alloc (.cells #[.int .i64 23, .string t, .string ⟨#[]⟩, .int .u64 0, .slice (some ⟨b, o, none⟩) 2 c] 25) := ⟨_, rfl⟩
  rw [← hw0] at hb0 hrow0
  have hN0 : N ≤ w0.heap.size := Nat.le_trans hN hb0.size
  have hbl : b < w0.heap.size := Nat.lt_of_lt_of_le hbN hN0
  obtain ⟨x0, y0, hn0, d00, d01, d02, d03, d04⟩ := hkid w0 (Keep.of_below hb0 hN) 0 (by simp)
  simp only [List.getElem_cons_zero, List.getElem_cons_succ, Nat.zero_mul, Nat.add_zero, Nat.one_mul, Nat.reduceMul] at hn0 d00 d01 d02 d03 d04
  unfold nodeU at hn0
  obtain ⟨x1, y1, hn1, d10, d11, d12, d13, d14⟩ := hkid w0 (Keep.of_below hb0 hN) 1 (by simp)
  simp only [List.getElem_cons_zero, List.getElem_cons_succ, Nat.zero_mul, Nat.add_zero, Nat.one_mul, Nat.reduceMul] at hn1 d10 d11 d12 d13 d14
  unfold nodeU at hn1
  have HC0 : Hid (∀ W, Below w0.heap.size w0 W → Calls Tryz.prog 44 #[.agg #[.int .i64 a0.kind, .string a0.text, .string a0.more, .int .u64 a0.num, .slice x0 a0.kids.length y0]] W (UnP a0 W)) := Lib.hid fun W hb => nodeOf_Expression h0 c0 _ W (hn0.keep (Keep.of_below hb hN0)) (Nat.le_trans hN0 hb.size)
  have HC1 : Hid (∀ W, Below w0.heap.size w0 W → Calls Tryz.prog 44 #[.agg #[.int .i64 a1.kind, .string a1.text, .string a1.more, .int .u64 a1.num, .slice x1 a1.kids.length y1]] W (UnP a1 W)) := Lib.hid fun W hb => nodeOf_Expression h1 c1 _ W (hn1.keep (Keep.of_below hb hN0)) (Nat.le_trans hN0 hb.size)
  have HEX := Lib.hid (fun W => exactly_any 23 t ⟨#[]⟩ 0 (some ⟨b, o, none⟩) 2 c 2 rfl W)
  have HROW := Lib.hid hrow0
  have HB0 := Lib.hid hb0
  have HS : Hid (∀ w', Below w0.heap.size w0 w' → w'.cell? ⟨w.heap.size, 4, none⟩ = some (.slice (some ⟨b, o, none⟩) 2 c) ∧ (w'.cell? ⟨b, o, none⟩ = some (.int .i64 a0.kind) ∧ w'.cell? ⟨b, o + 1, none⟩ = some (.string a0.text) ∧ w'.cell? ⟨b, o + 2, none⟩ = some (.string a0.more) ∧ w'.cell? ⟨b, o + 3, none⟩ = some (.int .u64 a0.num) ∧ w'.cell? ⟨b, o + 4, none⟩ = some (.slice x0 a0.kids.length y0)) ∧ (w'.cell? ⟨b, o + 5, none⟩ = some (.int .i64 a1.kind) ∧ w'.cell? ⟨b, o + 5 + 1, none⟩ = some (.string a1.text) ∧ w'.cell? ⟨b, o + 5 + 2, none⟩ = some (.string a1.more) ∧ w'.cell? ⟨b, o + 5 + 3, none⟩ = some (.int .u64 a1.num) ∧ w'.cell? ⟨b, o + 5 + 4, none⟩ = some (.slice x1 a1.kids.length y1)) ∧ w'.cell? ⟨w.heap.size, 1, none⟩ = some (.string t)) := Lib.hid fun w' hb => by
    have hc : ∀ r i, r < w0.heap.size → w'.cell? ⟨r, i, none⟩ = w0.cell? ⟨r, i, none⟩ := fun r i hr => hb.cell (p := ⟨r, i, none⟩) hr
    have hx := (Array.getElem?_eq_some_iff.1 HROW.out).1
    exact ⟨(hc _ _ hx).trans (by rw [Lib.cell_of_heap HROW.out]; rfl), ⟨(hc _ _ hbl).trans d00, (hc _ _ hbl).trans d01, (hc _ _ hbl).trans d02, (hc _ _ hbl).trans d03, (hc _ _ hbl).trans d04⟩, ⟨(hc _ _ hbl).trans d10, (hc _ _ hbl).trans d11, (hc _ _ hbl).trans d12, (hc _ _ hbl).trans d13, (hc _ _ hbl).trans d14⟩, (hc _ _ hx).trans (by rw [Lib.cell_of_heap HROW.out]; rfl)⟩
  have HW0 := Lib.hid hw0
  clear hv hkid hb0 hrow0 hn0 d00 d01 d02 d03 d04 h0 c0 hn1 d10 d11 d12 d13 d14 h1 c1
  unfold nodeU
  go_enter Tryz.func23, Tryz.ntmps23
  go_wp2_with fail
  ((with_reducible refine (HEX.out _).mono ?_))
  rintro e wx ⟨rfl, hbx⟩
  rw [← HW0.out] at hbx
  clear hw0 HW0
  go_upto_region 69 with fail
  have hbxd : Below w0.heap.size w0 wx.drew := hbx.drew
  go_region_held3 (fun w' => w'.cell? ⟨w.heap.size, 4, none⟩ = some (.slice (some ⟨b, o, none⟩) 2 c) ∧ (w'.cell? ⟨b, o, none⟩ = some (.int .i64 a0.kind) ∧ w'.cell? ⟨b, o + 1, none⟩ = some (.string a0.text) ∧ w'.cell? ⟨b, o + 2, none⟩ = some (.string a0.more) ∧ w'.cell? ⟨b, o + 3, none⟩ = some (.int .u64 a0.num) ∧ w'.cell? ⟨b, o + 4, none⟩ = some (.slice x0 a0.kids.length y0)) ∧ (w'.cell? ⟨b, o + 5, none⟩ = some (.int .i64 a1.kind) ∧ w'.cell? ⟨b, o + 5 + 1, none⟩ = some (.string a1.text) ∧ w'.cell? ⟨b, o + 5 + 2, none⟩ = some (.string a1.more) ∧ w'.cell? ⟨b, o + 5 + 3, none⟩ = some (.int .u64 a1.num) ∧ w'.cell? ⟨b, o + 5 + 4, none⟩ = some (.slice x1 a1.kids.length y1)) ∧ w'.cell? ⟨w.heap.size, 1, none⟩ = some (.string t)) (first | exact HS.out _ hbx | exact HS.out _ hbxd | exact HS.out _ hz1 | exact HS.out _ hz2 | exact HS.out _ hz3 | go_keep) (first
    | (go_at_call 51; ((with_reducible refine (logical_any t ht _).mono ?_)); rintro e w1 ⟨rfl, hb1⟩; have hz1 : Below w0.heap.size w0 w1 := hbxd.trans (hb1.mono hbxd.size))
    | (go_at_call 44; ((with_reducible refine (HC0.out _ hz1).mono ?_)); rintro e w2 ⟨r0, rfl, hr0, hb2⟩; have hz2 : Below w0.heap.size w0 w2 := hz1.trans (hb2.mono hz1.size))
    | (go_at_call 44; ((with_reducible refine (HC1.out _ hz2).mono ?_)); rintro e w3 ⟨r1, rfl, hr1, hb3⟩; have hz3 : Below w0.heap.size w0 w3 := hz2.trans (hb3.mono hz2.size))
    | fail "none")
  all_goals
    have HBL := Lib.hid (HB0.out.trans (hz3.mono HB0.out.size))
    have HL0 := Lib.hid (Nat.le_trans HB0.out.size hbxd.size)
    have HR0 := Lib.hid hr0
    have HR1 := Lib.hid hr1
    have HB1 := Lib.hid hb1
    have HB2 := Lib.hid hb2
    have HB3 := Lib.hid hb3
    clear hr0 hr1
    have HAL := Lib.hid ((Below.refl w3.heap.size w3).alloc (Nat.le_refl _) (.cells #[.pointer none, .slice none 0 0, .slice none 0 0, .int .i64 (logOf t), kv a0.kind r0, kv a1.kind r1] 174))
    have HROWN := Lib.hid (heap_alloc_new w3 (.cells #[.pointer none, .slice none 0 0, .slice none 0 0, .int .i64 (logOf t), kv a0.kind r0, kv a1.kind r1] 174))
    have HSZ := Lib.hid (alloc_size w3 (.cells #[.pointer none, .slice none 0 0, .slice none 0 0, .int .i64 (logOf t), kv a0.kind r0, kv a1.kind r1] 174))
    go_wp2
    go_ret
    exact ⟨w3.heap.size, rfl, .k23 t a0 r0 (HR0.out.up (HB3.out.trans (HAL.out.mono HB3.out.size)) (Nat.le_trans HL0.out HB1.out.size)) a1 r1 (HR1.out.up HAL.out (Nat.le_trans (Nat.le_trans HL0.out HB1.out.size) HB2.out.size)) _ ⟨HBL.out.size, by rw [HSZ.out]; exact Nat.lt_succ_self _⟩ HROWN.out, HBL.out.trans (HAL.out.mono HBL.out.size)⟩


set_option maxHeartbeats 8000000 in
set_option maxRecDepth 100000 in
theorem un_k24 {N : Nat} (a0 : Tr) (h0 : UnH N a0) (c0 : exprB a0.kind) (a1 : Tr) (h1 : UnH N a1) (c1 : exprB a1.kind) (a2 : Tr) (h2 : UnH N a2) (c2 : exprB a2.kind) : UnH N (.mk 24 ⟨#[]⟩ ⟨#[]⟩ 0 [a0, a1, a2]) := by
  intro v w hv hN
  obtain ⟨k', t', m', n', ks', a, c, he, rfl⟩ := hv.form
  injection he with e1 e2 e3 e4 e5
  subst e1 e2 e3 e4 e5
  obtain ⟨b, o, rfl, hbN, hkid⟩ := hv.kidsAt (by simp)
  have hb0 := (Below.refl w.heap.size w).alloc (Nat.le_refl _) (.cells #[.int .i64 24, .string ⟨#[]⟩, .string ⟨#[]⟩, .int .u64 0, .slice (some ⟨b, o, none⟩) 3 c] 25)
  have hrow0 := heap_alloc_new w (.cells #[.int .i64 24, .string ⟨#[]⟩, .string ⟨#[]⟩, .int .u64 0, .slice (some ⟨b, o, none⟩) 3 c] 25)
  obtain ⟨w0, hw0⟩ : ∃ w0, w0 = w.alloc (.cells #[.int .i64 24, .string ⟨#[]⟩, .string ⟨#[]⟩, .int .u64 0, .slice (some ⟨b, o, none⟩) 3 c] 25) := ⟨_, rfl⟩
  rw [← hw0] at hb0 hrow0
  have hN0 : N ≤ w0.heap.size := Nat.le_trans hN hb0.size
  have hbl : b < w0.heap.size := Nat.lt_of_lt_of_le hbN hN0
  obtain ⟨x0, y0, hn0, d00, d01, d02, d03, d04⟩ := hkid w0 (Keep.of_below hb0 hN) 0 (by simp)
  simp only [List.getElem_cons_zero, List.getElem_cons_succ, Nat.zero_mul, Nat.add_zero, Nat.one_mul, Nat.reduceMul] at hn0 d00 d01 d02 d03 d04
  unfold nodeU at hn0
  obtain ⟨x1, y1, hn1, d10, d11, d12, d13, d14⟩ := hkid w0 (Keep.of_below hb0 hN) 1 (by simp)
  simp only [List.getElem_cons_zero, List.getElem_cons_succ, Nat.zero_mul, Nat.add_zero, Nat.one_mul, Nat.reduceMul] at hn1 d10 d11 d12 d13 d14
  unfold nodeU at hn1
  obtain ⟨x2, y2, hn2, d20, d21, d22, d23, d24⟩ := hkid w0 (Keep.of_below hb0 hN) 2 (by simp)
  simp only [List.getElem_cons_zero, List.getElem_cons_succ, Nat.zero_mul, Nat.add_zero, Nat.one_mul, Nat.reduceMul] at hn2 d20 d21 d22 d23 d24
  unfold nodeU at hn2
  have HC0 : Hid (∀ W, Below w0.heap.size w0 W → Calls Tryz.prog 44 #[.agg #[.int .i64 a0.kind, .string a0.text, .string a0.more, .int .u64 a0.num, .slice x0 a0.kids.length y0]] W (UnP a0 W)) := Lib.hid fun W hb => nodeOf_Expression h0 c0 _ W (hn0.keep (Keep.of_below hb hN0)) (Nat.le_trans hN0 hb.size)
  have HC1 : Hid (∀ W, Below w0.heap.size w0 W → Calls Tryz.prog 44 #[.agg #[.int .i64 a1.kind, .string a1.text, .string a1.more, .int .u64 a1.num, .slice x1 a1.kids.length y1]] W (UnP a1 W)) := Lib.hid fun W hb => nodeOf_Expression h1 c1 _ W (hn1.keep (Keep.of_below hb hN0)) (Nat.le_trans hN0 hb.size)
  have HC2 : Hid (∀ W, Below w0.heap.size w0 W → Calls Tryz.prog 44 #[.agg #[.int .i64 a2.kind, .string a2.text, .string a2.more, .int .u64 a2.num, .slice x2 a2.kids.length y2]] W (UnP a2 W)) := Lib.hid fun W hb => nodeOf_Expression h2 c2 _ W (hn2.keep (Keep.of_below hb hN0)) (Nat.le_trans hN0 hb.size)
  have HEX := Lib.hid (fun W => exactly_any 24 ⟨#[]⟩ ⟨#[]⟩ 0 (some ⟨b, o, none⟩) 3 c 3 rfl W)
  have HROW := Lib.hid hrow0
  have HB0 := Lib.hid hb0
  have HS : Hid (∀ w', Below w0.heap.size w0 w' → w'.cell? ⟨w.heap.size, 4, none⟩ = some (.slice (some ⟨b, o, none⟩) 3 c) ∧ (w'.cell? ⟨b, o, none⟩ = some (.int .i64 a0.kind) ∧ w'.cell? ⟨b, o + 1, none⟩ = some (.string a0.text) ∧ w'.cell? ⟨b, o + 2, none⟩ = some (.string a0.more) ∧ w'.cell? ⟨b, o + 3, none⟩ = some (.int .u64 a0.num) ∧ w'.cell? ⟨b, o + 4, none⟩ = some (.slice x0 a0.kids.length y0)) ∧ (w'.cell? ⟨b, o + 5, none⟩ = some (.int .i64 a1.kind) ∧ w'.cell? ⟨b, o + 5 + 1, none⟩ = some (.string a1.text) ∧ w'.cell? ⟨b, o + 5 + 2, none⟩ = some (.string a1.more) ∧ w'.cell? ⟨b, o + 5 + 3, none⟩ = some (.int .u64 a1.num) ∧ w'.cell? ⟨b, o + 5 + 4, none⟩ = some (.slice x1 a1.kids.length y1)) ∧ (w'.cell? ⟨b, o + 10, none⟩ = some (.int .i64 a2.kind) ∧ w'.cell? ⟨b, o + 10 + 1, none⟩ = some (.string a2.text) ∧ w'.cell? ⟨b, o + 10 + 2, none⟩ = some (.string a2.more) ∧ w'.cell? ⟨b, o + 10 + 3, none⟩ = some (.int .u64 a2.num) ∧ w'.cell? ⟨b, o + 10 + 4, none⟩ = some (.slice x2 a2.kids.length y2))) := Lib.hid fun w' hb => by
    have hc : ∀ r i, r < w0.heap.size → w'.cell? ⟨r, i, none⟩ = w0.cell? ⟨r, i, none⟩ := fun r i hr => hb.cell (p := ⟨r, i, none⟩) hr
    have hx := (Array.getElem?_eq_some_iff.1 HROW.out).1
    exact ⟨(hc _ _ hx).trans (by rw [Lib.cell_of_heap HROW.out]; rfl), ⟨(hc _ _ hbl).trans d00, (hc _ _ hbl).trans d01, (hc _ _ hbl).trans d02, (hc _ _ hbl).trans d03, (hc _ _ hbl).trans d04⟩, ⟨(hc _ _ hbl).trans d10, (hc _ _ hbl).trans d11, (hc _ _ hbl).trans d12, (hc _ _ hbl).trans d13, (hc _ _ hbl).trans d14⟩, ⟨(hc _ _ hbl).trans d20, (hc _ _ hbl).trans d21, (hc _ _ hbl).trans d22, (hc _ _ hbl).trans d23, (hc _ _ hbl).trans d24⟩⟩
  have HW0 := Lib.hid hw0
  clear hv hkid hb0 hrow0 hn0 d00 d01 d02 d03 d04 h0 c0 hn1 d10 d11 d12 d13 d14 h1 c1 hn2 d20 d21 d22 d23 d24 h2 c2
  unfold nodeU
  go_enter Tryz.func23, Tryz.ntmps23
  go_wp2_with fail
  ((with_reducible refine (HEX.out _).mono ?_))
  rintro e wx ⟨rfl, hbx⟩
  rw [← HW0.out] at hbx
  clear hw0 HW0
  go_upto_region 72 with fail
  have hbxd : Below w0.heap.size w0 wx.drew := hbx.drew
  go_region_held3 (fun w' => w'.cell? ⟨w.heap.size, 4, none⟩ = some (.slice (some ⟨b, o, none⟩) 3 c) ∧ (w'.cell? ⟨b, o, none⟩ = some (.int .i64 a0.kind) ∧ w'.cell? ⟨b, o + 1, none⟩ = some (.string a0.text) ∧ w'.cell? ⟨b, o + 2, none⟩ = some (.string a0.more) ∧ w'.cell? ⟨b, o + 3, none⟩ = some (.int .u64 a0.num) ∧ w'.cell? ⟨b, o + 4, none⟩ = some (.slice x0 a0.kids.length y0)) ∧ (w'.cell? ⟨b, o + 5, none⟩ = some (.int .i64 a1.kind) ∧ w'.cell? ⟨b, o + 5 + 1, none⟩ = some (.string a1.text) ∧ w'.cell? ⟨b, o + 5 + 2, none⟩ = some (.string a1.more) ∧ w'.cell? ⟨b, o + 5 + 3, none⟩ = some (.int .u64 a1.num) ∧ w'.cell? ⟨b, o + 5 + 4, none⟩ = some (.slice x1 a1.kids.length y1)) ∧ (w'.cell? ⟨b, o + 10, none⟩ = some (.int .i64 a2.kind) ∧ w'.cell? ⟨b, o + 10 + 1, none⟩ = some (.string a2.text) ∧ w'.cell? ⟨b, o + 10 + 2, none⟩ = some (.string a2.more) ∧ w'.cell? ⟨b, o + 10 + 3, none⟩ = some (.int .u64 a2.num) ∧ w'.cell? ⟨b, o + 10 + 4, none⟩ = some (.slice x2 a2.kids.length y2))) (first | exact HS.out _ hbx | exact HS.out _ hbxd | exact HS.out _ hz1 | exact HS.out _ hz2 | exact HS.out _ hz3 | go_keep) (first
    | (go_at_call 44; ((with_reducible refine (HC0.out _ hbxd).mono ?_)); rintro e w1 ⟨r0, rfl, hr0, hb1⟩; have hz1 : Below w0.heap.size w0 w1 := hbxd.trans (hb1.mono hbxd.size))
    | (go_at_call 44; ((with_reducible refine (HC1.out _ hz1).mono ?_)); rintro e w2 ⟨r1, rfl, hr1, hb2⟩; have hz2 : Below w0.heap.size w0 w2 := hz1.trans (hb2.mono hz1.size))
    | (go_at_call 44; ((with_reducible refine (HC2.out _ hz2).mono ?_)); rintro e w3 ⟨r2, rfl, hr2, hb3⟩; have hz3 : Below w0.heap.size w0 w3 := hz2.trans (hb3.mono hz2.size))
    | fail "none")
  all_goals
    have HBL := Lib.hid (HB0.out.trans (hz3.mono HB0.out.size))
    have HL0 := Lib.hid (Nat.le_trans HB0.out.size hbxd.size)
    have HR0 := Lib.hid hr0
    have HR1 := Lib.hid hr1
    have HR2 := Lib.hid hr2
    have HB1 := Lib.hid hb1
    have HB2 := Lib.hid hb2
    have HB3 := Lib.hid hb3
    clear hr0 hr1 hr2
    have HAL := Lib.hid ((Below.refl w3.heap.size w3).alloc (Nat.le_refl _) (.cells #[.pointer none, .slice none 0 0, .slice none 0 0, .slice none 0 0, kv a0.kind r0, .slice none 0 0, kv a1.kind r1, .slice none 0 0, kv a2.kind r2] 177))
    have HROWN := Lib.hid (heap_alloc_new w3 (.cells #[.pointer none, .slice none 0 0, .slice none 0 0, .slice none 0 0, kv a0.kind r0, .slice none 0 0, kv a1.kind r1, .slice none 0 0, kv a2.kind r2] 177))
    have HSZ := Lib.hid (alloc_size w3 (.cells #[.pointer none, .slice none 0 0, .slice none 0 0, .slice none 0 0, kv a0.kind r0, .slice none 0 0, kv a1.kind r1, .slice none 0 0, kv a2.kind r2] 177))
    go_wp2
    go_ret
    exact ⟨w3.heap.size, rfl, .k24 a0 r0 (HR0.out.up (HB2.out.trans ((HB3.out.trans (HAL.out.mono HB3.out.size)).mono HB2.out.size)) HL0.out) a1 r1 (HR1.out.up (HB3.out.trans (HAL.out.mono HB3.out.size)) (Nat.le_trans HL0.out HB1.out.size)) a2 r2 (HR2.out.up HAL.out (Nat.le_trans (Nat.le_trans HL0.out HB1.out.size) HB2.out.size)) _ ⟨HBL.out.size, by rw [HSZ.out]; exact Nat.lt_succ_self _⟩ HROWN.out, HBL.out.trans (HAL.out.mono HBL.out.size)⟩


set_option maxHeartbeats 8000000 in
set_option maxRecDepth 100000 in
theorem un_k29_0 {N : Nat} (a0 : Tr) (h0 : UnH N a0) (c0 : (a0.kind = 33 ∨ a0.kind = 34)) (a1 : Tr) (h1 : a1.kind ≠ 0 → UnH N a1) (c1 : (a1.kind = 0 ∨ exprB a1.kind)) (hz1 : a1.kind = 0) : UnH N (.mk 29 ⟨#[]⟩ ⟨#[]⟩ 0 [a0, a1]) := by
  intro v w hv hN
  have HOV : Hid (∀ r1 : Nat, ov a1.kind r1 = .nilIface) := Lib.hid fun r => if_pos hz1
  clear hz1
  obtain ⟨k', t', m', n', ks', a, c, he, rfl⟩ := hv.form
  injection he with e1 e2 e3 e4 e5
  subst e1 e2 e3 e4 e5
  obtain ⟨b, o, rfl, hbN, hkid⟩ := hv.kidsAt (by simp)
  have hb0 := (Below.refl w.heap.size w).alloc (Nat.le_refl _) (.cells #[.int .i64 29, .string ⟨#[]⟩, .string ⟨#[]⟩, .int .u64 0, .slice (some ⟨b, o, none⟩) 2 c] 25)
  have hrow0 := heap_alloc_new w (.cells #[.int .i64 29, .string ⟨#[]⟩, .string ⟨#[]⟩, .int .u64 0, .slice (some ⟨b, o, none⟩) 2 c] 25)
  obtain ⟨w0, hw0⟩ : ∃ w0, w0 = w.alloc (.cells #[.int .i64 29, .string ⟨#[]⟩, .string ⟨#[]⟩, .int .u64 0, .slice (some ⟨b, o, none⟩) 2 c] 25) := ⟨_, rfl⟩
  rw [← hw0] at hb0 hrow0
  have hN0 : N ≤ w0.heap.size := Nat.le_trans hN hb0.size
  have hbl : b < w0.heap.size := Nat.lt_of_lt_of_le hbN hN0
  obtain ⟨x0, y0, hn0, d00, d01, d02, d03, d04⟩ := hkid w0 (Keep.of_below hb0 hN) 0 (by simp)
  simp only [List.getElem_cons_zero, List.getElem_cons_succ, Nat.zero_mul, Nat.add_zero, Nat.one_mul, Nat.reduceMul] at hn0 d00 d01 d02 d03 d04
  unfold nodeU at hn0
  obtain ⟨x1, y1, hn1, d10, d11, d12, d13, d14⟩ := hkid w0 (Keep.of_below hb0 hN) 1 (by simp)
  simp only [List.getElem_cons_zero, List.getElem_cons_succ, Nat.zero_mul, Nat.add_zero, Nat.one_mul, Nat.reduceMul] at hn1 d10 d11 d12 d13 d14
  unfold nodeU at hn1
  have HC0 : Hid (∀ W, Below w0.heap.size w0 W → Calls Tryz.prog 47 #[.agg #[.int .i64 a0.kind, .string a0.text, .string a0.more, .int .u64 a0.num, .slice x0 a0.kids.length y0]] W (UnP a0 W)) := Lib.hid fun W hb => nodeOf_PropertyKey h0 c0 _ W (hn0.keep (Keep.of_below hb hN0)) (Nat.le_trans hN0 hb.size)
  have HC1 : Hid (∀ W, Below w0.heap.size w0 W → Calls Tryz.prog 37 #[.agg #[.int .i64 a1.kind, .string a1.text, .string a1.more, .int .u64 a1.num, .slice x1 a1.kids.length y1]] W (OptIP a1 W)) := Lib.hid fun W hb => maybeExpression_any h1 c1 _ W (hn1.keep (Keep.of_below hb hN0)) (Nat.le_trans hN0 hb.size)
  have HEX := Lib.hid (fun W => exactly_any 29 ⟨#[]⟩ ⟨#[]⟩ 0 (some ⟨b, o, none⟩) 2 c 2 rfl W)
  have HROW := Lib.hid hrow0
  have HB0 := Lib.hid hb0
  have HS : Hid (∀ w', Below w0.heap.size w0 w' → w'.cell? ⟨w.heap.size, 4, none⟩ = some (.slice (some ⟨b, o, none⟩) 2 c) ∧ (w'.cell? ⟨b, o, none⟩ = some (.int .i64 a0.kind) ∧ w'.cell? ⟨b, o + 1, none⟩ = some (.string a0.text) ∧ w'.cell? ⟨b, o + 2, none⟩ = some (.string a0.more) ∧ w'.cell? ⟨b, o + 3, none⟩ = some (.int .u64 a0.num) ∧ w'.cell? ⟨b, o + 4, none⟩ = some (.slice x0 a0.kids.length y0)) ∧ (w'.cell? ⟨b, o + 5, none⟩ = some (.int .i64 a1.kind) ∧ w'.cell? ⟨b, o + 5 + 1, none⟩ = some (.string a1.text) ∧ w'.cell? ⟨b, o + 5 + 2, none⟩ = some (.string a1.more) ∧ w'.cell? ⟨b, o + 5 + 3, none⟩ = some (.int .u64 a1.num) ∧ w'.cell? ⟨b, o + 5 + 4, none⟩ = some (.slice x1 a1.kids.length y1))) := Lib.hid fun w' hb => by
    have hc : ∀ r i, r < w0.heap.size → w'.cell? ⟨r, i, none⟩ = w0.cell? ⟨r, i, none⟩ := fun r i hr => hb.cell (p := ⟨r, i, none⟩) hr
    have hx := (Array.getElem?_eq_some_iff.1 HROW.out).1
    exact ⟨(hc _ _ hx).trans (by rw [Lib.cell_of_heap HROW.out]; rfl), ⟨(hc _ _ hbl).trans d00, (hc _ _ hbl).trans d01, (hc _ _ hbl).trans d02, (hc _ _ hbl).trans d03, (hc _ _ hbl).trans d04⟩, ⟨(hc _ _ hbl).trans d10, (hc _ _ hbl).trans d11, (hc _ _ hbl).trans d12, (hc _ _ hbl).trans d13, (hc _ _ hbl).trans d14⟩⟩
  have HW0 := Lib.hid hw0
  clear hv hkid hb0 hrow0 hn0 d00 d01 d02 d03 d04 h0 c0 hn1 d10 d11 d12 d13 d14 h1 c1
  unfold nodeU
  go_enter Tryz.func23, Tryz.ntmps23
  go_wp2_with fail
  ((with_reducible refine (HEX.out _).mono ?_))
  rintro e wx ⟨rfl, hbx⟩
  rw [← HW0.out] at hbx
  clear hw0 HW0
  go_upto_region 89 with fail
  have hbxd : Below w0.heap.size w0 wx.drew := hbx.drew
  go_region_held3 (fun w' => w'.cell? ⟨w.heap.size, 4, none⟩ = some (.slice (some ⟨b, o, none⟩) 2 c) ∧ (w'.cell? ⟨b, o, none⟩ = some (.int .i64 a0.kind) ∧ w'.cell? ⟨b, o + 1, none⟩ = some (.string a0.text) ∧ w'.cell? ⟨b, o + 2, none⟩ = some (.string a0.more) ∧ w'.cell? ⟨b, o + 3, none⟩ = some (.int .u64 a0.num) ∧ w'.cell? ⟨b, o + 4, none⟩ = some (.slice x0 a0.kids.length y0)) ∧ (w'.cell? ⟨b, o + 5, none⟩ = some (.int .i64 a1.kind) ∧ w'.cell? ⟨b, o + 5 + 1, none⟩ = some (.string a1.text) ∧ w'.cell? ⟨b, o + 5 + 2, none⟩ = some (.string a1.more) ∧ w'.cell? ⟨b, o + 5 + 3, none⟩ = some (.int .u64 a1.num) ∧ w'.cell? ⟨b, o + 5 + 4, none⟩ = some (.slice x1 a1.kids.length y1))) (first | exact HS.out _ hbx | exact HS.out _ hbxd | exact HS.out _ hz1 | exact HS.out _ hz2 | go_keep) (first
    | (go_at_call 47; ((with_reducible refine (HC0.out _ hbxd).mono ?_)); rintro e w1 ⟨r0, rfl, hr0, hb1⟩; have hz1 : Below w0.heap.size w0 w1 := hbxd.trans (hb1.mono hbxd.size))
    | (go_at_call 37; ((with_reducible refine (HC1.out _ hz1).mono ?_)); rintro e w2 ⟨r1, he1, hr1, hb2⟩; have hf1 := he1.trans (congrArg Ending.returned (HOV.out r1)); subst hf1; clear he1; have hz2 : Below w0.heap.size w0 w2 := hz1.trans (hb2.mono hz1.size))
    | fail "none")
  all_goals
    have HBL := Lib.hid (HB0.out.trans (hz2.mono HB0.out.size))
    have HL0 := Lib.hid (Nat.le_trans HB0.out.size hbxd.size)
    have HR0 := Lib.hid hr0
    have HR1 := Lib.hid hr1
    have HB1 := Lib.hid hb1
    have HB2 := Lib.hid hb2
    clear hr0 hr1
    have HAL := Lib.hid ((Below.refl w2.heap.size w2).alloc (Nat.le_refl _) (.cells #[.pointer none, .slice none 0 0, .slice none 0 0, kv a0.kind r0, .slice none 0 0, .nilIface, .slice none 0 0] 195))
    have HROWN := Lib.hid (heap_alloc_new w2 (.cells #[.pointer none, .slice none 0 0, .slice none 0 0, kv a0.kind r0, .slice none 0 0, .nilIface, .slice none 0 0] 195))
    have HSZ := Lib.hid (alloc_size w2 (.cells #[.pointer none, .slice none 0 0, .slice none 0 0, kv a0.kind r0, .slice none 0 0, .nilIface, .slice none 0 0] 195))
    go_wp2
    go_ret
    exact ⟨w2.heap.size, rfl, .k29 a0 r0 (HR0.out.up (HB2.out.trans (HAL.out.mono HB2.out.size)) HL0.out) a1 r1 (fun hz => (HR1.out hz).up HAL.out (Nat.le_trans HL0.out HB1.out.size)) _ ⟨HBL.out.size, by rw [HSZ.out]; exact Nat.lt_succ_self _⟩ (by rw [HOV.out]; exact HROWN.out), HBL.out.trans (HAL.out.mono HBL.out.size)⟩

set_option maxHeartbeats 8000000 in
set_option maxRecDepth 100000 in
theorem un_k29_1 {N : Nat} (a0 : Tr) (h0 : UnH N a0) (c0 : (a0.kind = 33 ∨ a0.kind = 34)) (a1 : Tr) (h1 : a1.kind ≠ 0 → UnH N a1) (c1 : (a1.kind = 0 ∨ exprB a1.kind)) (hz1 : a1.kind ≠ 0) : UnH N (.mk 29 ⟨#[]⟩ ⟨#[]⟩ 0 [a0, a1]) := by
  intro v w hv hN
  have HOV : Hid (∀ r1 : Nat, ov a1.kind r1 = .iface (astP a1.kind) (.pointer (some ⟨r1, 0, none⟩))) := Lib.hid fun r => if_neg hz1
  clear hz1
  obtain ⟨k', t', m', n', ks', a, c, he, rfl⟩ := hv.form
  injection he with e1 e2 e3 e4 e5
  subst e1 e2 e3 e4 e5
  obtain ⟨b, o, rfl, hbN, hkid⟩ := hv.kidsAt (by simp)
  have hb0 := (Below.refl w.heap.size w).alloc (Nat.le_refl _) (.cells #[.int .i64 29, .string ⟨#[]⟩, .string ⟨#[]⟩, .int .u64 0, .slice (some ⟨b, o, none⟩) 2 c] 25)
  have hrow0 := heap_alloc_new w (.cells #[.int .i64 29, .string ⟨#[]⟩, .string ⟨#[]⟩, .int .u64 0, .slice (some ⟨b, o, none⟩) 2 c] 25)
  obtain ⟨w0, hw0⟩ : ∃ w0, w0 = w.alloc (.cells #[.int .i64 29, .string ⟨#[]⟩, .string ⟨#[]⟩, .int .u64 0, .slice (some ⟨b, o, none⟩) 2 c] 25) := ⟨_, rfl⟩
  rw [← hw0] at hb0 hrow0
  have hN0 : N ≤ w0.heap.size := Nat.le_trans hN hb0.size
  have hbl : b < w0.heap.size := Nat.lt_of_lt_of_le hbN hN0
  obtain ⟨x0, y0, hn0, d00, d01, d02, d03, d04⟩ := hkid w0 (Keep.of_below hb0 hN) 0 (by simp)
  simp only [List.getElem_cons_zero, List.getElem_cons_succ, Nat.zero_mul, Nat.add_zero, Nat.one_mul, Nat.reduceMul] at hn0 d00 d01 d02 d03 d04
  unfold nodeU at hn0
  obtain ⟨x1, y1, hn1, d10, d11, d12, d13, d14⟩ := hkid w0 (Keep.of_below hb0 hN) 1 (by simp)
  simp only [List.getElem_cons_zero, List.getElem_cons_succ, Nat.zero_mul, Nat.add_zero, Nat.one_mul, Nat.reduceMul] at hn1 d10 d11 d12 d13 d14
  unfold nodeU at hn1
  have HC0 : Hid (∀ W, Below w0.heap.size w0 W → Calls Tryz.prog 47 #[.agg #[.int .i64 a0.kind, .string a0.text, .string a0.more, .int .u64 a0.num, .slice x0 a0.kids.length y0]] W (UnP a0 W)) := Lib.hid fun W hb => nodeOf_PropertyKey h0 c0 _ W (hn0.keep (Keep.of_below hb hN0)) (Nat.le_trans hN0 hb.size)
  have HC1 : Hid (∀ W, Below w0.heap.size w0 W → Calls Tryz.prog 37 #[.agg #[.int .i64 a1.kind, .string a1.text, .string a1.more, .int .u64 a1.num, .slice x1 a1.kids.length y1]] W (OptIP a1 W)) := Lib.hid fun W hb => maybeExpression_any h1 c1 _ W (hn1.keep (Keep.of_below hb hN0)) (Nat.le_trans hN0 hb.size)
  have HEX := Lib.hid (fun W => exactly_any 29 ⟨#[]⟩ ⟨#[]⟩ 0 (some ⟨b, o, none⟩) 2 c 2 rfl W)
  have HROW := Lib.hid hrow0
  have HB0 := Lib.hid hb0
  have HS : Hid (∀ w', Below w0.heap.size w0 w' → w'.cell? ⟨w.heap.size, 4, none⟩ = some (.slice (some ⟨b, o, none⟩) 2 c) ∧ (w'.cell? ⟨b, o, none⟩ = some (.int .i64 a0.kind) ∧ w'.cell? ⟨b, o + 1, none⟩ = some (.string a0.text) ∧ w'.cell? ⟨b, o + 2, none⟩ = some (.string a0.more) ∧ w'.cell? ⟨b, o + 3, none⟩ = some (.int .u64 a0.num) ∧ w'.cell? ⟨b, o + 4, none⟩ = some (.slice x0 a0.kids.length y0)) ∧ (w'.cell? ⟨b, o + 5, none⟩ = some (.int .i64 a1.kind) ∧ w'.cell? ⟨b, o + 5 + 1, none⟩ = some (.string a1.text) ∧ w'.cell? ⟨b, o + 5 + 2, none⟩ = some (.string a1.more) ∧ w'.cell? ⟨b, o + 5 + 3, none⟩ = some (.int .u64 a1.num) ∧ w'.cell? ⟨b, o + 5 + 4, none⟩ = some (.slice x1 a1.kids.length y1))) := Lib.hid fun w' hb => by
    have hc : ∀ r i, r < w0.heap.size → w'.cell? ⟨r, i, none⟩ = w0.cell? ⟨r, i, none⟩ := fun r i hr => hb.cell (p := ⟨r, i, none⟩) hr
    have hx := (Array.getElem?_eq_some_iff.1 HROW.out).1
    exact ⟨(hc _ _ hx).trans (by rw [Lib.cell_of_heap HROW.out]; rfl), ⟨(hc _ _ hbl).trans d00, (hc _ _ hbl).trans d01, (hc _ _ hbl).trans d02, (hc _ _ hbl).trans d03, (hc _ _ hbl).trans d04⟩, ⟨(hc _ _ hbl).trans d10, (hc _ _ hbl).trans d11, (hc _ _ hbl).trans d12, (hc _ _ hbl).trans d13, (hc _ _ hbl).trans d14⟩⟩
  have HW0 := Lib.hid hw0
  clear hv hkid hb0 hrow0 hn0 d00 d01 d02 d03 d04 h0 c0 hn1 d10 d11 d12 d13 d14 h1 c1
  unfold nodeU
  go_enter Tryz.func23, Tryz.ntmps23
  go_wp2_with fail
  ((with_reducible refine (HEX.out _).mono ?_))
  rintro e wx ⟨rfl, hbx⟩
  rw [← HW0.out] at hbx
  clear hw0 HW0
  go_upto_region 89 with fail
  have hbxd : Below w0.heap.size w0 wx.drew := hbx.drew
  go_region_held3 (fun w' => w'.cell? ⟨w.heap.size, 4, none⟩ = some (.slice (some ⟨b, o, none⟩) 2 c) ∧ (w'.cell? ⟨b, o, none⟩ = some (.int .i64 a0.kind) ∧ w'.cell? ⟨b, o + 1, none⟩ = some (.string a0.text) ∧ w'.cell? ⟨b, o + 2, none⟩ = some (.string a0.more) ∧ w'.cell? ⟨b, o + 3, none⟩ = some (.int .u64 a0.num) ∧ w'.cell? ⟨b, o + 4, none⟩ = some (.slice x0 a0.kids.length y0)) ∧ (w'.cell? ⟨b, o + 5, none⟩ = some (.int .i64 a1.kind) ∧ w'.cell? ⟨b, o + 5 + 1, none⟩ = some (.string a1.text) ∧ w'.cell? ⟨b, o + 5 + 2, none⟩ = some (.string a1.more) ∧ w'.cell? ⟨b, o + 5 + 3, none⟩ = some (.int .u64 a1.num) ∧ w'.cell? ⟨b, o + 5 + 4, none⟩ = some (.slice x1 a1.kids.length y1))) (first | exact HS.out _ hbx | exact HS.out _ hbxd | exact HS.out _ hz1 | exact HS.out _ hz2 | go_keep) (first
    | (go_at_call 47; ((with_reducible refine (HC0.out _ hbxd).mono ?_)); rintro e w1 ⟨r0, rfl, hr0, hb1⟩; have hz1 : Below w0.heap.size w0 w1 := hbxd.trans (hb1.mono hbxd.size))
    | (go_at_call 37; ((with_reducible refine (HC1.out _ hz1).mono ?_)); rintro e w2 ⟨r1, he1, hr1, hb2⟩; have hf1 := he1.trans (congrArg Ending.returned (HOV.out r1)); subst hf1; clear he1; have hz2 : Below w0.heap.size w0 w2 := hz1.trans (hb2.mono hz1.size))
    | fail "none")
  all_goals
    have HBL := Lib.hid (HB0.out.trans (hz2.mono HB0.out.size))
    have HL0 := Lib.hid (Nat.le_trans HB0.out.size hbxd.size)
    have HR0 := Lib.hid hr0
    have HR1 := Lib.hid hr1
    have HB1 := Lib.hid hb1
    have HB2 := Lib.hid hb2
    clear hr0 hr1
    have HAL := Lib.hid ((Below.refl w2.heap.size w2).alloc (Nat.le_refl _) (.cells #[.pointer none, .slice none 0 0, .slice none 0 0, kv a0.kind r0, .slice none 0 0, .iface (astP a1.kind) (.pointer (some ⟨r1, 0, none⟩)), .slice none 0 0] 195))
    have HROWN := Lib.hid (heap_alloc_new w2 (.cells #[.pointer none, .slice none 0 0, .slice none 0 0, kv a0.kind r0, .slice none 0 0, .iface (astP a1.kind) (.pointer (some ⟨r1, 0, none⟩)), .slice none 0 0] 195))
    have HSZ := Lib.hid (alloc_size w2 (.cells #[.pointer none, .slice none 0 0, .slice none 0 0, kv a0.kind r0, .slice none 0 0, .iface (astP a1.kind) (.pointer (some ⟨r1, 0, none⟩)), .slice none 0 0] 195))
    go_wp2
    go_ret
    exact ⟨w2.heap.size, rfl, .k29 a0 r0 (HR0.out.up (HB2.out.trans (HAL.out.mono HB2.out.size)) HL0.out) a1 r1 (fun hz => (HR1.out hz).up HAL.out (Nat.le_trans HL0.out HB1.out.size)) _ ⟨HBL.out.size, by rw [HSZ.out]; exact Nat.lt_succ_self _⟩ (by rw [HOV.out]; exact HROWN.out), HBL.out.trans (HAL.out.mono HBL.out.size)⟩

theorem un_k29 {N : Nat} (a0 : Tr) (h0 : UnH N a0) (c0 : (a0.kind = 33 ∨ a0.kind = 34)) (a1 : Tr) (h1 : a1.kind ≠ 0 → UnH N a1) (c1 : (a1.kind = 0 ∨ exprB a1.kind)) : UnH N (.mk 29 ⟨#[]⟩ ⟨#[]⟩ 0 [a0, a1]) := by
  by_cases hz : a1.kind = 0
  · exact un_k29_0 a0 h0 c0 a1 h1 c1 hz
  · exact un_k29_1 a0 h0 c0 a1 h1 c1 hz


end Go.Proofs.YtkohgndmhgcgeaaGreatDoor
