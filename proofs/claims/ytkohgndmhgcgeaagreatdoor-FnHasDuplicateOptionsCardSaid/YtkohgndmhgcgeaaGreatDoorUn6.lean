/- impl.unnode over pipes, functions, files. -/
import Derived.Test.YtkohgndmhgcgeaaGreatDoorUn5
import Derived.Test.YtkohgndmhgcgeaaGreatDoorUn1
namespace Go.Proofs.YtkohgndmhgcgeaaGreatDoor
open Go Go.RowKit
set_option linter.unusedVariables false
set_option linter.unusedSimpArgs false


set_option maxHeartbeats 8000000 in
set_option maxRecDepth 100000 in
theorem un_k19 {N : Nat} (a0 : Tr) (h0 : UnH N a0) (c0 : exprB a0.kind) (a1 : Tr) (h1 : UnH N a1) (c1 : a1.kind = 16) : UnH N (.mk 19 ⟨#[]⟩ ⟨#[]⟩ 0 [a0, a1]) := by
  intro v w hv hN
  obtain ⟨k', t', m', n', ks', a, c, he, rfl⟩ := hv.form
  injection he with e1 e2 e3 e4 e5
  subst e1 e2 e3 e4 e5
  obtain ⟨b, o, rfl, hbN, hkid⟩ := hv.kidsAt (by simp)
  have hb0 := (Below.refl w.heap.size w).alloc (Nat.le_refl _) (.cells #[.int .i64 19, .string ⟨#[]⟩, .string ⟨#[]⟩, .int .u64 0, .slice (some ⟨b, o, none⟩) 2 c] 25)
  have hrow0 := heap_alloc_new w (.cells #[.int .i64 19, .string ⟨#[]⟩, .string ⟨#[]⟩, .int .u64 0, .slice (some ⟨b, o, none⟩) 2 c] 25)
  obtain ⟨w0, hw0⟩ : ∃ w0, w0 = w.alloc (.cells #[.int .i64 19, .string ⟨#[]⟩, .string ⟨#[]⟩, .int .u64 0, .slice (some ⟨b, o, none⟩) 2 c] 25) := ⟨_, rfl⟩
  rw [← hw0] at hb0 hrow0
  have hN0 : N ≤ w0.heap.size := Nat.le_trans hN hb0.size
  have hbl : b < w0.heap.size := Nat.lt_of_lt_of_le hbN hN0
  obtain ⟨x0, y0, hn0, d00, d01, d02, d03, d04⟩ := hkid w0 (Keep.of_below hb0 hN) 0 (by simp)
  simp only [List.getElem_cons_zero, List.getElem_cons_succ, Nat.zero_mul, Nat.add_zero, Nat.one_mul, Nat.reduceMul] at hn0 d00 d01 d02 d03 d04
  obtain ⟨x1, y1, hn1, d10, d11, d12, d13, d14⟩ := hkid w0 (Keep.of_below hb0 hN) 1 (by simp)
  simp only [List.getElem_cons_zero, List.getElem_cons_succ, Nat.zero_mul, Nat.add_zero, Nat.one_mul, Nat.reduceMul] at hn1 d10 d11 d12 d13 d14
  unfold nodeU at hn0 hn1
  have HC0 : Hid (∀ W, Below w0.heap.size w0 W → Calls Tryz.prog 44 #[.agg #[.int .i64 a0.kind, .string a0.text, .string a0.more, .int .u64 a0.num, .slice x0 a0.kids.length y0]] W (UnP a0 W)) := Lib.hid fun W hb => nodeOf_Expression h0 c0 _ W (hn0.keep (Keep.of_below hb hN0)) (Nat.le_trans hN0 hb.size)
  have HC1 : Hid (∀ W, Below w0.heap.size w0 W → Calls Tryz.prog 48 #[.agg #[.int .i64 a1.kind, .string a1.text, .string a1.more, .int .u64 a1.num, .slice x1 a1.kids.length y1]] W (PtrP a1 W)) := Lib.hid fun W hb => nodeOf_CallExpression h1 c1 _ W (hn1.keep (Keep.of_below hb hN0)) (Nat.le_trans hN0 hb.size)
  have hk1 : (a1.kind == 0) = false := beq_eq_false_iff_ne.2 (by omega)
  have HEX := Lib.hid (fun W => exactly_any 19 ⟨#[]⟩ ⟨#[]⟩ 0 (some ⟨b, o, none⟩) 2 c 2 rfl W)
  have HROW := Lib.hid hrow0
  have HB0 := Lib.hid hb0
  have HS : Hid (∀ w', Below w0.heap.size w0 w' → w'.cell? ⟨w.heap.size, 4, none⟩ = some (.slice (some ⟨b, o, none⟩) 2 c) ∧ (w'.cell? ⟨b, o, none⟩ = some (.int .i64 a0.kind) ∧ w'.cell? ⟨b, o + 1, none⟩ = some (.string a0.text) ∧ w'.cell? ⟨b, o + 2, none⟩ = some (.string a0.more) ∧ w'.cell? ⟨b, o + 3, none⟩ = some (.int .u64 a0.num) ∧ w'.cell? ⟨b, o + 4, none⟩ = some (.slice x0 a0.kids.length y0)) ∧ (w'.cell? ⟨b, o + 5, none⟩ = some (.int .i64 a1.kind) ∧ w'.cell? ⟨b, o + 5 + 1, none⟩ = some (.string a1.text) ∧ w'.cell? ⟨b, o + 5 + 2, none⟩ = some (.string a1.more) ∧ w'.cell? ⟨b, o + 5 + 3, none⟩ = some (.int .u64 a1.num) ∧ w'.cell? ⟨b, o + 5 + 4, none⟩ = some (.slice x1 a1.kids.length y1)) ∧ w'.cell? ⟨w.heap.size, 1, none⟩ = some (.string ⟨#[]⟩) ∧ w'.cell? ⟨w.heap.size, 2, none⟩ = some (.string ⟨#[]⟩)) := Lib.hid fun w' hb => by
    have hc : ∀ r i, r < w0.heap.size → w'.cell? ⟨r, i, none⟩ = w0.cell? ⟨r, i, none⟩ := fun r i hr => hb.cell (p := ⟨r, i, none⟩) hr
    have hx := (Array.getElem?_eq_some_iff.1 HROW.out).1
    exact ⟨(hc _ _ hx).trans (by rw [Lib.cell_of_heap HROW.out]; rfl), ⟨(hc _ _ hbl).trans d00, (hc _ _ hbl).trans d01, (hc _ _ hbl).trans d02, (hc _ _ hbl).trans d03, (hc _ _ hbl).trans d04⟩, ⟨(hc _ _ hbl).trans d10, (hc _ _ hbl).trans d11, (hc _ _ hbl).trans d12, (hc _ _ hbl).trans d13, (hc _ _ hbl).trans d14⟩, (hc _ _ hx).trans (by rw [Lib.cell_of_heap HROW.out]; rfl), (hc _ _ hx).trans (by rw [Lib.cell_of_heap HROW.out]; rfl)⟩
  have HW0 := Lib.hid hw0
  clear hv hkid hb0 hrow0 hn0 d00 d01 d02 d03 d04 hn1 d10 d11 d12 d13 d14 h0 c0 h1 c1
  unfold nodeU
  go_enter Tryz.func23, Tryz.ntmps23
  go_wp2_with fail
  ((with_reducible refine (HEX.out _).mono ?_))
  rintro e wx ⟨rfl, hbx⟩
  rw [← HW0.out] at hbx
  clear hw0 HW0
  obtain ⟨s4, ⟨d00, d01, d02, d03, d04⟩, ⟨d10, d11, d12, d13, d14⟩, s1, s2⟩ := HS.out _ hbx
  have HBX := Lib.hid hbx
  clear hbx
  go_wp2_with (go_at_call 44; ((with_reducible refine (HC0.out _ HBX.out).mono ?_)))
  rintro e w1 ⟨r0, rfl, hr0, hb1⟩
  have hz1 : Below w0.heap.size w0 w1 := HBX.out.trans (hb1.mono HBX.out.size)
  have hz2 : Below w0.heap.size w0 (w1.alloc (.cells #[.pointer none, .slice none 0 0, .slice none 0 0, kv a0.kind r0, .pointer none] 154)) := hz1.alloc hz1.size _
  have HR0 := Lib.hid hr0
  have HZ1 := Lib.hid hz1
  have HZ2 := Lib.hid hz2
  have HN1 := Lib.hid (heap_alloc_new w1 (.cells #[.pointer none, .slice none 0 0, .slice none 0 0, kv a0.kind r0, .pointer none] 154))
  have HSZ := Lib.hid (alloc_size w1 (.cells #[.pointer none, .slice none 0 0, .slice none 0 0, kv a0.kind r0, .pointer none] 154))
  have HB1 := Lib.hid hb1
  clear s4 s1 s2 d00 d01 d02 d03 d04 d10 d11 d12 d13 d14 hr0 hb1 hz1
  obtain ⟨s4, ⟨d00, d01, d02, d03, d04⟩, ⟨d10, d11, d12, d13, d14⟩, s1, s2⟩ := HS.out _ hz2
  clear hz2
  go_wp2_with (go_at_call 48; ((with_reducible refine (HC1.out _ HZ2.out).mono ?_)))
  rintro e w3 ⟨r1, rfl, hr1, hb3⟩
  have hlt1 : w1.heap.size < (w1.alloc (.cells #[.pointer none, .slice none 0 0, .slice none 0 0, kv a0.kind r0, .pointer none] 154)).heap.size := by rw [HSZ.out]; exact Nat.lt_succ_self _
  have hrow3 := (hb3.block _ hlt1).trans HN1.out
  have q4 : w3.cell? ⟨w1.heap.size, 4, none⟩ = some (.pointer none) := by rw [Lib.cell_of_heap hrow3]; rfl
  have y4 := Lib.frozen_of_heap hrow3 4
  have HROW3 := Lib.hid hrow3
  have HR1 := Lib.hid hr1
  have HB3 := Lib.hid hb3
  have HLT := Lib.hid hlt1
  clear hr1 hb3 hrow3 hlt1 s4 s1 s2 d00 d01 d02 d03 d04 d10 d11 d12 d13 d14
  go_wp2
  go_ret
  have hF3 : Below w0.heap.size w0 w3 := HZ2.out.trans (HB3.out.mono HZ2.out.size)
  have hup : Below w1.heap.size w1 w3 := ((Below.refl _ w1).alloc (Nat.le_refl _) (.cells #[.pointer none, .slice none 0 0, .slice none 0 0, kv a0.kind r0, .pointer none] 154)).trans (HB3.out.mono (Nat.le_of_lt HLT.out))
  have hlo : w.heap.size ≤ wx.heap.size := Nat.le_trans HB0.out.size HBX.out.size
  exact ⟨w1.heap.size, rfl, .k19 a0 r0 (HR0.out.setUp hup hlo (.inr (Nat.le_refl _))) a1 r1 (HR1.out.setUp (Below.refl _ w3) (Nat.le_trans HB0.out.size HZ2.out.size) (.inl HLT.out)) _ ⟨Nat.le_trans HB0.out.size HZ1.out.size, by rw [heap_set_size]; exact Nat.lt_of_lt_of_le HLT.out HB3.out.size⟩ (row_setG HROW3.out 4 (pp r1)), HB0.out.trans ((hF3.setCell (p := ⟨w1.heap.size, 4, none⟩) HZ1.out.size (pp r1)).mono HB0.out.size)⟩


set_option maxHeartbeats 8000000 in
set_option maxRecDepth 100000 in
theorem un_k20 {N : Nat} {l0 : List Tr} (h0 : ∀ x ∈ l0, UnH N x) (c0 : ∀ x ∈ l0, x.kind = 29) (e0 : l0.length ≤ 1000) (a1 : Tr) (h1 : UnH N a1) (c1 : (a1.kind = 6 ∨ exprB a1.kind)) : UnH N (.mk 20 ⟨#[]⟩ ⟨#[]⟩ 0 [.mk 1 ⟨#[]⟩ ⟨#[]⟩ 0 l0, a1]) := by
  intro v w hv hN
  obtain ⟨k', t', m', n', ks', a, c, he, rfl⟩ := hv.form
  injection he with e1 e2 e3 e4 e5
  subst e1 e2 e3 e4 e5
  obtain ⟨b, o, rfl, hbN, hkid⟩ := hv.kidsAt (by simp)
  have hb0 := (Below.refl w.heap.size w).alloc (Nat.le_refl _) (.cells #[.int .i64 20, .string ⟨#[]⟩, .string ⟨#[]⟩, .int .u64 0, .slice (some ⟨b, o, none⟩) 2 c] 25)
  have hrow0 := heap_alloc_new w (.cells #[.int .i64 20, .string ⟨#[]⟩, .string ⟨#[]⟩, .int .u64 0, .slice (some ⟨b, o, none⟩) 2 c] 25)
  obtain ⟨w0, hw0⟩ : ∃ w0, w0 = w.alloc (.cells #[.int .i64 20, .string ⟨#[]⟩, .string ⟨#[]⟩, .int .u64 0, .slice (some ⟨b, o, none⟩) 2 c] 25) := ⟨_, rfl⟩
  rw [← hw0] at hb0 hrow0
  have hN0 : N ≤ w0.heap.size := Nat.le_trans hN hb0.size
  have hbl : b < w0.heap.size := Nat.lt_of_lt_of_le hbN hN0
  obtain ⟨x0, y0, hn0, d00, d01, d02, d03, d04⟩ := hkid w0 (Keep.of_below hb0 hN) 0 (by simp)
  simp only [List.getElem_cons_zero, List.getElem_cons_succ, Nat.zero_mul, Nat.add_zero, Nat.one_mul, Nat.reduceMul, Tr.kind, Tr.text, Tr.more, Tr.num, Tr.kids] at hn0 d00 d01 d02 d03 d04
  obtain ⟨x1, y1, hn1, d10, d11, d12, d13, d14⟩ := hkid w0 (Keep.of_below hb0 hN) 1 (by simp)
  simp only [List.getElem_cons_zero, List.getElem_cons_succ, Nat.zero_mul, Nat.add_zero, Nat.one_mul, Nat.reduceMul] at hn1 d10 d11 d12 d13 d14
  unfold nodeU at hn1
  have HL0 : Hid (∀ W, Below w0.heap.size w0 W → Calls Tryz.prog 49 #[.slice x0 l0.length y0] W (ListP 159 valP l0 W)) := Lib.hid fun W hb => nodesOf_Property h0 c0 e0 x0 y0 W (Nat.le_trans hN0 hb.size) ((RowN.of hn0).keep (Keep.of_below hb hN0))
  have HC1 : Hid (∀ W, Below w0.heap.size w0 W → Calls Tryz.prog 23 #[.agg #[.int .i64 a1.kind, .string a1.text, .string a1.more, .int .u64 a1.num, .slice x1 a1.kids.length y1]] W (UnP a1 W)) := Lib.hid fun W hb => h1 _ W (hn1.keep (Keep.of_below hb hN0)) (Nat.le_trans hN0 hb.size)
  have HEX := Lib.hid (fun W => exactly_any 20 ⟨#[]⟩ ⟨#[]⟩ 0 (some ⟨b, o, none⟩) 2 c 2 rfl W)
  have HROW := Lib.hid hrow0
  have HB0 := Lib.hid hb0
  have HS : Hid (∀ w', Below w0.heap.size w0 w' → w'.cell? ⟨w.heap.size, 4, none⟩ = some (.slice (some ⟨b, o, none⟩) 2 c) ∧ w'.cell? ⟨b, o + 4, none⟩ = some (.slice x0 l0.length y0) ∧ (w'.cell? ⟨b, o + 5, none⟩ = some (.int .i64 a1.kind) ∧ w'.cell? ⟨b, o + 5 + 1, none⟩ = some (.string a1.text) ∧ w'.cell? ⟨b, o + 5 + 2, none⟩ = some (.string a1.more) ∧ w'.cell? ⟨b, o + 5 + 3, none⟩ = some (.int .u64 a1.num) ∧ w'.cell? ⟨b, o + 5 + 4, none⟩ = some (.slice x1 a1.kids.length y1)) ∧ w'.cell? ⟨w.heap.size, 1, none⟩ = some (.string ⟨#[]⟩) ∧ w'.cell? ⟨w.heap.size, 2, none⟩ = some (.string ⟨#[]⟩)) := Lib.hid fun w' hb => by
    have hc : ∀ r i, r < w0.heap.size → w'.cell? ⟨r, i, none⟩ = w0.cell? ⟨r, i, none⟩ := fun r i hr => hb.cell (p := ⟨r, i, none⟩) hr
    have hx := (Array.getElem?_eq_some_iff.1 HROW.out).1
    exact ⟨(hc _ _ hx).trans (by rw [Lib.cell_of_heap HROW.out]; rfl), (hc _ _ hbl).trans d04, ⟨(hc _ _ hbl).trans d10, (hc _ _ hbl).trans d11, (hc _ _ hbl).trans d12, (hc _ _ hbl).trans d13, (hc _ _ hbl).trans d14⟩, (hc _ _ hx).trans (by rw [Lib.cell_of_heap HROW.out]; rfl), (hc _ _ hx).trans (by rw [Lib.cell_of_heap HROW.out]; rfl)⟩
  have HW0 := Lib.hid hw0
  clear hv hkid hb0 hrow0 hn0 d00 d01 d02 d03 d04 hn1 d10 d11 d12 d13 d14 h0 c0 h1 c1
  unfold nodeU
  go_enter Tryz.func23, Tryz.ntmps23
  go_wp2_with fail
  ((with_reducible refine (HEX.out _).mono ?_))
  rintro e wx ⟨rfl, hbx⟩
  rw [← HW0.out] at hbx
  clear hw0 HW0
  go_upto_region 60 with fail
  have hbxd : Below w0.heap.size w0 wx.drew := hbx.drew
  go_region_held3 (fun w' => w'.cell? ⟨w.heap.size, 4, none⟩ = some (.slice (some ⟨b, o, none⟩) 2 c) ∧ w'.cell? ⟨b, o + 4, none⟩ = some (.slice x0 l0.length y0) ∧ (w'.cell? ⟨b, o + 5, none⟩ = some (.int .i64 a1.kind) ∧ w'.cell? ⟨b, o + 5 + 1, none⟩ = some (.string a1.text) ∧ w'.cell? ⟨b, o + 5 + 2, none⟩ = some (.string a1.more) ∧ w'.cell? ⟨b, o + 5 + 3, none⟩ = some (.int .u64 a1.num) ∧ w'.cell? ⟨b, o + 5 + 4, none⟩ = some (.slice x1 a1.kids.length y1)) ∧ w'.cell? ⟨w.heap.size, 1, none⟩ = some (.string ⟨#[]⟩) ∧ w'.cell? ⟨w.heap.size, 2, none⟩ = some (.string ⟨#[]⟩)) (first | exact HS.out _ hbx | exact HS.out _ hbxd | exact HS.out _ hz1 | exact HS.out _ hz2 | go_keep) (first
    | (go_at_call 49; ((with_reducible refine (HL0.out _ hbxd).mono ?_)); rintro e w1 ⟨s, a5, c5, rfl, hq, hb1⟩; have hz1 : Below w0.heap.size w0 w1 := hbxd.trans (hb1.mono hbxd.size))
    | (go_at_call 23; ((with_reducible refine (HC1.out _ hz1).mono ?_)); rintro e w2 ⟨r1, rfl, hr1, hb2⟩; have hz2 : Below w0.heap.size w0 w2 := hz1.trans (hb2.mono hz1.size))
    | fail "none")
  all_goals
    have HBL := Lib.hid (HB0.out.trans (hz2.mono HB0.out.size))
    have HL := Lib.hid (Nat.le_trans HB0.out.size hbxd.size)
    have HLZ := Lib.hid (Nat.le_trans HB0.out.size hz1.size)
    have HQ := Lib.hid hq
    have HR1 := Lib.hid hr1
    have HB2 := Lib.hid hb2
    clear hq hr1
    have HAL := Lib.hid ((Below.refl w2.heap.size w2).alloc (Nat.le_refl _) (.cells #[.pointer none, .slice none 0 0, .slice none 0 0, .slice none 0 0, .slice a5 l0.length c5, .slice none 0 0, .slice none 0 0, kv a1.kind r1] 161))
    have HROWN := Lib.hid (heap_alloc_new w2 (.cells #[.pointer none, .slice none 0 0, .slice none 0 0, .slice none 0 0, .slice a5 l0.length c5, .slice none 0 0, .slice none 0 0, kv a1.kind r1] 161))
    have HSZ := Lib.hid (alloc_size w2 (.cells #[.pointer none, .slice none 0 0, .slice none 0 0, .slice none 0 0, .slice a5 l0.length c5, .slice none 0 0, .slice none 0 0, kv a1.kind r1] 161))
    go_wp2
    go_ret
    have HU := HQ.out.up (HB2.out.trans (HAL.out.mono HB2.out.size)) HL.out
    exact ⟨w2.heap.size, rfl, .k20 l0 s HU.len _ HU.row HU.kids a1 r1 (HR1.out.up HAL.out HLZ.out) _ ⟨HBL.out.size, by rw [HSZ.out]; exact Nat.lt_succ_self _⟩ HROWN.out, HBL.out.trans (HAL.out.mono HBL.out.size)⟩


set_option maxHeartbeats 8000000 in
set_option maxRecDepth 100000 in
theorem un_k3 {N : Nat} (t m : ByteArray) (a0 : Tr) (h0 : a0.kind ≠ 0 → UnH N a0) (c0 : (a0.kind = 4 ∨ a0.kind = 0)) {l1 : List Tr} (h1 : ∀ x ∈ l1, UnH N x) (c1 : ∀ x ∈ l1, x.kind = 5) (e1 : l1.length ≤ 1000) {l2 : List Tr} (h2 : ∀ x ∈ l2, UnH N x) (c2 : ∀ x ∈ l2, (stmtB x.kind ∧ x.kind ≠ 13)) (e2 : l2.length ≤ 1000) : UnH N (.mk 3 t m 0 [a0, .mk 1 ⟨#[]⟩ ⟨#[]⟩ 0 l1, .mk 1 ⟨#[]⟩ ⟨#[]⟩ 0 l2]) := by
  intro v w hv hN
  obtain ⟨k', t', m', n', ks', a, c, he, rfl⟩ := hv.form
  injection he with e1 e2 e3 e4 e5
  subst e1 e2 e3 e4 e5
  obtain ⟨b, o, rfl, hbN, hkid⟩ := hv.kidsAt (by simp)
  have hb0 := (Below.refl w.heap.size w).alloc (Nat.le_refl _) (.cells #[.int .i64 3, .string t, .string m, .int .u64 0, .slice (some ⟨b, o, none⟩) 3 c] 25)
  have hrow0 := heap_alloc_new w (.cells #[.int .i64 3, .string t, .string m, .int .u64 0, .slice (some ⟨b, o, none⟩) 3 c] 25)
  obtain ⟨w0, hw0⟩ : ∃ w0, w0 = w.alloc (.cells #[.int .i64 3, .string t, .string m, .int .u64 0, .slice (some ⟨b, o, none⟩) 3 c] 25) := ⟨_, rfl⟩
  rw [← hw0] at hb0 hrow0
  have hN0 : N ≤ w0.heap.size := Nat.le_trans hN hb0.size
  have hbl : b < w0.heap.size := Nat.lt_of_lt_of_le hbN hN0
  obtain ⟨x0, y0, hn0, d00, d01, d02, d03, d04⟩ := hkid w0 (Keep.of_below hb0 hN) 0 (by simp)
  simp only [List.getElem_cons_zero, List.getElem_cons_succ, Nat.zero_mul, Nat.add_zero, Nat.one_mul, Nat.reduceMul] at hn0 d00 d01 d02 d03 d04
  obtain ⟨x1, y1, hn1, d10, d11, d12, d13, d14⟩ := hkid w0 (Keep.of_below hb0 hN) 1 (by simp)
  simp only [List.getElem_cons_zero, List.getElem_cons_succ, Nat.zero_mul, Nat.add_zero, Nat.one_mul, Nat.reduceMul, Tr.kind, Tr.text, Tr.more, Tr.num, Tr.kids] at hn1 d10 d11 d12 d13 d14
  obtain ⟨x2, y2, hn2, d20, d21, d22, d23, d24⟩ := hkid w0 (Keep.of_below hb0 hN) 2 (by simp)
  simp only [List.getElem_cons_zero, List.getElem_cons_succ, Nat.zero_mul, Nat.add_zero, Nat.one_mul, Nat.reduceMul, Tr.kind, Tr.text, Tr.more, Tr.num, Tr.kids] at hn2 d20 d21 d22 d23 d24
  unfold nodeU at hn0
  have HL1 : Hid (∀ W, Below w0.heap.size w0 W → Calls Tryz.prog 31 #[.slice x1 l1.length y1] W (ListP 91 valP l1 W)) := Lib.hid fun W hb => nodesOf_ImportDeclaration h1 c1 e1 x1 y1 W (Nat.le_trans hN0 hb.size) ((RowN.of hn1).keep (Keep.of_below hb hN0))
  have HL2 : Hid (∀ W, Below w0.heap.size w0 W → Calls Tryz.prog 32 #[.slice x2 l2.length y2] W (ListP 55 valI l2 W)) := Lib.hid fun W hb => nodesOf_Statement h2 c2 e2 x2 y2 W (Nat.le_trans hN0 hb.size) ((RowN.of hn2).keep (Keep.of_below hb hN0))
  have HC0 : Hid (a0.kind ≠ 0 → ∀ W, Below w0.heap.size w0 W → Calls Tryz.prog 33 #[.agg #[.int .i64 a0.kind, .string a0.text, .string a0.more, .int .u64 a0.num, .slice x0 a0.kids.length y0]] W (PtrP a0 W)) := Lib.hid fun hz W hb => nodeOf_PackageClause (h0 hz) (c0.resolve_right hz) _ W (hn0.keep (Keep.of_below hb hN0)) (Nat.le_trans hN0 hb.size)
  have HEX := Lib.hid (fun W => exactly_any 3 t m 0 (some ⟨b, o, none⟩) 3 c 3 rfl W)
  have HROW := Lib.hid hrow0
  have HB0 := Lib.hid hb0
  have HS : Hid (∀ w', Below w0.heap.size w0 w' → w'.cell? ⟨w.heap.size, 4, none⟩ = some (.slice (some ⟨b, o, none⟩) 3 c) ∧ (w'.cell? ⟨b, o, none⟩ = some (.int .i64 a0.kind) ∧ w'.cell? ⟨b, o + 1, none⟩ = some (.string a0.text) ∧ w'.cell? ⟨b, o + 2, none⟩ = some (.string a0.more) ∧ w'.cell? ⟨b, o + 3, none⟩ = some (.int .u64 a0.num) ∧ w'.cell? ⟨b, o + 4, none⟩ = some (.slice x0 a0.kids.length y0)) ∧ w'.cell? ⟨b, o + 5 + 4, none⟩ = some (.slice x1 l1.length y1) ∧ w'.cell? ⟨b, o + 10 + 4, none⟩ = some (.slice x2 l2.length y2) ∧ w'.cell? ⟨w.heap.size, 1, none⟩ = some (.string t) ∧ w'.cell? ⟨w.heap.size, 2, none⟩ = some (.string m)) := Lib.hid fun w' hb => by
    have hc : ∀ r i, r < w0.heap.size → w'.cell? ⟨r, i, none⟩ = w0.cell? ⟨r, i, none⟩ := fun r i hr => hb.cell (p := ⟨r, i, none⟩) hr
    have hx := (Array.getElem?_eq_some_iff.1 HROW.out).1
    exact ⟨(hc _ _ hx).trans (by rw [Lib.cell_of_heap HROW.out]; rfl), ⟨(hc _ _ hbl).trans d00, (hc _ _ hbl).trans d01, (hc _ _ hbl).trans d02, (hc _ _ hbl).trans d03, (hc _ _ hbl).trans d04⟩, (hc _ _ hbl).trans d14, (hc _ _ hbl).trans d24, (hc _ _ hx).trans (by rw [Lib.cell_of_heap HROW.out]; rfl), (hc _ _ hx).trans (by rw [Lib.cell_of_heap HROW.out]; rfl)⟩
  have HW0 := Lib.hid hw0
  clear hv hkid hb0 hrow0 hn0 d00 d01 d02 d03 d04 hn1 d10 d11 d12 d13 d14 hn2 d20 d21 d22 d23 d24 h0 h1 c1 h2 c2
  unfold nodeU
  go_enter Tryz.func23, Tryz.ntmps23
  go_wp2_with fail
  ((with_reducible refine (HEX.out _).mono ?_))
  rintro e wx ⟨rfl, hbx⟩
  rw [← HW0.out] at hbx
  clear hw0 HW0
  go_upto_region 6 with fail
  have hbxd : Below w0.heap.size w0 wx.drew := hbx.drew
  go_region_held3 (fun w' => w'.cell? ⟨w.heap.size, 4, none⟩ = some (.slice (some ⟨b, o, none⟩) 3 c) ∧ (w'.cell? ⟨b, o, none⟩ = some (.int .i64 a0.kind) ∧ w'.cell? ⟨b, o + 1, none⟩ = some (.string a0.text) ∧ w'.cell? ⟨b, o + 2, none⟩ = some (.string a0.more) ∧ w'.cell? ⟨b, o + 3, none⟩ = some (.int .u64 a0.num) ∧ w'.cell? ⟨b, o + 4, none⟩ = some (.slice x0 a0.kids.length y0)) ∧ w'.cell? ⟨b, o + 5 + 4, none⟩ = some (.slice x1 l1.length y1) ∧ w'.cell? ⟨b, o + 10 + 4, none⟩ = some (.slice x2 l2.length y2) ∧ w'.cell? ⟨w.heap.size, 1, none⟩ = some (.string t) ∧ w'.cell? ⟨w.heap.size, 2, none⟩ = some (.string m)) (first | exact HS.out _ hbx | exact HS.out _ hbxd | exact HS.out _ hz1 | exact HS.out _ hz2 | go_keep) (first
    | (go_at_call 31; ((with_reducible refine (HL1.out _ hbxd).mono ?_)); rintro e w1 ⟨s1', a5, c5, rfl, hq1, hb1⟩; have hz1 : Below w0.heap.size w0 w1 := hbxd.trans (hb1.mono hbxd.size))
    | (go_at_call 32; ((with_reducible refine (HL2.out _ hz1).mono ?_)); rintro e w2 ⟨s2', a6, c6, rfl, hq2, hb2⟩; have hz2 : Below w0.heap.size w0 w2 := hz1.trans (hb2.mono hz1.size))
    | fail "none")
  all_goals
    have HZ2 := Lib.hid hz2
    have HLX := Lib.hid (Nat.le_trans HB0.out.size hbxd.size)
    have HLZ := Lib.hid (Nat.le_trans HB0.out.size hz1.size)
    have HQ1 := Lib.hid hq1
    have HQ2 := Lib.hid hq2
    have HB2 := Lib.hid hb2
    have HAL := Lib.hid ((Below.refl w2.heap.size w2).alloc (Nat.le_refl _) (.cells #[.pointer none, .slice none 0 0, .slice none 0 0, .string t, .string m, .pointer none, .slice a5 l1.length c5, .slice a6 l2.length c6, .slice none 0 0] 53))
    have HROWN := Lib.hid (heap_alloc_new w2 (.cells #[.pointer none, .slice none 0 0, .slice none 0 0, .string t, .string m, .pointer none, .slice a5 l1.length c5, .slice a6 l2.length c6, .slice none 0 0] 53))
    have HSZ := Lib.hid (alloc_size w2 (.cells #[.pointer none, .slice none 0 0, .slice none 0 0, .string t, .string m, .pointer none, .slice a5 l1.length c5, .slice a6 l2.length c6, .slice none 0 0] 53))
    have hz3 : Below w0.heap.size w0 (w2.alloc (.cells #[.pointer none, .slice none 0 0, .slice none 0 0, .string t, .string m, .pointer none, .slice a5 l1.length c5, .slice a6 l2.length c6, .slice none 0 0] 53)) := hz2.alloc hz2.size _
    have HZ3 := Lib.hid hz3
    clear hq1 hq2 hz1 hz2 hbxd hbx
    obtain ⟨s4, ⟨d00, d01, d02, d03, d04⟩, d14, d24, s1, s2⟩ := HS.out _ hz3
    clear hz3
    by_cases hz : a0.kind = 0
    · have d00z : (w2.alloc (.cells #[.pointer none, .slice none 0 0, .slice none 0 0, .string t, .string m, .pointer none, .slice a5 l1.length c5, .slice a6 l2.length c6, .slice none 0 0] 53)).cell? ⟨b, o, none⟩ = some (.int .i64 0) := by rw [← hz]; exact d00
      clear d00
      go_wp2
      go_ret
      have HU1 := HQ1.out.up (HB2.out.trans (HAL.out.mono HB2.out.size)) HLX.out
      have HU2 := HQ2.out.up HAL.out HLZ.out
      exact ⟨w2.heap.size, rfl, .k3 t m a0 0 (fun h => absurd hz h) l1 s1' HU1.len _ HU1.row HU1.kids l2 s2' HU2.len _ HU2.row HU2.kids _ ⟨Nat.le_trans HB0.out.size HZ2.out.size, by rw [HSZ.out]; exact Nat.lt_succ_self _⟩ (by rw [hz]; exact HROWN.out), HB0.out.trans (HZ3.out.mono HB0.out.size)⟩
    · have hzb : (a0.kind == 0) = false := beq_eq_false_iff_ne.2 hz
      have HCC := Lib.hid (HC0.out hz _ HZ3.out)
      go_wp2_with (go_at_call 33; ((with_reducible refine HCC.out.mono ?_)))
      rintro e w4 ⟨r0, rfl, hr0, hb4⟩
      have hlt2 : w2.heap.size < (w2.alloc (.cells #[.pointer none, .slice none 0 0, .slice none 0 0, .string t, .string m, .pointer none, .slice a5 l1.length c5, .slice a6 l2.length c6, .slice none 0 0] 53)).heap.size := by rw [HSZ.out]; exact Nat.lt_succ_self _
      have hrow4 := (hb4.block _ hlt2).trans HROWN.out
      have q5 : w4.cell? ⟨w2.heap.size, 5, none⟩ = some (.pointer none) := by rw [Lib.cell_of_heap hrow4]; rfl
      have y5 := Lib.frozen_of_heap hrow4 5
      have HROW4 := Lib.hid hrow4
      have HR0 := Lib.hid hr0
      have HB4 := Lib.hid hb4
      have HLT := Lib.hid hlt2
      clear hr0 hb4 hrow4 hlt2 s4 s1 s2 d00 d01 d02 d03 d04 d14 d24
      go_wp2
      go_ret
      have hup2 : Below w2.heap.size w2 w4 := HAL.out.trans (HB4.out.mono HAL.out.size)
      have HU1 := HQ1.out.setUp (g := w2.heap.size) (i := 5) (x := pp r0) (HB2.out.trans (hup2.mono HB2.out.size)) HLX.out (.inr HB2.out.size)
      have HU2 := HQ2.out.setUp (g := w2.heap.size) (i := 5) (x := pp r0) hup2 HLZ.out (.inr (Nat.le_refl _))
      have hF4 : Below w0.heap.size w0 w4 := HZ3.out.trans (HB4.out.mono HZ3.out.size)
      exact ⟨w2.heap.size, rfl, .k3 t m a0 r0 (fun _ => HR0.out.setUp (Below.refl _ w4) (Nat.le_trans HB0.out.size HZ3.out.size) (.inl HLT.out)) l1 s1' HU1.len _ HU1.row HU1.kids l2 s2' HU2.len _ HU2.row HU2.kids _ ⟨Nat.le_trans HB0.out.size HZ2.out.size, by rw [heap_set_size]; exact Nat.lt_of_lt_of_le HLT.out HB4.out.size⟩ (by unfold op; rw [if_neg hz]; exact row_setG HROW4.out 5 (pp r0)), HB0.out.trans ((hF4.setCell (p := ⟨w2.heap.size, 5, none⟩) HZ2.out.size (pp r0)).mono HB0.out.size)⟩


end Go.Proofs.YtkohgndmhgcgeaaGreatDoor
