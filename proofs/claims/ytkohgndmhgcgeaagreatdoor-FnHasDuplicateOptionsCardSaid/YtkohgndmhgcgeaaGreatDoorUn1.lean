/- impl.unnode over kinds of a few nodes. -/
import Derived.Test.YtkohgndmhgcgeaaGreatDoorUn0
namespace Go.Proofs.YtkohgndmhgcgeaaGreatDoor
open Go Go.RowKit
set_option linter.unusedVariables false
set_option linter.unusedSimpArgs false

theorem maybeExpr_some {N : Nat} {tr : Tr} (h : UnH N tr) (hk : exprB tr.kind) (v : Value) (w : World) (hv : NodeIn w (· < N) tr v) (hN : N ≤ w.heap.size) :
    Calls Tryz.prog 37 #[v] w (UnP tr w) := by
  have h0 : tr.kind ≠ 0 := by unfold exprB at hk; omega
  refine (maybeExpression_any (fun _ => h) (.inr hk) v w hv hN).mono ?_
  rintro e w' ⟨r, rfl, hr, hb⟩
  exact ⟨r, by rw [ov, if_neg h0], hr h0, hb⟩


set_option maxHeartbeats 8000000 in
set_option maxRecDepth 100000 in
theorem un_k4 {N : Nat} (a0 : Tr) (h0 : UnH N a0) (c0 : a0.kind = 33) : UnH N (.mk 4 ⟨#[]⟩ ⟨#[]⟩ 0 [a0]) := by
  intro v w hv hN
  obtain ⟨k', t', m', n', ks', a, c, he, rfl⟩ := hv.form
  injection he with e1 e2 e3 e4 e5
  subst e1 e2 e3 e4 e5
  obtain ⟨b, o, rfl, hbN, hkid⟩ := hv.kidsAt (by simp)
  have hb0 := (Below.refl w.heap.size w).alloc (Nat.le_refl _) (.cells #[.int .i64 4, .string ⟨#[]⟩, .string ⟨#[]⟩, .int .u64 0, .slice (some ⟨b, o, none⟩) 1 c] 25)
  have hrow0 := heap_alloc_new w (.cells #[.int .i64 4, .string ⟨#[]⟩, .string ⟨#[]⟩, .int .u64 0, .slice (some ⟨b, o, none⟩) 1 c] 25)
  obtain ⟨w0, hw0⟩ : ∃ w0, w0 = w.alloc (.cells #[.int .i64 4, .string ⟨#[]⟩, .string ⟨#[]⟩, .int .u64 0, .slice (some ⟨b, o, none⟩) 1 c] 25) := ⟨_, rfl⟩
  rw [← hw0] at hb0 hrow0
  have hN0 : N ≤ w0.heap.size := Nat.le_trans hN hb0.size
  have hbl : b < w0.heap.size := Nat.lt_of_lt_of_le hbN hN0
  obtain ⟨x0, y0, hn0, d00, d01, d02, d03, d04⟩ := hkid w0 (Keep.of_below hb0 hN) 0 (by simp)
  simp only [List.getElem_cons_zero, List.getElem_cons_succ, Nat.zero_mul, Nat.add_zero, Nat.one_mul, Nat.reduceMul] at hn0 d00 d01 d02 d03 d04
  unfold nodeU at hn0
  have HC0 : Hid (∀ W, Below w0.heap.size w0 W → Calls Tryz.prog 34 #[.agg #[.int .i64 a0.kind, .string a0.text, .string a0.more, .int .u64 a0.num, .slice x0 a0.kids.length y0]] W (PtrP a0 W)) := Lib.hid fun W hb => nodeOf_Identifier h0 c0 _ W (hn0.keep (Keep.of_below hb hN0)) (Nat.le_trans hN0 hb.size)
  have HEX := Lib.hid (fun W => exactly_any 4 ⟨#[]⟩ ⟨#[]⟩ 0 (some ⟨b, o, none⟩) 1 c 1 rfl W)
  have HROW := Lib.hid hrow0
  have HB0 := Lib.hid hb0
  have HS : Hid (∀ w', Below w0.heap.size w0 w' → w'.cell? ⟨w.heap.size, 4, none⟩ = some (.slice (some ⟨b, o, none⟩) 1 c) ∧ (w'.cell? ⟨b, o, none⟩ = some (.int .i64 a0.kind) ∧ w'.cell? ⟨b, o + 1, none⟩ = some (.string a0.text) ∧ w'.cell? ⟨b, o + 2, none⟩ = some (.string a0.more) ∧ w'.cell? ⟨b, o + 3, none⟩ = some (.int .u64 a0.num) ∧ w'.cell? ⟨b, o + 4, none⟩ = some (.slice x0 a0.kids.length y0))) := Lib.hid fun w' hb => by
    have hc : ∀ r i, r < w0.heap.size → w'.cell? ⟨r, i, none⟩ = w0.cell? ⟨r, i, none⟩ := fun r i hr => hb.cell (p := ⟨r, i, none⟩) hr
    have hx := (Array.getElem?_eq_some_iff.1 HROW.out).1
    exact ⟨(hc _ _ hx).trans (by rw [Lib.cell_of_heap HROW.out]; rfl), ⟨(hc _ _ hbl).trans d00, (hc _ _ hbl).trans d01, (hc _ _ hbl).trans d02, (hc _ _ hbl).trans d03, (hc _ _ hbl).trans d04⟩⟩
  have HW0 := Lib.hid hw0
  clear hv hkid hb0 hrow0 hn0 d00 d01 d02 d03 d04 h0 c0
  unfold nodeU
  go_enter Tryz.func23, Tryz.ntmps23
  go_wp2_with fail
  ((with_reducible refine (HEX.out _).mono ?_))
  rintro e wx ⟨rfl, hbx⟩
  rw [← HW0.out] at hbx
  clear hw0 HW0
  obtain ⟨s4, ⟨d00, d01, d02, d03, d04⟩⟩ := HS.out _ hbx
  have HBX := Lib.hid hbx
  clear hbx
  go_wp2_with (go_at_call 34; ((with_reducible refine (HC0.out _ HBX.out).mono ?_)))
  rintro e w1 ⟨r0, rfl, hr0, hb1⟩
  have HR0 := Lib.hid hr0
  have HB1 := Lib.hid hb1
  have HBL := Lib.hid (HB0.out.trans ((HBX.out.trans (hb1.mono HBX.out.size)).mono HB0.out.size))
  have HL0 := Lib.hid (Nat.le_trans HB0.out.size HBX.out.size)
  clear hr0 hb1
  have HAL := Lib.hid ((Below.refl w1.heap.size w1).alloc (Nat.le_refl _) (.cells #[.pointer none, .slice none 0 0, .slice none 0 0, pp r0] 96))
  have HROWN := Lib.hid (heap_alloc_new w1 (.cells #[.pointer none, .slice none 0 0, .slice none 0 0, pp r0] 96))
  have HSZ := Lib.hid (alloc_size w1 (.cells #[.pointer none, .slice none 0 0, .slice none 0 0, pp r0] 96))
  go_wp2
  go_ret
  exact ⟨w1.heap.size, rfl, .k4 a0 r0 (HR0.out.up HAL.out HL0.out) _ ⟨HBL.out.size, by rw [HSZ.out]; exact Nat.lt_succ_self _⟩ HROWN.out, HBL.out.trans (HAL.out.mono HBL.out.size)⟩


set_option maxHeartbeats 8000000 in
set_option maxRecDepth 100000 in
theorem un_k8 {N : Nat} (a0 : Tr) (h0 : UnH N a0) (c0 : exprB a0.kind) : UnH N (.mk 8 ⟨#[]⟩ ⟨#[]⟩ 0 [a0]) := by
  intro v w hv hN
  obtain ⟨k', t', m', n', ks', a, c, he, rfl⟩ := hv.form
  injection he with e1 e2 e3 e4 e5
  subst e1 e2 e3 e4 e5
  obtain ⟨b, o, rfl, hbN, hkid⟩ := hv.kidsAt (by simp)
  have hb0 := (Below.refl w.heap.size w).alloc (Nat.le_refl _) (.cells #[.int .i64 8, .string ⟨#[]⟩, .string ⟨#[]⟩, .int .u64 0, .slice (some ⟨b, o, none⟩) 1 c] 25)
  have hrow0 := heap_alloc_new w (.cells #[.int .i64 8, .string ⟨#[]⟩, .string ⟨#[]⟩, .int .u64 0, .slice (some ⟨b, o, none⟩) 1 c] 25)
  obtain ⟨w0, hw0⟩ : ∃ w0, w0 = w.alloc (.cells #[.int .i64 8, .string ⟨#[]⟩, .string ⟨#[]⟩, .int .u64 0, .slice (some ⟨b, o, none⟩) 1 c] 25) := ⟨_, rfl⟩
  rw [← hw0] at hb0 hrow0
  have hN0 : N ≤ w0.heap.size := Nat.le_trans hN hb0.size
  have hbl : b < w0.heap.size := Nat.lt_of_lt_of_le hbN hN0
  obtain ⟨x0, y0, hn0, d00, d01, d02, d03, d04⟩ := hkid w0 (Keep.of_below hb0 hN) 0 (by simp)
  simp only [List.getElem_cons_zero, List.getElem_cons_succ, Nat.zero_mul, Nat.add_zero, Nat.one_mul, Nat.reduceMul] at hn0 d00 d01 d02 d03 d04
  unfold nodeU at hn0
  have HC0 : Hid (∀ W, Below w0.heap.size w0 W → Calls Tryz.prog 37 #[.agg #[.int .i64 a0.kind, .string a0.text, .string a0.more, .int .u64 a0.num, .slice x0 a0.kids.length y0]] W (UnP a0 W)) := Lib.hid fun W hb => maybeExpr_some h0 c0 _ W (hn0.keep (Keep.of_below hb hN0)) (Nat.le_trans hN0 hb.size)
  have HEX := Lib.hid (fun W => exactly_any 8 ⟨#[]⟩ ⟨#[]⟩ 0 (some ⟨b, o, none⟩) 1 c 1 rfl W)
  have HROW := Lib.hid hrow0
  have HB0 := Lib.hid hb0
  have HS : Hid (∀ w', Below w0.heap.size w0 w' → w'.cell? ⟨w.heap.size, 4, none⟩ = some (.slice (some ⟨b, o, none⟩) 1 c) ∧ (w'.cell? ⟨b, o, none⟩ = some (.int .i64 a0.kind) ∧ w'.cell? ⟨b, o + 1, none⟩ = some (.string a0.text) ∧ w'.cell? ⟨b, o + 2, none⟩ = some (.string a0.more) ∧ w'.cell? ⟨b, o + 3, none⟩ = some (.int .u64 a0.num) ∧ w'.cell? ⟨b, o + 4, none⟩ = some (.slice x0 a0.kids.length y0))) := Lib.hid fun w' hb => by
    have hc : ∀ r i, r < w0.heap.size → w'.cell? ⟨r, i, none⟩ = w0.cell? ⟨r, i, none⟩ := fun r i hr => hb.cell (p := ⟨r, i, none⟩) hr
    have hx := (Array.getElem?_eq_some_iff.1 HROW.out).1
    exact ⟨(hc _ _ hx).trans (by rw [Lib.cell_of_heap HROW.out]; rfl), ⟨(hc _ _ hbl).trans d00, (hc _ _ hbl).trans d01, (hc _ _ hbl).trans d02, (hc _ _ hbl).trans d03, (hc _ _ hbl).trans d04⟩⟩
  have HW0 := Lib.hid hw0
  clear hv hkid hb0 hrow0 hn0 d00 d01 d02 d03 d04 h0 c0
  unfold nodeU
  go_enter Tryz.func23, Tryz.ntmps23
  go_wp2_with fail
  ((with_reducible refine (HEX.out _).mono ?_))
  rintro e wx ⟨rfl, hbx⟩
  rw [← HW0.out] at hbx
  clear hw0 HW0
  obtain ⟨s4, ⟨d00, d01, d02, d03, d04⟩⟩ := HS.out _ hbx
  have HBX := Lib.hid hbx
  clear hbx
  go_wp2_with (go_at_call 37; ((with_reducible refine (HC0.out _ HBX.out).mono ?_)))
  rintro e w1 ⟨r0, rfl, hr0, hb1⟩
  have HR0 := Lib.hid hr0
  have HB1 := Lib.hid hb1
  have HBL := Lib.hid (HB0.out.trans ((HBX.out.trans (hb1.mono HBX.out.size)).mono HB0.out.size))
  have HL0 := Lib.hid (Nat.le_trans HB0.out.size HBX.out.size)
  clear hr0 hb1
  have HAL := Lib.hid ((Below.refl w1.heap.size w1).alloc (Nat.le_refl _) (.cells #[.pointer none, .slice none 0 0, .slice none 0 0, kv a0.kind r0] 110))
  have HROWN := Lib.hid (heap_alloc_new w1 (.cells #[.pointer none, .slice none 0 0, .slice none 0 0, kv a0.kind r0] 110))
  have HSZ := Lib.hid (alloc_size w1 (.cells #[.pointer none, .slice none 0 0, .slice none 0 0, kv a0.kind r0] 110))
  go_wp2
  go_ret
  exact ⟨w1.heap.size, rfl, .k8 a0 r0 (HR0.out.up HAL.out HL0.out) _ ⟨HBL.out.size, by rw [HSZ.out]; exact Nat.lt_succ_self _⟩ HROWN.out, HBL.out.trans (HAL.out.mono HBL.out.size)⟩


set_option maxHeartbeats 8000000 in
set_option maxRecDepth 100000 in
theorem un_k9 {N : Nat} (a0 : Tr) (h0 : UnH N a0) (c0 : exprB a0.kind) : UnH N (.mk 9 ⟨#[]⟩ ⟨#[]⟩ 0 [a0]) := by
  intro v w hv hN
  obtain ⟨k', t', m', n', ks', a, c, he, rfl⟩ := hv.form
  injection he with e1 e2 e3 e4 e5
  subst e1 e2 e3 e4 e5
  obtain ⟨b, o, rfl, hbN, hkid⟩ := hv.kidsAt (by simp)
  have hb0 := (Below.refl w.heap.size w).alloc (Nat.le_refl _) (.cells #[.int .i64 9, .string ⟨#[]⟩, .string ⟨#[]⟩, .int .u64 0, .slice (some ⟨b, o, none⟩) 1 c] 25)
  have hrow0 := heap_alloc_new w (.cells #[.int .i64 9, .string ⟨#[]⟩, .string ⟨#[]⟩, .int .u64 0, .slice (some ⟨b, o, none⟩) 1 c] 25)
  obtain ⟨w0, hw0⟩ : ∃ w0, w0 = w.alloc (.cells #[.int .i64 9, .string ⟨#[]⟩, .string ⟨#[]⟩, .int .u64 0, .slice (some ⟨b, o, none⟩) 1 c] 25) := ⟨_, rfl⟩
  rw [← hw0] at hb0 hrow0
  have hN0 : N ≤ w0.heap.size := Nat.le_trans hN hb0.size
  have hbl : b < w0.heap.size := Nat.lt_of_lt_of_le hbN hN0
  obtain ⟨x0, y0, hn0, d00, d01, d02, d03, d04⟩ := hkid w0 (Keep.of_below hb0 hN) 0 (by simp)
  simp only [List.getElem_cons_zero, List.getElem_cons_succ, Nat.zero_mul, Nat.add_zero, Nat.one_mul, Nat.reduceMul] at hn0 d00 d01 d02 d03 d04
  unfold nodeU at hn0
  have HC0 : Hid (∀ W, Below w0.heap.size w0 W → Calls Tryz.prog 37 #[.agg #[.int .i64 a0.kind, .string a0.text, .string a0.more, .int .u64 a0.num, .slice x0 a0.kids.length y0]] W (UnP a0 W)) := Lib.hid fun W hb => maybeExpr_some h0 c0 _ W (hn0.keep (Keep.of_below hb hN0)) (Nat.le_trans hN0 hb.size)
  have HEX := Lib.hid (fun W => exactly_any 9 ⟨#[]⟩ ⟨#[]⟩ 0 (some ⟨b, o, none⟩) 1 c 1 rfl W)
  have HROW := Lib.hid hrow0
  have HB0 := Lib.hid hb0
  have HS : Hid (∀ w', Below w0.heap.size w0 w' → w'.cell? ⟨w.heap.size, 4, none⟩ = some (.slice (some ⟨b, o, none⟩) 1 c) ∧ (w'.cell? ⟨b, o, none⟩ = some (.int .i64 a0.kind) ∧ w'.cell? ⟨b, o + 1, none⟩ = some (.string a0.text) ∧ w'.cell? ⟨b, o + 2, none⟩ = some (.string a0.more) ∧ w'.cell? ⟨b, o + 3, none⟩ = some (.int .u64 a0.num) ∧ w'.cell? ⟨b, o + 4, none⟩ = some (.slice x0 a0.kids.length y0))) := Lib.hid fun w' hb => by
    have hc : ∀ r i, r < w0.heap.size → w'.cell? ⟨r, i, none⟩ = w0.cell? ⟨r, i, none⟩ := fun r i hr => hb.cell (p := ⟨r, i, none⟩) hr
    have hx := (Array.getElem?_eq_some_iff.1 HROW.out).1
    exact ⟨(hc _ _ hx).trans (by rw [Lib.cell_of_heap HROW.out]; rfl), ⟨(hc _ _ hbl).trans d00, (hc _ _ hbl).trans d01, (hc _ _ hbl).trans d02, (hc _ _ hbl).trans d03, (hc _ _ hbl).trans d04⟩⟩
  have HW0 := Lib.hid hw0
  clear hv hkid hb0 hrow0 hn0 d00 d01 d02 d03 d04 h0 c0
  unfold nodeU
  go_enter Tryz.func23, Tryz.ntmps23
  go_wp2_with fail
  ((with_reducible refine (HEX.out _).mono ?_))
  rintro e wx ⟨rfl, hbx⟩
  rw [← HW0.out] at hbx
  clear hw0 HW0
  obtain ⟨s4, ⟨d00, d01, d02, d03, d04⟩⟩ := HS.out _ hbx
  have HBX := Lib.hid hbx
  clear hbx
  go_wp2_with (go_at_call 37; ((with_reducible refine (HC0.out _ HBX.out).mono ?_)))
  rintro e w1 ⟨r0, rfl, hr0, hb1⟩
  have HR0 := Lib.hid hr0
  have HB1 := Lib.hid hb1
  have HBL := Lib.hid (HB0.out.trans ((HBX.out.trans (hb1.mono HBX.out.size)).mono HB0.out.size))
  have HL0 := Lib.hid (Nat.le_trans HB0.out.size HBX.out.size)
  clear hr0 hb1
  have HAL := Lib.hid ((Below.refl w1.heap.size w1).alloc (Nat.le_refl _) (.cells #[.pointer none, .slice none 0 0, .slice none 0 0, kv a0.kind r0] 113))
  have HROWN := Lib.hid (heap_alloc_new w1 (.cells #[.pointer none, .slice none 0 0, .slice none 0 0, kv a0.kind r0] 113))
  have HSZ := Lib.hid (alloc_size w1 (.cells #[.pointer none, .slice none 0 0, .slice none 0 0, kv a0.kind r0] 113))
  go_wp2
  go_ret
  exact ⟨w1.heap.size, rfl, .k9 a0 r0 (HR0.out.up HAL.out HL0.out) _ ⟨HBL.out.size, by rw [HSZ.out]; exact Nat.lt_succ_self _⟩ HROWN.out, HBL.out.trans (HAL.out.mono HBL.out.size)⟩


set_option maxHeartbeats 8000000 in
set_option maxRecDepth 100000 in
theorem un_k12 {N : Nat} (a0 : Tr) (h0 : UnH N a0) (c0 : (a0.kind = 10 ∨ a0.kind = 11)) : UnH N (.mk 12 ⟨#[]⟩ ⟨#[]⟩ 0 [a0]) := by
  intro v w hv hN
  obtain ⟨k', t', m', n', ks', a, c, he, rfl⟩ := hv.form
  injection he with e1 e2 e3 e4 e5
  subst e1 e2 e3 e4 e5
  obtain ⟨b, o, rfl, hbN, hkid⟩ := hv.kidsAt (by simp)
  have hb0 := (Below.refl w.heap.size w).alloc (Nat.le_refl _) (.cells #[.int .i64 12, .string ⟨#[]⟩, .string ⟨#[]⟩, .int .u64 0, .slice (some ⟨b, o, none⟩) 1 c] 25)
  have hrow0 := heap_alloc_new w (.cells #[.int .i64 12, .string ⟨#[]⟩, .string ⟨#[]⟩, .int .u64 0, .slice (some ⟨b, o, none⟩) 1 c] 25)
  obtain ⟨w0, hw0⟩ : ∃ w0, w0 = w.alloc (.cells #[.int .i64 12, .string ⟨#[]⟩, .string ⟨#[]⟩, .int .u64 0, .slice (some ⟨b, o, none⟩) 1 c] 25) := ⟨_, rfl⟩
  rw [← hw0] at hb0 hrow0
  have hN0 : N ≤ w0.heap.size := Nat.le_trans hN hb0.size
  have hbl : b < w0.heap.size := Nat.lt_of_lt_of_le hbN hN0
  obtain ⟨x0, y0, hn0, d00, d01, d02, d03, d04⟩ := hkid w0 (Keep.of_below hb0 hN) 0 (by simp)
  simp only [List.getElem_cons_zero, List.getElem_cons_succ, Nat.zero_mul, Nat.add_zero, Nat.one_mul, Nat.reduceMul] at hn0 d00 d01 d02 d03 d04
  unfold nodeU at hn0
  have HC0 : Hid (∀ W, Below w0.heap.size w0 W → Calls Tryz.prog 39 #[.agg #[.int .i64 a0.kind, .string a0.text, .string a0.more, .int .u64 a0.num, .slice x0 a0.kids.length y0]] W (UnP a0 W)) := Lib.hid fun W hb => nodeOf_Assignment h0 c0 _ W (hn0.keep (Keep.of_below hb hN0)) (Nat.le_trans hN0 hb.size)
  have HEX := Lib.hid (fun W => exactly_any 12 ⟨#[]⟩ ⟨#[]⟩ 0 (some ⟨b, o, none⟩) 1 c 1 rfl W)
  have HROW := Lib.hid hrow0
  have HB0 := Lib.hid hb0
  have HS : Hid (∀ w', Below w0.heap.size w0 w' → w'.cell? ⟨w.heap.size, 4, none⟩ = some (.slice (some ⟨b, o, none⟩) 1 c) ∧ (w'.cell? ⟨b, o, none⟩ = some (.int .i64 a0.kind) ∧ w'.cell? ⟨b, o + 1, none⟩ = some (.string a0.text) ∧ w'.cell? ⟨b, o + 2, none⟩ = some (.string a0.more) ∧ w'.cell? ⟨b, o + 3, none⟩ = some (.int .u64 a0.num) ∧ w'.cell? ⟨b, o + 4, none⟩ = some (.slice x0 a0.kids.length y0))) := Lib.hid fun w' hb => by
    have hc : ∀ r i, r < w0.heap.size → w'.cell? ⟨r, i, none⟩ = w0.cell? ⟨r, i, none⟩ := fun r i hr => hb.cell (p := ⟨r, i, none⟩) hr
    have hx := (Array.getElem?_eq_some_iff.1 HROW.out).1
    exact ⟨(hc _ _ hx).trans (by rw [Lib.cell_of_heap HROW.out]; rfl), ⟨(hc _ _ hbl).trans d00, (hc _ _ hbl).trans d01, (hc _ _ hbl).trans d02, (hc _ _ hbl).trans d03, (hc _ _ hbl).trans d04⟩⟩
  have HW0 := Lib.hid hw0
  clear hv hkid hb0 hrow0 hn0 d00 d01 d02 d03 d04 h0 c0
  unfold nodeU
  go_enter Tryz.func23, Tryz.ntmps23
  go_wp2_with fail
  ((with_reducible refine (HEX.out _).mono ?_))
  rintro e wx ⟨rfl, hbx⟩
  rw [← HW0.out] at hbx
  clear hw0 HW0
  obtain ⟨s4, ⟨d00, d01, d02, d03, d04⟩⟩ := HS.out _ hbx
  have HBX := Lib.hid hbx
  clear hbx
  go_wp2_with (go_at_call 39; ((with_reducible refine (HC0.out _ HBX.out).mono ?_)))
  rintro e w1 ⟨r0, rfl, hr0, hb1⟩
  have HR0 := Lib.hid hr0
  have HB1 := Lib.hid hb1
  have HBL := Lib.hid (HB0.out.trans ((HBX.out.trans (hb1.mono HBX.out.size)).mono HB0.out.size))
  have HL0 := Lib.hid (Nat.le_trans HB0.out.size HBX.out.size)
  clear hr0 hb1
  have HAL := Lib.hid ((Below.refl w1.heap.size w1).alloc (Nat.le_refl _) (.cells #[.pointer none, .slice none 0 0, .slice none 0 0, kv a0.kind r0] 61))
  have HROWN := Lib.hid (heap_alloc_new w1 (.cells #[.pointer none, .slice none 0 0, .slice none 0 0, kv a0.kind r0] 61))
  have HSZ := Lib.hid (alloc_size w1 (.cells #[.pointer none, .slice none 0 0, .slice none 0 0, kv a0.kind r0] 61))
  go_wp2
  go_ret
  exact ⟨w1.heap.size, rfl, .k12 a0 r0 (HR0.out.up HAL.out HL0.out) _ ⟨HBL.out.size, by rw [HSZ.out]; exact Nat.lt_succ_self _⟩ HROWN.out, HBL.out.trans (HAL.out.mono HBL.out.size)⟩


set_option maxHeartbeats 8000000 in
set_option maxRecDepth 100000 in
theorem un_k14 {N : Nat} (a0 : Tr) (h0 : UnH N a0) (c0 : a0.kind = 10) : UnH N (.mk 14 ⟨#[]⟩ ⟨#[]⟩ 0 [a0]) := by
  intro v w hv hN
  obtain ⟨k', t', m', n', ks', a, c, he, rfl⟩ := hv.form
  injection he with e1 e2 e3 e4 e5
  subst e1 e2 e3 e4 e5
  obtain ⟨b, o, rfl, hbN, hkid⟩ := hv.kidsAt (by simp)
  have hb0 := (Below.refl w.heap.size w).alloc (Nat.le_refl _) (.cells #[.int .i64 14, .string ⟨#[]⟩, .string ⟨#[]⟩, .int .u64 0, .slice (some ⟨b, o, none⟩) 1 c] 25)
  have hrow0 := heap_alloc_new w (.cells #[.int .i64 14, .string ⟨#[]⟩, .string ⟨#[]⟩, .int .u64 0, .slice (some ⟨b, o, none⟩) 1 c] 25)
  obtain ⟨w0, hw0⟩ : ∃ w0, w0 = w.alloc (.cells #[.int .i64 14, .string ⟨#[]⟩, .string ⟨#[]⟩, .int .u64 0, .slice (some ⟨b, o, none⟩) 1 c] 25) := ⟨_, rfl⟩
  rw [← hw0] at hb0 hrow0
  have hN0 : N ≤ w0.heap.size := Nat.le_trans hN hb0.size
  have hbl : b < w0.heap.size := Nat.lt_of_lt_of_le hbN hN0
  obtain ⟨x0, y0, hn0, d00, d01, d02, d03, d04⟩ := hkid w0 (Keep.of_below hb0 hN) 0 (by simp)
  simp only [List.getElem_cons_zero, List.getElem_cons_succ, Nat.zero_mul, Nat.add_zero, Nat.one_mul, Nat.reduceMul] at hn0 d00 d01 d02 d03 d04
  unfold nodeU at hn0
  have HC0 : Hid (∀ W, Below w0.heap.size w0 W → Calls Tryz.prog 41 #[.agg #[.int .i64 a0.kind, .string a0.text, .string a0.more, .int .u64 a0.num, .slice x0 a0.kids.length y0]] W (PtrP a0 W)) := Lib.hid fun W hb => nodeOf_VariableAssignment h0 c0 _ W (hn0.keep (Keep.of_below hb hN0)) (Nat.le_trans hN0 hb.size)
  have HEX := Lib.hid (fun W => exactly_any 14 ⟨#[]⟩ ⟨#[]⟩ 0 (some ⟨b, o, none⟩) 1 c 1 rfl W)
  have HROW := Lib.hid hrow0
  have HB0 := Lib.hid hb0
  have HS : Hid (∀ w', Below w0.heap.size w0 w' → w'.cell? ⟨w.heap.size, 4, none⟩ = some (.slice (some ⟨b, o, none⟩) 1 c) ∧ (w'.cell? ⟨b, o, none⟩ = some (.int .i64 a0.kind) ∧ w'.cell? ⟨b, o + 1, none⟩ = some (.string a0.text) ∧ w'.cell? ⟨b, o + 2, none⟩ = some (.string a0.more) ∧ w'.cell? ⟨b, o + 3, none⟩ = some (.int .u64 a0.num) ∧ w'.cell? ⟨b, o + 4, none⟩ = some (.slice x0 a0.kids.length y0))) := Lib.hid fun w' hb => by
    have hc : ∀ r i, r < w0.heap.size → w'.cell? ⟨r, i, none⟩ = w0.cell? ⟨r, i, none⟩ := fun r i hr => hb.cell (p := ⟨r, i, none⟩) hr
    have hx := (Array.getElem?_eq_some_iff.1 HROW.out).1
    exact ⟨(hc _ _ hx).trans (by rw [Lib.cell_of_heap HROW.out]; rfl), ⟨(hc _ _ hbl).trans d00, (hc _ _ hbl).trans d01, (hc _ _ hbl).trans d02, (hc _ _ hbl).trans d03, (hc _ _ hbl).trans d04⟩⟩
  have HW0 := Lib.hid hw0
  clear hv hkid hb0 hrow0 hn0 d00 d01 d02 d03 d04 h0 c0
  unfold nodeU
  go_enter Tryz.func23, Tryz.ntmps23
  go_wp2_with fail
  ((with_reducible refine (HEX.out _).mono ?_))
  rintro e wx ⟨rfl, hbx⟩
  rw [← HW0.out] at hbx
  clear hw0 HW0
  obtain ⟨s4, ⟨d00, d01, d02, d03, d04⟩⟩ := HS.out _ hbx
  have HBX := Lib.hid hbx
  clear hbx
  go_wp2_with (go_at_call 41; ((with_reducible refine (HC0.out _ HBX.out).mono ?_)))
  rintro e w1 ⟨r0, rfl, hr0, hb1⟩
  have HR0 := Lib.hid hr0
  have HB1 := Lib.hid hb1
  have HBL := Lib.hid (HB0.out.trans ((HBX.out.trans (hb1.mono HBX.out.size)).mono HB0.out.size))
  have HL0 := Lib.hid (Nat.le_trans HB0.out.size HBX.out.size)
  clear hr0 hb1
  have HAL := Lib.hid ((Below.refl w1.heap.size w1).alloc (Nat.le_refl _) (.cells #[.pointer none, .slice none 0 0, .slice none 0 0, pp r0] 133))
  have HROWN := Lib.hid (heap_alloc_new w1 (.cells #[.pointer none, .slice none 0 0, .slice none 0 0, pp r0] 133))
  have HSZ := Lib.hid (alloc_size w1 (.cells #[.pointer none, .slice none 0 0, .slice none 0 0, pp r0] 133))
  go_wp2
  go_ret
  exact ⟨w1.heap.size, rfl, .k14 a0 r0 (HR0.out.up HAL.out HL0.out) _ ⟨HBL.out.size, by rw [HSZ.out]; exact Nat.lt_succ_self _⟩ HROWN.out, HBL.out.trans (HAL.out.mono HBL.out.size)⟩


set_option maxHeartbeats 8000000 in
set_option maxRecDepth 100000 in
theorem un_k25 {N : Nat} (a0 : Tr) (h0 : UnH N a0) (c0 : exprB a0.kind) : UnH N (.mk 25 ⟨#[]⟩ ⟨#[]⟩ 0 [a0]) := by
  intro v w hv hN
  obtain ⟨k', t', m', n', ks', a, c, he, rfl⟩ := hv.form
  injection he with e1 e2 e3 e4 e5
  subst e1 e2 e3 e4 e5
  obtain ⟨b, o, rfl, hbN, hkid⟩ := hv.kidsAt (by simp)
  have hb0 := (Below.refl w.heap.size w).alloc (Nat.le_refl _) (.cells #[.int .i64 25, .string ⟨#[]⟩, .string ⟨#[]⟩, .int .u64 0, .slice (some ⟨b, o, none⟩) 1 c] 25)
  have hrow0 := heap_alloc_new w (.cells #[.int .i64 25, .string ⟨#[]⟩, .string ⟨#[]⟩, .int .u64 0, .slice (some ⟨b, o, none⟩) 1 c] 25)
  obtain ⟨w0, hw0⟩ : ∃ w0, w0 = w.alloc (.cells #[.int .i64 25, .string ⟨#[]⟩, .string ⟨#[]⟩, .int .u64 0, .slice (some ⟨b, o, none⟩) 1 c] 25) := ⟨_, rfl⟩
  rw [← hw0] at hb0 hrow0
  have hN0 : N ≤ w0.heap.size := Nat.le_trans hN hb0.size
  have hbl : b < w0.heap.size := Nat.lt_of_lt_of_le hbN hN0
  obtain ⟨x0, y0, hn0, d00, d01, d02, d03, d04⟩ := hkid w0 (Keep.of_below hb0 hN) 0 (by simp)
  simp only [List.getElem_cons_zero, List.getElem_cons_succ, Nat.zero_mul, Nat.add_zero, Nat.one_mul, Nat.reduceMul] at hn0 d00 d01 d02 d03 d04
  unfold nodeU at hn0
  have HC0 : Hid (∀ W, Below w0.heap.size w0 W → Calls Tryz.prog 44 #[.agg #[.int .i64 a0.kind, .string a0.text, .string a0.more, .int .u64 a0.num, .slice x0 a0.kids.length y0]] W (UnP a0 W)) := Lib.hid fun W hb => nodeOf_Expression h0 c0 _ W (hn0.keep (Keep.of_below hb hN0)) (Nat.le_trans hN0 hb.size)
  have HEX := Lib.hid (fun W => exactly_any 25 ⟨#[]⟩ ⟨#[]⟩ 0 (some ⟨b, o, none⟩) 1 c 1 rfl W)
  have HROW := Lib.hid hrow0
  have HB0 := Lib.hid hb0
  have HS : Hid (∀ w', Below w0.heap.size w0 w' → w'.cell? ⟨w.heap.size, 4, none⟩ = some (.slice (some ⟨b, o, none⟩) 1 c) ∧ (w'.cell? ⟨b, o, none⟩ = some (.int .i64 a0.kind) ∧ w'.cell? ⟨b, o + 1, none⟩ = some (.string a0.text) ∧ w'.cell? ⟨b, o + 2, none⟩ = some (.string a0.more) ∧ w'.cell? ⟨b, o + 3, none⟩ = some (.int .u64 a0.num) ∧ w'.cell? ⟨b, o + 4, none⟩ = some (.slice x0 a0.kids.length y0))) := Lib.hid fun w' hb => by
    have hc : ∀ r i, r < w0.heap.size → w'.cell? ⟨r, i, none⟩ = w0.cell? ⟨r, i, none⟩ := fun r i hr => hb.cell (p := ⟨r, i, none⟩) hr
    have hx := (Array.getElem?_eq_some_iff.1 HROW.out).1
    exact ⟨(hc _ _ hx).trans (by rw [Lib.cell_of_heap HROW.out]; rfl), ⟨(hc _ _ hbl).trans d00, (hc _ _ hbl).trans d01, (hc _ _ hbl).trans d02, (hc _ _ hbl).trans d03, (hc _ _ hbl).trans d04⟩⟩
  have HW0 := Lib.hid hw0
  clear hv hkid hb0 hrow0 hn0 d00 d01 d02 d03 d04 h0 c0
  unfold nodeU
  go_enter Tryz.func23, Tryz.ntmps23
  go_wp2_with fail
  ((with_reducible refine (HEX.out _).mono ?_))
  rintro e wx ⟨rfl, hbx⟩
  rw [← HW0.out] at hbx
  clear hw0 HW0
  obtain ⟨s4, ⟨d00, d01, d02, d03, d04⟩⟩ := HS.out _ hbx
  have HBX := Lib.hid hbx
  clear hbx
  go_wp2_with (go_at_call 44; ((with_reducible refine (HC0.out _ HBX.out).mono ?_)))
  rintro e w1 ⟨r0, rfl, hr0, hb1⟩
  have HR0 := Lib.hid hr0
  have HB1 := Lib.hid hb1
  have HBL := Lib.hid (HB0.out.trans ((HBX.out.trans (hb1.mono HBX.out.size)).mono HB0.out.size))
  have HL0 := Lib.hid (Nat.le_trans HB0.out.size HBX.out.size)
  clear hr0 hb1
  have HAL := Lib.hid ((Below.refl w1.heap.size w1).alloc (Nat.le_refl _) (.cells #[.pointer none, .slice none 0 0, .slice none 0 0, .slice none 0 0, kv a0.kind r0, .slice none 0 0] 180))
  have HROWN := Lib.hid (heap_alloc_new w1 (.cells #[.pointer none, .slice none 0 0, .slice none 0 0, .slice none 0 0, kv a0.kind r0, .slice none 0 0] 180))
  have HSZ := Lib.hid (alloc_size w1 (.cells #[.pointer none, .slice none 0 0, .slice none 0 0, .slice none 0 0, kv a0.kind r0, .slice none 0 0] 180))
  go_wp2
  go_ret
  exact ⟨w1.heap.size, rfl, .k25 a0 r0 (HR0.out.up HAL.out HL0.out) _ ⟨HBL.out.size, by rw [HSZ.out]; exact Nat.lt_succ_self _⟩ HROWN.out, HBL.out.trans (HAL.out.mono HBL.out.size)⟩


set_option maxHeartbeats 8000000 in
set_option maxRecDepth 100000 in
theorem un_k32 {N : Nat} (a0 : Tr) (h0 : UnH N a0) (c0 : exprB a0.kind) : UnH N (.mk 32 ⟨#[]⟩ ⟨#[]⟩ 0 [a0]) := by
  intro v w hv hN
  obtain ⟨k', t', m', n', ks', a, c, he, rfl⟩ := hv.form
  injection he with e1 e2 e3 e4 e5
  subst e1 e2 e3 e4 e5
  obtain ⟨b, o, rfl, hbN, hkid⟩ := hv.kidsAt (by simp)
  have hb0 := (Below.refl w.heap.size w).alloc (Nat.le_refl _) (.cells #[.int .i64 32, .string ⟨#[]⟩, .string ⟨#[]⟩, .int .u64 0, .slice (some ⟨b, o, none⟩) 1 c] 25)
  have hrow0 := heap_alloc_new w (.cells #[.int .i64 32, .string ⟨#[]⟩, .string ⟨#[]⟩, .int .u64 0, .slice (some ⟨b, o, none⟩) 1 c] 25)
  obtain ⟨w0, hw0⟩ : ∃ w0, w0 = w.alloc (.cells #[.int .i64 32, .string ⟨#[]⟩, .string ⟨#[]⟩, .int .u64 0, .slice (some ⟨b, o, none⟩) 1 c] 25) := ⟨_, rfl⟩
  rw [← hw0] at hb0 hrow0
  have hN0 : N ≤ w0.heap.size := Nat.le_trans hN hb0.size
  have hbl : b < w0.heap.size := Nat.lt_of_lt_of_le hbN hN0
  obtain ⟨x0, y0, hn0, d00, d01, d02, d03, d04⟩ := hkid w0 (Keep.of_below hb0 hN) 0 (by simp)
  simp only [List.getElem_cons_zero, List.getElem_cons_succ, Nat.zero_mul, Nat.add_zero, Nat.one_mul, Nat.reduceMul] at hn0 d00 d01 d02 d03 d04
  unfold nodeU at hn0
  have HC0 : Hid (∀ W, Below w0.heap.size w0 W → Calls Tryz.prog 44 #[.agg #[.int .i64 a0.kind, .string a0.text, .string a0.more, .int .u64 a0.num, .slice x0 a0.kids.length y0]] W (UnP a0 W)) := Lib.hid fun W hb => nodeOf_Expression h0 c0 _ W (hn0.keep (Keep.of_below hb hN0)) (Nat.le_trans hN0 hb.size)
  have HEX := Lib.hid (fun W => exactly_any 32 ⟨#[]⟩ ⟨#[]⟩ 0 (some ⟨b, o, none⟩) 1 c 1 rfl W)
  have HROW := Lib.hid hrow0
  have HB0 := Lib.hid hb0
  have HS : Hid (∀ w', Below w0.heap.size w0 w' → w'.cell? ⟨w.heap.size, 4, none⟩ = some (.slice (some ⟨b, o, none⟩) 1 c) ∧ (w'.cell? ⟨b, o, none⟩ = some (.int .i64 a0.kind) ∧ w'.cell? ⟨b, o + 1, none⟩ = some (.string a0.text) ∧ w'.cell? ⟨b, o + 2, none⟩ = some (.string a0.more) ∧ w'.cell? ⟨b, o + 3, none⟩ = some (.int .u64 a0.num) ∧ w'.cell? ⟨b, o + 4, none⟩ = some (.slice x0 a0.kids.length y0))) := Lib.hid fun w' hb => by
    have hc : ∀ r i, r < w0.heap.size → w'.cell? ⟨r, i, none⟩ = w0.cell? ⟨r, i, none⟩ := fun r i hr => hb.cell (p := ⟨r, i, none⟩) hr
    have hx := (Array.getElem?_eq_some_iff.1 HROW.out).1
    exact ⟨(hc _ _ hx).trans (by rw [Lib.cell_of_heap HROW.out]; rfl), ⟨(hc _ _ hbl).trans d00, (hc _ _ hbl).trans d01, (hc _ _ hbl).trans d02, (hc _ _ hbl).trans d03, (hc _ _ hbl).trans d04⟩⟩
  have HW0 := Lib.hid hw0
  clear hv hkid hb0 hrow0 hn0 d00 d01 d02 d03 d04 h0 c0
  unfold nodeU
  go_enter Tryz.func23, Tryz.ntmps23
  go_wp2_with fail
  ((with_reducible refine (HEX.out _).mono ?_))
  rintro e wx ⟨rfl, hbx⟩
  rw [← HW0.out] at hbx
  clear hw0 HW0
  obtain ⟨s4, ⟨d00, d01, d02, d03, d04⟩⟩ := HS.out _ hbx
  have HBX := Lib.hid hbx
  clear hbx
  go_wp2_with (go_at_call 44; ((with_reducible refine (HC0.out _ HBX.out).mono ?_)))
  rintro e w1 ⟨r0, rfl, hr0, hb1⟩
  have HR0 := Lib.hid hr0
  have HB1 := Lib.hid hb1
  have HBL := Lib.hid (HB0.out.trans ((HBX.out.trans (hb1.mono HBX.out.size)).mono HB0.out.size))
  have HL0 := Lib.hid (Nat.le_trans HB0.out.size HBX.out.size)
  clear hr0 hb1
  have HAL := Lib.hid ((Below.refl w1.heap.size w1).alloc (Nat.le_refl _) (.cells #[.pointer none, .slice none 0 0, .slice none 0 0, kv a0.kind r0] 207))
  have HROWN := Lib.hid (heap_alloc_new w1 (.cells #[.pointer none, .slice none 0 0, .slice none 0 0, kv a0.kind r0] 207))
  have HSZ := Lib.hid (alloc_size w1 (.cells #[.pointer none, .slice none 0 0, .slice none 0 0, kv a0.kind r0] 207))
  go_wp2
  go_ret
  exact ⟨w1.heap.size, rfl, .k32 a0 r0 (HR0.out.up HAL.out HL0.out) _ ⟨HBL.out.size, by rw [HSZ.out]; exact Nat.lt_succ_self _⟩ HROWN.out, HBL.out.trans (HAL.out.mono HBL.out.size)⟩


end Go.Proofs.YtkohgndmhgcgeaaGreatDoor
