/- impl.unnode over kinds of one list. -/
import Derived.Test.YtkohgndmhgcgeaaGreatDoorUnL
namespace Go.Proofs.YtkohgndmhgcgeaaGreatDoor
open Go Go.RowKit
set_option linter.unusedVariables false
set_option linter.unusedSimpArgs false


set_option maxHeartbeats 4000000 in
set_option maxRecDepth 100000 in
theorem un_k6 {N : Nat} {l : List Tr} (hl : ∀ x ∈ l, UnH N x) (cl : ∀ x ∈ l, (stmtB x.kind ∧ x.kind ≠ 13)) (hlen : l.length ≤ 1000) : UnH N (.mk 6 ⟨#[]⟩ ⟨#[]⟩ 0 (l)) := by
  intro v w hv hN
  obtain ⟨k', t', m', n', ks', a, c, he, rfl⟩ := hv.form
  injection he with e1 e2 e3 e4 e5
  subst e1 e2 e3 e4 e5
  have hb0 := (Below.refl w.heap.size w).alloc (Nat.le_refl _) (.cells #[.int .i64 6, .string ⟨#[]⟩, .string ⟨#[]⟩, .int .u64 0, .slice a l.length c] 25)
  have HL := Lib.hid (nodesOf_Statement hl cl hlen a c (w.alloc (.cells #[.int .i64 6, .string ⟨#[]⟩, .string ⟨#[]⟩, .int .u64 0, .slice a l.length c] 25)) (Nat.le_trans hN hb0.size) ((RowN.of hv).keep (Keep.of_below hb0 hN)))
  have HB0 := Lib.hid hb0
  unfold nodeU
  clear hv hb0 hl cl
  go_enter Tryz.func23, Tryz.ntmps23
  go_wp2_with fail
  ((with_reducible refine HL.out.mono ?_))
  rintro e w1 ⟨s, a5, c5, rfl, hq, hb1⟩
  have HQ := Lib.hid hq
  have HB1 := Lib.hid (HB0.out.trans (hb1.mono HB0.out.size))
  clear hq hb1
  have HAL := Lib.hid ((Below.refl w1.heap.size w1).alloc (Nat.le_refl _) (.cells #[.pointer none, .slice none 0 0, .slice none 0 0, .slice none 0 0, .slice a5 l.length c5, .slice none 0 0] 103))
  have HROWN := Lib.hid (heap_alloc_new w1 (.cells #[.pointer none, .slice none 0 0, .slice none 0 0, .slice none 0 0, .slice a5 l.length c5, .slice none 0 0] 103))
  have HSZ := Lib.hid (alloc_size w1 (.cells #[.pointer none, .slice none 0 0, .slice none 0 0, .slice none 0 0, .slice a5 l.length c5, .slice none 0 0] 103))
  go_wp2
  go_ret
  have HU := HQ.out.up HAL.out HB0.out.size
  exact ⟨w1.heap.size, rfl, .k6 l s HU.len _ HU.row HU.kids _ ⟨HB1.out.size, by rw [HSZ.out]; exact Nat.lt_succ_self _⟩ HROWN.out, HB1.out.trans (HAL.out.mono HB1.out.size)⟩


set_option maxHeartbeats 4000000 in
set_option maxRecDepth 100000 in
theorem un_k26 {N : Nat} {l : List Tr} (hl : ∀ x ∈ l, UnH N x) (cl : ∀ x ∈ l, exprB x.kind) (hlen : l.length ≤ 1000) : UnH N (.mk 26 ⟨#[]⟩ ⟨#[]⟩ 0 (l)) := by
  intro v w hv hN
  obtain ⟨k', t', m', n', ks', a, c, he, rfl⟩ := hv.form
  injection he with e1 e2 e3 e4 e5
  subst e1 e2 e3 e4 e5
  have hb0 := (Below.refl w.heap.size w).alloc (Nat.le_refl _) (.cells #[.int .i64 26, .string ⟨#[]⟩, .string ⟨#[]⟩, .int .u64 0, .slice a l.length c] 25)
  have HL := Lib.hid (nodesOf_Expression hl cl hlen a c (w.alloc (.cells #[.int .i64 26, .string ⟨#[]⟩, .string ⟨#[]⟩, .int .u64 0, .slice a l.length c] 25)) (Nat.le_trans hN hb0.size) ((RowN.of hv).keep (Keep.of_below hb0 hN)))
  have HB0 := Lib.hid hb0
  unfold nodeU
  clear hv hb0 hl cl
  go_enter Tryz.func23, Tryz.ntmps23
  go_wp2_with fail
  ((with_reducible refine HL.out.mono ?_))
  rintro e w1 ⟨s, a5, c5, rfl, hq, hb1⟩
  have HQ := Lib.hid hq
  have HB1 := Lib.hid (HB0.out.trans (hb1.mono HB0.out.size))
  clear hq hb1
  have HAL := Lib.hid ((Below.refl w1.heap.size w1).alloc (Nat.le_refl _) (.cells #[.pointer none, .slice none 0 0, .slice none 0 0, .slice none 0 0, .slice a5 l.length c5, .slice none 0 0] 183))
  have HROWN := Lib.hid (heap_alloc_new w1 (.cells #[.pointer none, .slice none 0 0, .slice none 0 0, .slice none 0 0, .slice a5 l.length c5, .slice none 0 0] 183))
  have HSZ := Lib.hid (alloc_size w1 (.cells #[.pointer none, .slice none 0 0, .slice none 0 0, .slice none 0 0, .slice a5 l.length c5, .slice none 0 0] 183))
  go_wp2
  go_ret
  have HU := HQ.out.up HAL.out HB0.out.size
  exact ⟨w1.heap.size, rfl, .k26 l s HU.len _ HU.row HU.kids _ ⟨HB1.out.size, by rw [HSZ.out]; exact Nat.lt_succ_self _⟩ HROWN.out, HB1.out.trans (HAL.out.mono HB1.out.size)⟩


set_option maxHeartbeats 4000000 in
set_option maxRecDepth 100000 in
theorem un_k30 {N : Nat} {l : List Tr} (hl : ∀ x ∈ l, UnH N x) (cl : ∀ x ∈ l, (x.kind = 31 ∨ x.kind = 32)) (hlen : l.length ≤ 1000) : UnH N (.mk 30 ⟨#[]⟩ ⟨#[]⟩ 0 (l)) := by
  intro v w hv hN
  obtain ⟨k', t', m', n', ks', a, c, he, rfl⟩ := hv.form
  injection he with e1 e2 e3 e4 e5
  subst e1 e2 e3 e4 e5
  have hb0 := (Below.refl w.heap.size w).alloc (Nat.le_refl _) (.cells #[.int .i64 30, .string ⟨#[]⟩, .string ⟨#[]⟩, .int .u64 0, .slice a l.length c] 25)
  have HL := Lib.hid (nodesOf_StringExpressionPart hl cl hlen a c (w.alloc (.cells #[.int .i64 30, .string ⟨#[]⟩, .string ⟨#[]⟩, .int .u64 0, .slice a l.length c] 25)) (Nat.le_trans hN hb0.size) ((RowN.of hv).keep (Keep.of_below hb0 hN)))
  have HB0 := Lib.hid hb0
  unfold nodeU
  clear hv hb0 hl cl
  go_enter Tryz.func23, Tryz.ntmps23
  go_wp2_with fail
  ((with_reducible refine HL.out.mono ?_))
  rintro e w1 ⟨s, a5, c5, rfl, hq, hb1⟩
  have HQ := Lib.hid hq
  have HB1 := Lib.hid (HB0.out.trans (hb1.mono HB0.out.size))
  clear hq hb1
  have HAL := Lib.hid ((Below.refl w1.heap.size w1).alloc (Nat.le_refl _) (.cells #[.pointer none, .slice none 0 0, .slice none 0 0, .slice a5 l.length c5] 202))
  have HROWN := Lib.hid (heap_alloc_new w1 (.cells #[.pointer none, .slice none 0 0, .slice none 0 0, .slice a5 l.length c5] 202))
  have HSZ := Lib.hid (alloc_size w1 (.cells #[.pointer none, .slice none 0 0, .slice none 0 0, .slice a5 l.length c5] 202))
  go_wp2
  go_ret
  have HU := HQ.out.up HAL.out HB0.out.size
  exact ⟨w1.heap.size, rfl, .k30 l s HU.len _ HU.row HU.kids _ ⟨HB1.out.size, by rw [HSZ.out]; exact Nat.lt_succ_self _⟩ HROWN.out, HB1.out.trans (HAL.out.mono HB1.out.size)⟩


set_option maxHeartbeats 4000000 in
set_option maxRecDepth 100000 in
theorem un_k2 {N : Nat} (t m : ByteArray) {l : List Tr} (hl : ∀ x ∈ l, UnH N x) (cl : ∀ x ∈ l, x.kind = 3) (hlen : l.length ≤ 1000) : UnH N (.mk 2 t m 0 l) := by
  intro v w hv hN
  obtain ⟨k', t', m', n', ks', a, c, he, rfl⟩ := hv.form
  injection he with e1 e2 e3 e4 e5
  subst e1 e2 e3 e4 e5
  have hb0 := (Below.refl w.heap.size w).alloc (Nat.le_refl _) (.cells #[.int .i64 2, .string t, .string m, .int .u64 0, .slice a l.length c] 25)
  have hrow0 := heap_alloc_new w (.cells #[.int .i64 2, .string t, .string m, .int .u64 0, .slice a l.length c] 25)
  have hrn := (RowN.of hv).keep (Keep.of_below hb0 hN)
  obtain ⟨w0, hw0⟩ : ∃ w0, w0 = w.alloc (.cells #[.int .i64 2, .string t, .string m, .int .u64 0, .slice a l.length c] 25) := ⟨_, rfl⟩
  rw [← hw0] at hb0 hrow0 hrn
  have hN0 : N ≤ w0.heap.size := Nat.le_trans hN hb0.size
  have HL : Hid (∀ W, Below w0.heap.size w0 W → Calls Tryz.prog 29 #[.slice a l.length c] W (ListP 35 valP l W)) := Lib.hid fun W hb => nodesOf_File hl cl hlen a c W (Nat.le_trans hN0 hb.size) (hrn.keep (Keep.of_below hb hN0))
  have HROW := Lib.hid hrow0
  have HB0 := Lib.hid hb0
  have HS : Hid (∀ w', Below w0.heap.size w0 w' → w'.cell? ⟨w.heap.size, 1, none⟩ = some (.string t) ∧ w'.cell? ⟨w.heap.size, 2, none⟩ = some (.string m) ∧ w'.cell? ⟨w.heap.size, 4, none⟩ = some (.slice a l.length c)) := Lib.hid fun w' hb => by
    have hx := (Array.getElem?_eq_some_iff.1 HROW.out).1
    have hc : ∀ i, w'.cell? ⟨w.heap.size, i, none⟩ = w0.cell? ⟨w.heap.size, i, none⟩ := fun i => hb.cell (p := ⟨w.heap.size, i, none⟩) hx
    exact ⟨(hc _).trans (by rw [Lib.cell_of_heap HROW.out]; rfl), (hc _).trans (by rw [Lib.cell_of_heap HROW.out]; rfl), (hc _).trans (by rw [Lib.cell_of_heap HROW.out]; rfl)⟩
  have HW0 := Lib.hid hw0
  unfold nodeU
  clear hv hb0 hrow0 hrn hl cl
  go_enter Tryz.func23, Tryz.ntmps23
  go_upto_region 3 with fail
  rw [← HW0.out]
  clear hw0 HW0
  have hbxd : Below w0.heap.size w0 w0.drew := (Below.refl _ w0).drew
  go_region_held3 (fun w' => w'.cell? ⟨w.heap.size, 1, none⟩ = some (.string t) ∧ w'.cell? ⟨w.heap.size, 2, none⟩ = some (.string m) ∧ w'.cell? ⟨w.heap.size, 4, none⟩ = some (.slice a l.length c)) (first | exact HS.out _ (Below.refl _ _) | exact HS.out _ hbxd | exact HS.out _ hz1 | go_keep) (first
    | (go_at_call 29; ((with_reducible refine (HL.out _ hbxd).mono ?_)); rintro e w1 ⟨s, a5, c5, rfl, hq, hb1⟩; have hz1 : Below w0.heap.size w0 w1 := hbxd.trans (hb1.mono hbxd.size))
    | fail "none")
  all_goals
    have HQ := Lib.hid hq
    have HB1 := Lib.hid (HB0.out.trans (hz1.mono HB0.out.size))
    have HLX := Lib.hid (Nat.le_trans HB0.out.size hbxd.size)
    clear hq hb1
    have HAL := Lib.hid ((Below.refl w1.heap.size w1).alloc (Nat.le_refl _) (.cells #[.pointer none, .slice none 0 0, .slice none 0 0, .string m, .string t, .slice a5 l.length c5] 88))
    have HROWN := Lib.hid (heap_alloc_new w1 (.cells #[.pointer none, .slice none 0 0, .slice none 0 0, .string m, .string t, .slice a5 l.length c5] 88))
    have HSZ := Lib.hid (alloc_size w1 (.cells #[.pointer none, .slice none 0 0, .slice none 0 0, .string m, .string t, .slice a5 l.length c5] 88))
    go_wp2
    go_ret
    have HU := HQ.out.up HAL.out HLX.out
    exact ⟨w1.heap.size, rfl, .k2 t m l s HU.len _ HU.row HU.kids _ ⟨HB1.out.size, by rw [HSZ.out]; exact Nat.lt_succ_self _⟩ HROWN.out, HB1.out.trans (HAL.out.mono HB1.out.size)⟩


end Go.Proofs.YtkohgndmhgcgeaaGreatDoor
