/- laws.FnHasDuplicateOptions. -/
import Derived.Test.YtkohgndmhgcgeaaGreatDoorDupHead
namespace Go.Proofs.YtkohgndmhgcgeaaGreatDoor
open Go Go.RowKit Go.ChangeShapes Go.WideShapes
set_option linter.unusedVariables false
set_option linter.unusedSimpArgs false

set_option maxHeartbeats 8000000 in
set_option maxRecDepth 100000 in
theorem lawDup_any (tr : Tr) (v : Value) (N : Nat) (w : World) (hv : NodeIn w (· < N) tr v) (hN : N ≤ w.heap.size) (name : ByteArray) (hT : Lib.Utf8Tabs 1 2 w) :
    Calls Tryz.prog 3 #[v, .string name] w fun e w' => e = .returned (.bool true) ∧ Below w.heap.size w w' := by
  obtain ⟨k, x, m, n, ks, a, c, rfl, rfl⟩ := hv.form
  have hb0 : Below w.heap.size w (w.alloc (.cells #[.int .i64 k, .string x, .string m, .int .u64 n, .slice a ks.length c] 25)) := (Below.refl _ w).alloc (Nat.le_refl _) _
  have hx0 : BoxAt w.heap.size k x m n a ks.length c (w.alloc (.cells #[.int .i64 k, .string x, .string m, .int .u64 n, .slice a ks.length c] 25)) := heap_alloc_new w _
  have hz := zzFits1_any k x m n a ks.length c (w.alloc (.cells #[.int .i64 k, .string x, .string m, .int .u64 n, .slice a ks.length c] 25))
  unfold nodeU at hz ⊢
  have HV := Lib.hid hv
  have HT := Lib.hid hT
  have HB0 := Lib.hid hb0
  have HX0 := Lib.hid hx0
  have HZ := Lib.hid hz
  clear hv hT hb0 hx0 hz
  go_enter Tryz.func3, Tryz.ntmps3
  go_wp2_with fail
  ((with_reducible refine HZ.out.mono ?_))
  rintro e w1 ⟨b, rfl, _, hb1⟩
  have HB1 := Lib.hid (HB0.out.trans (hb1.mono HB0.out.size))
  have HX1 := Lib.hid (HX0.out.below hb1)
  clear hb1
  cases b with
  | false =>
    go_wp2
    go_ret
    exact ⟨rfl, HB1.out⟩
  | true =>
    by_cases hbig : (2147483647 : Int) < (name.size : Int)
    · go_wp2
      go_ret
      exact ⟨rfl, HB1.out⟩
    · have HNS : Hid (name.size ≤ 2147483647) := Lib.hid (by omega)
      have HAF := Lib.hid (aFile_any w1)
      go_wp2_with fail
      ((with_reducible refine HAF.out.mono ?_))
      rintro e w2 ⟨g1, g2, g3, g4, rfl, hf2, l1, l2, l3, l4, l5, hb2⟩
      have HB2 := Lib.hid (HB1.out.trans (hb2.mono HB1.out.size))
      have HX2 := Lib.hid (HX1.out.below hb2)
      have HF2 := Lib.hid hf2
      have HLL := Lib.hid (⟨l1, l2, l3, l4, l5⟩ : w1.heap.size ≤ g1 ∧ g1 < g2 ∧ g2 < g3 ∧ g3 < g4 ∧ g4 < w2.heap.size)
      clear hb2 hf2 l1 l2 l3 l4 l5 HAF
      obtain ⟨w3, hw3⟩ : ∃ w3, w3 = w2.alloc (.cells #[.int .i64 3, .string ⟨#[]⟩, .string ⟨#[]⟩, .int .u64 0, .slice (some ⟨g4, 0, none⟩) 3 3] 25) := ⟨_, rfl⟩
      have hfb : w3.heap[w2.heap.size]? = some (.cells #[.int .i64 3, .string ⟨#[]⟩, .string ⟨#[]⟩, .int .u64 0, .slice (some ⟨g4, 0, none⟩) 3 3] 25 (0, 0)) := by rw [hw3]; exact heap_alloc_new w2 _
      have hb3 : Below w2.heap.size w2 w3 := by rw [hw3]; exact (Below.refl _ w2).alloc (Nat.le_refl _) _
      have HFB := Lib.hid hfb
      have HB3 := Lib.hid hb3
      have HW3 := Lib.hid hw3
      clear hfb hb3 hw3
      go_upto_region 4 with fail
      rw [← HW3.out]
      clear HW3
      go_region
      · go_upto_region 7 with fail
        obtain ⟨w4, hw4⟩ : ∃ w4, w4 = (w3.alloc (.cells #[.bool false] 4)).drew := ⟨_, rfl⟩
        rw [← hw4]
        have hs4 : w3.heap.size < w4.heap.size := by rw [hw4]; show w3.heap.size < (w3.alloc (.cells #[.bool false] 4)).heap.size; rw [alloc_size]; exact Nat.lt_succ_self _
        have hb34 : Below w3.heap.size w3 w4 := by rw [hw4]; exact ((Below.refl _ w3).alloc (Nat.le_refl _) _).drew
        have hb4 : Below w.heap.size w w4 := (HB2.out.trans (HB3.out.mono HB2.out.size)).trans (hb34.mono (Nat.le_trans HB2.out.size HB3.out.size))
        have HB4 := Lib.hid hb4
        have hf4 : FileIn w4 g1 g2 g3 g4 := by
          have hh : ∀ r, r < w2.heap.size → w4.heap[r]? = w2.heap[r]? := fun r hr => (hb34.block r (Nat.lt_of_lt_of_le hr HB3.out.size)).trans (HB3.out.block r hr)
          obtain ⟨a1, a2, a3, a4, a5⟩ := HLL.out
          exact ⟨HF2.out.opt.keep (hh _ (by omega)) (hh _ (by omega)), (hh _ (by omega)).trans HF2.out.h3, (hh _ (by omega)).trans HF2.out.h4⟩
        have HF4 := Lib.hid hf4
        have hfb4 : w4.heap[w2.heap.size]? = some (.cells #[.int .i64 3, .string ⟨#[]⟩, .string ⟨#[]⟩, .int .u64 0, .slice (some ⟨g4, 0, none⟩) 3 3] 25 (0, 0)) := (hb34.block _ (Array.getElem?_eq_some_iff.1 HFB.out).1).trans HFB.out
        have HFB4 := Lib.hid hfb4
        have HX4 := Lib.hid (HX2.out.below (HB3.out.trans (hb34.mono HB3.out.size)))
        have HSI : Hid (g1 < w4.heap.size ∧ g2 < w4.heap.size ∧ g3 < w4.heap.size ∧ g4 < w4.heap.size ∧ w2.heap.size < w4.heap.size) := Lib.hid (by
          obtain ⟨a1, a2, a3, a4, a5⟩ := HLL.out
          have := HB3.out.size
          have := (Array.getElem?_eq_some_iff.1 HFB4.out).1
          exact ⟨by omega, by omega, by omega, by omega, this⟩)
        have HS : Hid (∀ w' : World, w'.heap[w2.heap.size]? = w4.heap[w2.heap.size]? → w'.heap[g3]? = w4.heap[g3]? → w'.cell? ⟨w2.heap.size, 4, none⟩ = some (.slice (some ⟨g4, 0, none⟩) 3 3) ∧ (w'.cell? ⟨g3, 0, none⟩ = some (.int .i64 12) ∧ w'.cell? ⟨g3, 1, none⟩ = some (.string ⟨#[]⟩) ∧ w'.cell? ⟨g3, 2, none⟩ = some (.string ⟨#[]⟩) ∧ w'.cell? ⟨g3, 3, none⟩ = some (.int .u64 0) ∧ w'.cell? ⟨g3, 4, none⟩ = some (.slice (some ⟨g2, 0, none⟩) 1 1))) := Lib.hid fun w' h1 h2 => by
          have e1 := h1.trans HFB4.out
          have e2 := h2.trans HF4.out.h3
          exact ⟨by rw [Lib.cell_of_heap e1]; rfl, by rw [Lib.cell_of_heap e2]; rfl, by rw [Lib.cell_of_heap e2]; rfl, by rw [Lib.cell_of_heap e2]; rfl, by rw [Lib.cell_of_heap e2]; rfl, by rw [Lib.cell_of_heap e2]; rfl⟩
        have c14 : w4.cell? ⟨g4, 14, none⟩ = some (.slice (some ⟨g3, 0, none⟩) 1 1) := by rw [Lib.cell_of_heap HF4.out.h4]; rfl
        have c14d : w4.drew.cell? ⟨g4, 14, none⟩ = some (.slice (some ⟨g3, 0, none⟩) 1 1) := c14
        have qx : ∀ o : Obj, (w4.alloc o).drew.heap[w2.heap.size]? = w4.heap[w2.heap.size]? := fun o => Below.heap_alloc _ _ _ HSI.out.2.2.2.2
        have rx : ∀ o : Obj, (w4.alloc o).drew.heap[g3]? = w4.heap[g3]? := fun o => Below.heap_alloc _ _ _ HSI.out.2.2.1
        have cx : ∀ o : Obj, (w4.alloc o).drew.cell? ⟨g4, 14, none⟩ = some (.slice (some ⟨g3, 0, none⟩) 1 1) := fun o => by
          have e : (w4.alloc o).drew.heap[g4]? = w4.heap[g4]? := Below.heap_alloc _ _ _ HSI.out.2.2.2.1
          rw [Lib.cell_of_heap (e.trans HF4.out.h4)]
          rfl
        have HOLX : Hid (∀ (o : Obj) (b : Addr), some (⟨g3, 0, none⟩ : Addr) = some b → ∀ (j : Nat) (u : Value), ([.int .i64 12, .string ⟨#[]⟩, .string ⟨#[]⟩, .int .u64 0, .slice (some ⟨g2, 0, none⟩) 1 1] : List Value)[j]? = some u → (w4.alloc o).drew.cell? (b.add j) = some u) := Lib.hid fun o b hb => by
          cases hb
          have e : (w4.alloc o).drew.heap[g3]? = w4.heap[g3]? := Below.heap_alloc _ _ _ HSI.out.2.2.1
          exact World.news_of_block (cs := #[.int .i64 12, .string ⟨#[]⟩, .string ⟨#[]⟩, .int .u64 0, .slice (some ⟨g2, 0, none⟩) 1 1]) (t := 25) (fr := (0, 0)) (e.trans HF4.out.h3)
        have HG8X : Hid (∀ (o : Obj) (w8 : World), (w4.alloc o).drew.grownBy w8 none → ∀ r, r < w4.heap.size → w8.heap[r]? = w4.heap[r]?) := Lib.hid fun o w8 hg r hr => (hg.block r (by show r < (w4.alloc o).heap.size; rw [alloc_size]; omega) (by simp)).trans (Below.heap_alloc _ _ _ hr)
        have HBBX : Hid (∀ (o : Obj) (w8 : World), (w4.alloc o).drew.grownBy w8 none → Below w.heap.size w w8) := Lib.hid fun o w8 hg => (HB4.out.alloc HB4.out.size o).drew.grown hg (Nat.le_trans HB4.out.size (by show w4.heap.size ≤ (w4.alloc o).heap.size; rw [alloc_size]; exact Nat.le_succ _)) (fun k e => by cases e)
        obtain ⟨i0, hi, hz0, hz1, hz2⟩ := info_parts (show (Tryz.prog.info? 25).map (fun i => (i.zero, i.size, i.bytes)) = some (some (.agg #[.int .i64 0, .string ⟨#[]⟩, .string ⟨#[]⟩, .int .u64 0, .slice none 0 0]), 5, 72) by kernel_rfl)
        clear hs4 hb34 hb4 hf4 hfb4 hw4
        have qa := qx (.cells #[.int .i64 12, .string ⟨#[]⟩, .string ⟨#[]⟩, .int .u64 0, .slice (some ⟨g2, 0, none⟩) 1 1] 25)
        have ra := rx (.cells #[.int .i64 12, .string ⟨#[]⟩, .string ⟨#[]⟩, .int .u64 0, .slice (some ⟨g2, 0, none⟩) 1 1] 25)
        have c14a := cx (.cells #[.int .i64 12, .string ⟨#[]⟩, .string ⟨#[]⟩, .int .u64 0, .slice (some ⟨g2, 0, none⟩) 1 1] 25)
        have HOL := Lib.hid (HOLX.out (.cells #[.int .i64 12, .string ⟨#[]⟩, .string ⟨#[]⟩, .int .u64 0, .slice (some ⟨g2, 0, none⟩) 1 1] 25))
        have HG8 := Lib.hid (HG8X.out (.cells #[.int .i64 12, .string ⟨#[]⟩, .string ⟨#[]⟩, .int .u64 0, .slice (some ⟨g2, 0, none⟩) 1 1] 25))
        have HBB := Lib.hid (HBBX.out (.cells #[.int .i64 12, .string ⟨#[]⟩, .string ⟨#[]⟩, .int .u64 0, .slice (some ⟨g2, 0, none⟩) 1 1] 25))
        have HNW : Hid (∀ (j : Nat) (u : Value), ([.int .i64 12, .string ⟨#[]⟩, .string ⟨#[]⟩, .int .u64 0, .slice (some ⟨g2, 0, none⟩) 1 1] : List Value)[j]? = some u → (w4.alloc (.cells #[.int .i64 12, .string ⟨#[]⟩, .string ⟨#[]⟩, .int .u64 0, .slice (some ⟨g2, 0, none⟩) 1 1] 25)).drew.cell? ((⟨w4.heap.size, 0, none⟩ : Addr).add j) = some u) := Lib.hid (World.news_of_block (cs := #[.int .i64 12, .string ⟨#[]⟩, .string ⟨#[]⟩, .int .u64 0, .slice (some ⟨g2, 0, none⟩) 1 1]) (t := 25) (fr := (0, 0)) (heap_alloc_new w4 (.cells #[.int .i64 12, .string ⟨#[]⟩, .string ⟨#[]⟩, .int .u64 0, .slice (some ⟨g2, 0, none⟩) 1 1] 25)))
        clear qx rx cx HOLX HG8X HBBX
        go_cut [] (fun wx => ∃ gn cn, Hid (AfterP w w4 wx w2.heap.size g1 g2 g4 gn cn))
        case first =>
          refine wp_region_held_drew (S := (fun w' => w'.cell? ⟨w2.heap.size, 4, none⟩ = some (.slice (some ⟨g4, 0, none⟩) 3 3) ∧ (w'.cell? ⟨g3, 0, none⟩ = some (.int .i64 12) ∧ w'.cell? ⟨g3, 1, none⟩ = some (.string ⟨#[]⟩) ∧ w'.cell? ⟨g3, 2, none⟩ = some (.string ⟨#[]⟩) ∧ w'.cell? ⟨g3, 3, none⟩ = some (.int .u64 0) ∧ w'.cell? ⟨g3, 4, none⟩ = some (.slice (some ⟨g2, 0, none⟩) 1 1)))) (by kernel_rfl) ?_ (fun hHeld => ?_)
          · (try dsimp only); first | exact HS.out _ rfl rfl | exact HS.out _ qa ra | exact HS.out _ q8 r8 | exact HS.out _ (q9 _) (r9 _)
          refine wpAnyH_take (i := 0) (oi := { dst := some 42, op := Go.Op.fieldAddr 25 (Go.Operand.tmp 5) 4, type := 0, pos := "e_edit.go:188", after := #[], guard := none }) (v := ?_) rfl (by kernel_rfl) (by kernel_rfl) (by kernel_rfl) (fun _ _ _ h => h) (Or.inl ⟨by rfl, ?_⟩) (by assumption) ?_
          rotate_left
          · (intro w hSw; (try dsimp only at hSw); go_simp)
            all_goals with_reducible rfl
          try simp only [Act.put, List.setIfInBounds_toArray, List.set_cons_zero, List.set_cons_succ]
          refine wpAnyH_take (i := 1) (oi := { dst := some 43, op := Go.Op.load 23 (Go.Operand.tmp 42), type := 23, pos := "e_edit.go:188", after := #[{ on := 0, ground := Go.Ground.data }], guard := none }) (v := ?_) rfl (by kernel_rfl) (by kernel_rfl) (by kernel_rfl) (fun _ _ _ h => h) (Or.inl ⟨by rfl, ?_⟩) (by assumption) ?_
          rotate_left
          · (intro w hSw; (try dsimp only at hSw); go_simp)
            all_goals with_reducible rfl
          try simp only [Act.put, List.setIfInBounds_toArray, List.set_cons_zero, List.set_cons_succ]
          refine wpAnyH_take (i := 2) (oi := { dst := some 44, op := Go.Op.fieldAddr 25 (Go.Operand.tmp 5) 4, type := 0, pos := "e_edit.go:188", after := #[], guard := none }) (v := ?_) rfl (by kernel_rfl) (by kernel_rfl) (by kernel_rfl) (fun _ _ _ h => h) (Or.inl ⟨by rfl, ?_⟩) (by assumption) ?_
          rotate_left
          · (intro w hSw; (try dsimp only at hSw); go_simp)
            all_goals with_reducible rfl
          try simp only [Act.put, List.setIfInBounds_toArray, List.set_cons_zero, List.set_cons_succ]
          refine wpAnyH_take (i := 3) (oi := { dst := some 45, op := Go.Op.load 23 (Go.Operand.tmp 44), type := 23, pos := "e_edit.go:188", after := #[{ on := 2, ground := Go.Ground.data }], guard := none }) (v := ?_) rfl (by kernel_rfl) (by kernel_rfl) (by kernel_rfl) (fun _ _ _ h => h) (Or.inl ⟨by rfl, ?_⟩) (by assumption) ?_
          rotate_left
          · (intro w hSw; (try dsimp only at hSw); go_simp)
            all_goals with_reducible rfl
          try simp only [Act.put, List.setIfInBounds_toArray, List.set_cons_zero, List.set_cons_succ]
          refine wpAnyH_take (i := 4) (oi := { dst := some 46, op := Go.Op.indexAddr 23 (Go.Operand.tmp 45) (Go.Operand.const (Go.Value.int Go.IntKind.i64 2)), type := 0, pos := "e_edit.go:188", after := #[{ on := 3, ground := Go.Ground.data }], guard := none }) (v := ?_) rfl (by kernel_rfl) (by kernel_rfl) (by kernel_rfl) (fun _ _ _ h => h) (Or.inl ⟨by rfl, ?_⟩) (by assumption) ?_
          rotate_left
          · (intro w hSw; (try dsimp only at hSw); go_simp)
            all_goals with_reducible rfl
          try simp only [Act.put, List.setIfInBounds_toArray, List.set_cons_zero, List.set_cons_succ]
          refine wpAnyH_take (i := 5) (oi := { dst := some 47, op := Go.Op.fieldAddr 25 (Go.Operand.tmp 46) 4, type := 0, pos := "e_edit.go:188", after := #[{ on := 4, ground := Go.Ground.data }], guard := none }) (v := ?_) rfl (by kernel_rfl) (by kernel_rfl) (by kernel_rfl) (fun _ _ _ h => h) (Or.inl ⟨by rfl, ?_⟩) (by assumption) ?_
          rotate_left
          · (intro w hSw; (try dsimp only at hSw); go_simp)
            all_goals with_reducible rfl
          try simp only [Act.put, List.setIfInBounds_toArray, List.set_cons_zero, List.set_cons_succ]
          refine wpAnyH_take (i := 7) (oi := { dst := some 49, op := Go.Op.fieldAddr 25 (Go.Operand.tmp 5) 4, type := 0, pos := "e_edit.go:188", after := #[], guard := none }) (v := ?_) rfl (by kernel_rfl) (by kernel_rfl) (by kernel_rfl) (fun _ _ _ h => h) (Or.inl ⟨by rfl, ?_⟩) (by assumption) ?_
          rotate_left
          · (intro w hSw; (try dsimp only at hSw); go_simp)
            all_goals with_reducible rfl
          try simp only [Act.put, List.setIfInBounds_toArray, List.set_cons_zero, List.set_cons_succ]
          refine wpAnyH_take (i := 8) (oi := { dst := some 50, op := Go.Op.load 23 (Go.Operand.tmp 49), type := 23, pos := "e_edit.go:188", after := #[{ on := 7, ground := Go.Ground.data }], guard := none }) (v := ?_) rfl (by kernel_rfl) (by kernel_rfl) (by kernel_rfl) (fun _ _ _ h => h) (Or.inl ⟨by rfl, ?_⟩) (by assumption) ?_
          rotate_left
          · (intro w hSw; (try dsimp only at hSw); go_simp)
            all_goals with_reducible rfl
          try simp only [Act.put, List.setIfInBounds_toArray, List.set_cons_zero, List.set_cons_succ]
          refine wpAnyH_take (i := 9) (oi := { dst := some 51, op := Go.Op.indexAddr 23 (Go.Operand.tmp 50) (Go.Operand.const (Go.Value.int Go.IntKind.i64 2)), type := 0, pos := "e_edit.go:188", after := #[{ on := 8, ground := Go.Ground.data }], guard := none }) (v := ?_) rfl (by kernel_rfl) (by kernel_rfl) (by kernel_rfl) (fun _ _ _ h => h) (Or.inl ⟨by rfl, ?_⟩) (by assumption) ?_
          rotate_left
          · (intro w hSw; (try dsimp only at hSw); go_simp)
            all_goals with_reducible rfl
          try simp only [Act.put, List.setIfInBounds_toArray, List.set_cons_zero, List.set_cons_succ]
          refine wpAnyH_take (i := 10) (oi := { dst := some 52, op := Go.Op.fieldAddr 25 (Go.Operand.tmp 51) 4, type := 0, pos := "e_edit.go:188", after := #[{ on := 9, ground := Go.Ground.data }], guard := none }) (v := ?_) rfl (by kernel_rfl) (by kernel_rfl) (by kernel_rfl) (fun _ _ _ h => h) (Or.inl ⟨by rfl, ?_⟩) (by assumption) ?_
          rotate_left
          · (intro w hSw; (try dsimp only at hSw); go_simp)
            all_goals with_reducible rfl
          try simp only [Act.put, List.setIfInBounds_toArray, List.set_cons_zero, List.set_cons_succ]
          refine wpAnyH_ready (rs := [6, 11]) (by kernel_rfl) (by simp) ?_
          refine AllReadyH.cons (o := { dst := some 48, op := Go.Op.load 23 (Go.Operand.tmp 47), type := 23, pos := "e_edit.go:188", after := #[{ on := 5, ground := Go.Ground.data }], guard := none }) rfl (fun K hK => ?_) ?_
          · go_simp
            refine hK.out _ _ ?_ (fun hHeld => ?_)
            · (try dsimp only); first | exact HS.out _ rfl rfl | exact HS.out _ qa ra | exact HS.out _ q8 r8 | exact HS.out _ (q9 _) (r9 _)
            clear hK K
            try simp only [Act.put, List.setIfInBounds_toArray, List.set_cons_zero, List.set_cons_succ]
            refine wpAnyH_ready (rs := [11]) (by kernel_rfl) (by simp) ?_
            refine AllReadyH.cons (o := { dst := some 53, op := Go.Op.load 23 (Go.Operand.tmp 52), type := 23, pos := "e_edit.go:188", after := #[{ on := 10, ground := Go.Ground.data }], guard := none }) rfl (fun K hK => ?_) ?_
            · go_simp
              refine hK.out _ _ ?_ (fun hHeld => ?_)
              · (try dsimp only); first | exact HS.out _ rfl rfl | exact HS.out _ qa ra | exact HS.out _ q8 r8 | exact HS.out _ (q9 _) (r9 _)
              clear hK K
              try simp only [Act.put, List.setIfInBounds_toArray, List.set_cons_zero, List.set_cons_succ]
              refine wpAnyH_take (i := 12) (oi := { dst := some 54, op := Go.Op.indexAddr 23 (Go.Operand.tmp 53) (Go.Operand.const (Go.Value.int Go.IntKind.i64 0)), type := 0, pos := "e_edit.go:188", after := #[{ on := 11, ground := Go.Ground.data }], guard := none }) (v := ?_) rfl (by kernel_rfl) (by kernel_rfl) (by kernel_rfl) (fun _ _ _ h => h) (Or.inl ⟨by rfl, ?_⟩) (by assumption) ?_
              rotate_left
              · (intro w hSw; (try dsimp only at hSw); go_simp)
                all_goals with_reducible rfl
              try simp only [Act.put, List.setIfInBounds_toArray, List.set_cons_zero, List.set_cons_succ]
              refine wpAnyH_take (i := 13) (oi := { dst := some 55, op := Go.Op.load 25 (Go.Operand.tmp 54), type := 25, pos := "e_edit.go:188", after := #[{ on := 12, ground := Go.Ground.data }], guard := none }) (v := ?_) rfl (by kernel_rfl) (by kernel_rfl) (by kernel_rfl) (fun _ _ _ h => h) (Or.inl ⟨by rfl, ?_⟩) (by assumption) ?_
              rotate_left
              · (intro w hSw; (try dsimp only at hSw); go_simp)
                all_goals with_reducible rfl
              try simp only [Act.put, List.setIfInBounds_toArray, List.set_cons_zero, List.set_cons_succ]
              refine wpAnyH_ready (rs := [14]) (by kernel_rfl) (by simp) ?_
              refine AllReadyH.cons (o := { dst := some 56, op := Go.Op.buildSlice 23 1 #[(0, Go.Operand.tmp 55)], type := 23, pos := "e_edit.go:188", after := #[{ on := 13, ground := Go.Ground.data }], guard := none }) rfl (fun K hK => ?_) ?_
              · go_simp
                refine hK.out _ _ ?_ (fun hHeld => ?_)
                · (try dsimp only); first | exact HS.out _ rfl rfl | exact HS.out _ qa ra | exact HS.out _ q8 r8 | exact HS.out _ (q9 _) (r9 _)
                clear hK K
                try simp only [Act.put, List.setIfInBounds_toArray, List.set_cons_zero, List.set_cons_succ]
                refine wpAnyH_ready (rs := [15]) (by kernel_rfl) (by simp) ?_
                refine AllReadyH.cons (o := { dst := some 57, op := Go.Op.call { callee := Go.Callee.builtin Go.Builtin.append, args := #[Go.Operand.tmp 48, Go.Operand.tmp 56], argTypes := #[23, 23] }, type := 23, pos := "e_edit.go:188", after := #[{ on := 6, ground := Go.Ground.data }, { on := 14, ground := Go.Ground.data }], guard := none }) rfl (fun K hK => ?_) ?_
                · refine step_append_grows (by rfl) _ _ 23 (by rfl) 25 i0 _ 5 72 Tryz.underlying23 hi hz0 hz1 hz2 rfl (by decide) (some ⟨g3, 0, none⟩) 1 1 [.int .i64 12, .string ⟨#[]⟩, .string ⟨#[]⟩, .int .u64 0, .slice (some ⟨g2, 0, none⟩) 1 1] (by rfl) (fun h => by cases h) (by rfl) HOL.out ⟨w4.heap.size, 0, none⟩ 1 1 [.int .i64 12, .string ⟨#[]⟩, .string ⟨#[]⟩, .int .u64 0, .slice (some ⟨g2, 0, none⟩) 1 1] (by rfl) (by rfl) HNW.out (by simp [Value.oneCell']) (by decide) (by decide) (by decide) ?_
                  intro v8 w8 hown8 hg8
                  obtain ⟨gn, cn, cur, rfl, hlo, hrow8, hcn, hsz8, htk8⟩ := own_two hown8
                  have hbl8 : ∀ r : Nat, r < w4.heap.size → w8.heap[r]? = w4.heap[r]? := HG8.out w8 hg8
                  have q8 := hbl8 w2.heap.size HSI.out.2.2.2.2
                  have r8 := hbl8 g3 HSI.out.2.2.1
                  have q9 : ∀ x : Value, (w8.setCell ⟨g4, 14, none⟩ x).heap[w2.heap.size]? = w4.heap[w2.heap.size]? := fun x => (heap_set_other x (by have := HLL.out; omega)).trans q8
                  have r9 : ∀ x : Value, (w8.setCell ⟨g4, 14, none⟩ x).heap[g3]? = w4.heap[g3]? := fun x => (heap_set_other x (by have := HLL.out; omega)).trans r8
                  have h48 := (hbl8 g4 HSI.out.2.2.2.1).trans HF4.out.h4
                  have c8 : w8.cell? ⟨g4, 14, none⟩ = some (.slice (some ⟨g3, 0, none⟩) 1 1) := by rw [Lib.cell_of_heap h48]; rfl
                  have f8 := Lib.frozen_of_heap h48 14
                  refine hK.out _ _ ?_ (fun hHeld => ?_)
                  · (try dsimp only); first | exact HS.out _ rfl rfl | exact HS.out _ qa ra | exact HS.out _ q8 r8 | exact HS.out _ (q9 _) (r9 _)
                  clear hK K
                  try simp only [Act.put, List.setIfInBounds_toArray, List.set_cons_zero, List.set_cons_succ]
                  refine wpAnyH_take (i := 16) (oi := { dst := some 58, op := Go.Op.indexAddr 23 (Go.Operand.tmp 43) (Go.Operand.const (Go.Value.int Go.IntKind.i64 2)), type := 0, pos := "e_edit.go:188", after := #[{ on := 1, ground := Go.Ground.data }, { on := 0, ground := Go.Ground.phase }, { on := 1, ground := Go.Ground.phase }, { on := 2, ground := Go.Ground.phase }, { on := 3, ground := Go.Ground.phase }, { on := 4, ground := Go.Ground.phase }, { on := 5, ground := Go.Ground.phase }, { on := 6, ground := Go.Ground.phase }, { on := 7, ground := Go.Ground.phase }, { on := 8, ground := Go.Ground.phase }, { on := 9, ground := Go.Ground.phase }, { on := 10, ground := Go.Ground.phase }, { on := 11, ground := Go.Ground.phase }, { on := 12, ground := Go.Ground.phase }, { on := 13, ground := Go.Ground.phase }, { on := 14, ground := Go.Ground.phase }, { on := 15, ground := Go.Ground.phase }], guard := none }) (v := ?_) rfl (by kernel_rfl) (by kernel_rfl) (by kernel_rfl) (fun _ _ _ h => h) (Or.inl ⟨by rfl, ?_⟩) (by assumption) ?_
                  rotate_left
                  · (intro w hSw; (try dsimp only at hSw); go_simp)
                    all_goals with_reducible rfl
                  try simp only [Act.put, List.setIfInBounds_toArray, List.set_cons_zero, List.set_cons_succ]
                  refine wpAnyH_take (i := 17) (oi := { dst := some 59, op := Go.Op.fieldAddr 25 (Go.Operand.tmp 58) 4, type := 0, pos := "e_edit.go:188", after := #[{ on := 16, ground := Go.Ground.data }, { on := 0, ground := Go.Ground.phase }, { on := 1, ground := Go.Ground.phase }, { on := 2, ground := Go.Ground.phase }, { on := 3, ground := Go.Ground.phase }, { on := 4, ground := Go.Ground.phase }, { on := 5, ground := Go.Ground.phase }, { on := 6, ground := Go.Ground.phase }, { on := 7, ground := Go.Ground.phase }, { on := 8, ground := Go.Ground.phase }, { on := 9, ground := Go.Ground.phase }, { on := 10, ground := Go.Ground.phase }, { on := 11, ground := Go.Ground.phase }, { on := 12, ground := Go.Ground.phase }, { on := 13, ground := Go.Ground.phase }, { on := 14, ground := Go.Ground.phase }, { on := 15, ground := Go.Ground.phase }], guard := none }) (v := ?_) rfl (by kernel_rfl) (by kernel_rfl) (by kernel_rfl) (fun _ _ _ h => h) (Or.inl ⟨by rfl, ?_⟩) (by assumption) ?_
                  rotate_left
                  · (intro w hSw; (try dsimp only at hSw); go_simp)
                    all_goals with_reducible rfl
                  try simp only [Act.put, List.setIfInBounds_toArray, List.set_cons_zero, List.set_cons_succ]
                  refine wpAnyH_ready (rs := [18]) (by kernel_rfl) (by simp) ?_
                  refine AllReadyH.cons (o := { dst := none, op := Go.Op.store 23 (Go.Operand.tmp 59) (Go.Operand.tmp 57), type := 0, pos := "e_edit.go:188", after := #[{ on := 17, ground := Go.Ground.data }, { on := 15, ground := Go.Ground.data }, { on := 15, ground := Go.Ground.chain }, { on := 0, ground := Go.Ground.phase }, { on := 1, ground := Go.Ground.phase }, { on := 2, ground := Go.Ground.phase }, { on := 3, ground := Go.Ground.phase }, { on := 4, ground := Go.Ground.phase }, { on := 5, ground := Go.Ground.phase }, { on := 6, ground := Go.Ground.phase }, { on := 7, ground := Go.Ground.phase }, { on := 8, ground := Go.Ground.phase }, { on := 9, ground := Go.Ground.phase }, { on := 10, ground := Go.Ground.phase }, { on := 11, ground := Go.Ground.phase }, { on := 12, ground := Go.Ground.phase }, { on := 13, ground := Go.Ground.phase }, { on := 14, ground := Go.Ground.phase }, { on := 15, ground := Go.Ground.phase }], guard := none }) rfl (fun K hK => ?_) ?_
                  · go_simp
                    refine hK.out _ _ ?_ (fun hHeld => ?_)
                    · (try dsimp only); first | exact HS.out _ rfl rfl | exact HS.out _ qa ra | exact HS.out _ q8 r8 | exact HS.out _ (q9 _) (r9 _)
                    clear hK K
                    try simp only [Act.put, List.setIfInBounds_toArray, List.set_cons_zero, List.set_cons_succ]
                    refine wpAnyH_done (by kernel_rfl) ?_ _
                    have hlo8 : w4.heap.size ≤ gn := Nat.le_trans (by show w4.heap.size ≤ (w4.alloc (.cells #[.int .i64 12, .string ⟨#[]⟩, .string ⟨#[]⟩, .int .u64 0, .slice (some ⟨g2, 0, none⟩) 1 1] 25)).heap.size; rw [alloc_size]; exact Nat.le_succ _) hlo
                    have h4n := row_setG h48 14 (.slice (some ⟨gn, 0, none⟩) 2 cn)
                    have hLS := HSI.out
                    have hLL := HLL.out
                    have hXL := HX4.out.lt
                    have hXG : w.heap.size < g4 := by have := (Array.getElem?_eq_some_iff.1 HX1.out).1; omega
                    have hgx : (w8.setCell ⟨g4, 14, none⟩ (.slice (some ⟨gn, 0, none⟩) 2 cn)).heap[w.heap.size]? = w4.heap[w.heap.size]? := (heap_set_other _ (by omega)).trans (hbl8 _ hXL)
                    have hgo : OptIn (w8.setCell ⟨g4, 14, none⟩ (.slice (some ⟨gn, 0, none⟩) 2 cn)) g1 g2 := HF4.out.opt.keep ((heap_set_other _ (by omega)).trans (hbl8 _ (by omega))) ((heap_set_other _ (by omega)).trans (hbl8 _ (by omega)))
                    have hgr : (w8.setCell ⟨g4, 14, none⟩ (.slice (some ⟨gn, 0, none⟩) 2 cn)).heap[gn]? = some (.cells cur 25 (0, 0)) := (heap_set_other _ (by omega)).trans hrow8
                    have hgb : Below w.heap.size w (w8.setCell ⟨g4, 14, none⟩ (.slice (some ⟨gn, 0, none⟩) 2 cn)) := (HBB.out w8 hg8).setCell (p := ⟨g4, 14, none⟩) (by have := HB1.out.size; show w.heap.size ≤ g4; omega) _
                    have HMID : Hid (AfterP w w4 (w8.setCell ⟨g4, 14, none⟩ (.slice (some ⟨gn, 0, none⟩) 2 cn)) w2.heap.size g1 g2 g4 gn cn) := Lib.hid ⟨hgx, two_of hgo hcn h4n hgr htk8, (q9 _).trans HFB4.out, hgb, (Array.getElem?_eq_some_iff.1 hgr).1⟩
                    clear hHeld hgx hXL hXG hgo hgr hgb h4n hlo8 hrow8 htk8 hown8 hg8 hlo q8 r8 q9 r9 h48 c8 f8 hbl8 hLS hLL
                    go_wp2_with fail
                    go_meet
                    exact ⟨gn, cn, HMID⟩
                  exact AllReadyH.nil
                exact AllReadyH.nil
              exact AllReadyH.nil
            exact AllReadyH.nil
          refine AllReadyH.cons (o := { dst := some 53, op := Go.Op.load 23 (Go.Operand.tmp 52), type := 23, pos := "e_edit.go:188", after := #[{ on := 10, ground := Go.Ground.data }], guard := none }) rfl (fun K hK => ?_) ?_
          · go_simp
            refine hK.out _ _ ?_ (fun hHeld => ?_)
            · (try dsimp only); first | exact HS.out _ rfl rfl | exact HS.out _ qa ra | exact HS.out _ q8 r8 | exact HS.out _ (q9 _) (r9 _)
            clear hK K
            try simp only [Act.put, List.setIfInBounds_toArray, List.set_cons_zero, List.set_cons_succ]
            refine wpAnyH_take (i := 12) (oi := { dst := some 54, op := Go.Op.indexAddr 23 (Go.Operand.tmp 53) (Go.Operand.const (Go.Value.int Go.IntKind.i64 0)), type := 0, pos := "e_edit.go:188", after := #[{ on := 11, ground := Go.Ground.data }], guard := none }) (v := ?_) rfl (by kernel_rfl) (by kernel_rfl) (by kernel_rfl) (fun _ _ _ h => h) (Or.inl ⟨by rfl, ?_⟩) (by assumption) ?_
            rotate_left
            · (intro w hSw; (try dsimp only at hSw); go_simp)
              all_goals with_reducible rfl
            try simp only [Act.put, List.setIfInBounds_toArray, List.set_cons_zero, List.set_cons_succ]
            refine wpAnyH_take (i := 13) (oi := { dst := some 55, op := Go.Op.load 25 (Go.Operand.tmp 54), type := 25, pos := "e_edit.go:188", after := #[{ on := 12, ground := Go.Ground.data }], guard := none }) (v := ?_) rfl (by kernel_rfl) (by kernel_rfl) (by kernel_rfl) (fun _ _ _ h => h) (Or.inl ⟨by rfl, ?_⟩) (by assumption) ?_
            rotate_left
            · (intro w hSw; (try dsimp only at hSw); go_simp)
              all_goals with_reducible rfl
            try simp only [Act.put, List.setIfInBounds_toArray, List.set_cons_zero, List.set_cons_succ]
            refine wpAnyH_ready (rs := [6, 14]) (by kernel_rfl) (by simp) ?_
            refine AllReadyH.cons (o := { dst := some 48, op := Go.Op.load 23 (Go.Operand.tmp 47), type := 23, pos := "e_edit.go:188", after := #[{ on := 5, ground := Go.Ground.data }], guard := none }) rfl (fun K hK => ?_) ?_
            · go_simp
              refine hK.out _ _ ?_ (fun hHeld => ?_)
              · (try dsimp only); first | exact HS.out _ rfl rfl | exact HS.out _ qa ra | exact HS.out _ q8 r8 | exact HS.out _ (q9 _) (r9 _)
              clear hK K
              try simp only [Act.put, List.setIfInBounds_toArray, List.set_cons_zero, List.set_cons_succ]
              refine wpAnyH_ready (rs := [14]) (by kernel_rfl) (by simp) ?_
              refine AllReadyH.cons (o := { dst := some 56, op := Go.Op.buildSlice 23 1 #[(0, Go.Operand.tmp 55)], type := 23, pos := "e_edit.go:188", after := #[{ on := 13, ground := Go.Ground.data }], guard := none }) rfl (fun K hK => ?_) ?_
              · go_simp
                refine hK.out _ _ ?_ (fun hHeld => ?_)
                · (try dsimp only); first | exact HS.out _ rfl rfl | exact HS.out _ qa ra | exact HS.out _ q8 r8 | exact HS.out _ (q9 _) (r9 _)
                clear hK K
                try simp only [Act.put, List.setIfInBounds_toArray, List.set_cons_zero, List.set_cons_succ]
                refine wpAnyH_ready (rs := [15]) (by kernel_rfl) (by simp) ?_
                refine AllReadyH.cons (o := { dst := some 57, op := Go.Op.call { callee := Go.Callee.builtin Go.Builtin.append, args := #[Go.Operand.tmp 48, Go.Operand.tmp 56], argTypes := #[23, 23] }, type := 23, pos := "e_edit.go:188", after := #[{ on := 6, ground := Go.Ground.data }, { on := 14, ground := Go.Ground.data }], guard := none }) rfl (fun K hK => ?_) ?_
                · refine step_append_grows (by rfl) _ _ 23 (by rfl) 25 i0 _ 5 72 Tryz.underlying23 hi hz0 hz1 hz2 rfl (by decide) (some ⟨g3, 0, none⟩) 1 1 [.int .i64 12, .string ⟨#[]⟩, .string ⟨#[]⟩, .int .u64 0, .slice (some ⟨g2, 0, none⟩) 1 1] (by rfl) (fun h => by cases h) (by rfl) HOL.out ⟨w4.heap.size, 0, none⟩ 1 1 [.int .i64 12, .string ⟨#[]⟩, .string ⟨#[]⟩, .int .u64 0, .slice (some ⟨g2, 0, none⟩) 1 1] (by rfl) (by rfl) HNW.out (by simp [Value.oneCell']) (by decide) (by decide) (by decide) ?_
                  intro v8 w8 hown8 hg8
                  obtain ⟨gn, cn, cur, rfl, hlo, hrow8, hcn, hsz8, htk8⟩ := own_two hown8
                  have hbl8 : ∀ r : Nat, r < w4.heap.size → w8.heap[r]? = w4.heap[r]? := HG8.out w8 hg8
                  have q8 := hbl8 w2.heap.size HSI.out.2.2.2.2
                  have r8 := hbl8 g3 HSI.out.2.2.1
                  have q9 : ∀ x : Value, (w8.setCell ⟨g4, 14, none⟩ x).heap[w2.heap.size]? = w4.heap[w2.heap.size]? := fun x => (heap_set_other x (by have := HLL.out; omega)).trans q8
                  have r9 : ∀ x : Value, (w8.setCell ⟨g4, 14, none⟩ x).heap[g3]? = w4.heap[g3]? := fun x => (heap_set_other x (by have := HLL.out; omega)).trans r8
                  have h48 := (hbl8 g4 HSI.out.2.2.2.1).trans HF4.out.h4
                  have c8 : w8.cell? ⟨g4, 14, none⟩ = some (.slice (some ⟨g3, 0, none⟩) 1 1) := by rw [Lib.cell_of_heap h48]; rfl
                  have f8 := Lib.frozen_of_heap h48 14
                  refine hK.out _ _ ?_ (fun hHeld => ?_)
                  · (try dsimp only); first | exact HS.out _ rfl rfl | exact HS.out _ qa ra | exact HS.out _ q8 r8 | exact HS.out _ (q9 _) (r9 _)
                  clear hK K
                  try simp only [Act.put, List.setIfInBounds_toArray, List.set_cons_zero, List.set_cons_succ]
                  refine wpAnyH_take (i := 16) (oi := { dst := some 58, op := Go.Op.indexAddr 23 (Go.Operand.tmp 43) (Go.Operand.const (Go.Value.int Go.IntKind.i64 2)), type := 0, pos := "e_edit.go:188", after := #[{ on := 1, ground := Go.Ground.data }, { on := 0, ground := Go.Ground.phase }, { on := 1, ground := Go.Ground.phase }, { on := 2, ground := Go.Ground.phase }, { on := 3, ground := Go.Ground.phase }, { on := 4, ground := Go.Ground.phase }, { on := 5, ground := Go.Ground.phase }, { on := 6, ground := Go.Ground.phase }, { on := 7, ground := Go.Ground.phase }, { on := 8, ground := Go.Ground.phase }, { on := 9, ground := Go.Ground.phase }, { on := 10, ground := Go.Ground.phase }, { on := 11, ground := Go.Ground.phase }, { on := 12, ground := Go.Ground.phase }, { on := 13, ground := Go.Ground.phase }, { on := 14, ground := Go.Ground.phase }, { on := 15, ground := Go.Ground.phase }], guard := none }) (v := ?_) rfl (by kernel_rfl) (by kernel_rfl) (by kernel_rfl) (fun _ _ _ h => h) (Or.inl ⟨by rfl, ?_⟩) (by assumption) ?_
                  rotate_left
                  · (intro w hSw; (try dsimp only at hSw); go_simp)
                    all_goals with_reducible rfl
                  try simp only [Act.put, List.setIfInBounds_toArray, List.set_cons_zero, List.set_cons_succ]
                  refine wpAnyH_take (i := 17) (oi := { dst := some 59, op := Go.Op.fieldAddr 25 (Go.Operand.tmp 58) 4, type := 0, pos := "e_edit.go:188", after := #[{ on := 16, ground := Go.Ground.data }, { on := 0, ground := Go.Ground.phase }, { on := 1, ground := Go.Ground.phase }, { on := 2, ground := Go.Ground.phase }, { on := 3, ground := Go.Ground.phase }, { on := 4, ground := Go.Ground.phase }, { on := 5, ground := Go.Ground.phase }, { on := 6, ground := Go.Ground.phase }, { on := 7, ground := Go.Ground.phase }, { on := 8, ground := Go.Ground.phase }, { on := 9, ground := Go.Ground.phase }, { on := 10, ground := Go.Ground.phase }, { on := 11, ground := Go.Ground.phase }, { on := 12, ground := Go.Ground.phase }, { on := 13, ground := Go.Ground.phase }, { on := 14, ground := Go.Ground.phase }, { on := 15, ground := Go.Ground.phase }], guard := none }) (v := ?_) rfl (by kernel_rfl) (by kernel_rfl) (by kernel_rfl) (fun _ _ _ h => h) (Or.inl ⟨by rfl, ?_⟩) (by assumption) ?_
                  rotate_left
                  · (intro w hSw; (try dsimp only at hSw); go_simp)
                    all_goals with_reducible rfl
                  try simp only [Act.put, List.setIfInBounds_toArray, List.set_cons_zero, List.set_cons_succ]
                  refine wpAnyH_ready (rs := [18]) (by kernel_rfl) (by simp) ?_
                  refine AllReadyH.cons (o := { dst := none, op := Go.Op.store 23 (Go.Operand.tmp 59) (Go.Operand.tmp 57), type := 0, pos := "e_edit.go:188", after := #[{ on := 17, ground := Go.Ground.data }, { on := 15, ground := Go.Ground.data }, { on := 15, ground := Go.Ground.chain }, { on := 0, ground := Go.Ground.phase }, { on := 1, ground := Go.Ground.phase }, { on := 2, ground := Go.Ground.phase }, { on := 3, ground := Go.Ground.phase }, { on := 4, ground := Go.Ground.phase }, { on := 5, ground := Go.Ground.phase }, { on := 6, ground := Go.Ground.phase }, { on := 7, ground := Go.Ground.phase }, { on := 8, ground := Go.Ground.phase }, { on := 9, ground := Go.Ground.phase }, { on := 10, ground := Go.Ground.phase }, { on := 11, ground := Go.Ground.phase }, { on := 12, ground := Go.Ground.phase }, { on := 13, ground := Go.Ground.phase }, { on := 14, ground := Go.Ground.phase }, { on := 15, ground := Go.Ground.phase }], guard := none }) rfl (fun K hK => ?_) ?_
                  · go_simp
                    refine hK.out _ _ ?_ (fun hHeld => ?_)
                    · (try dsimp only); first | exact HS.out _ rfl rfl | exact HS.out _ qa ra | exact HS.out _ q8 r8 | exact HS.out _ (q9 _) (r9 _)
                    clear hK K
                    try simp only [Act.put, List.setIfInBounds_toArray, List.set_cons_zero, List.set_cons_succ]
                    refine wpAnyH_done (by kernel_rfl) ?_ _
                    have hlo8 : w4.heap.size ≤ gn := Nat.le_trans (by show w4.heap.size ≤ (w4.alloc (.cells #[.int .i64 12, .string ⟨#[]⟩, .string ⟨#[]⟩, .int .u64 0, .slice (some ⟨g2, 0, none⟩) 1 1] 25)).heap.size; rw [alloc_size]; exact Nat.le_succ _) hlo
                    have h4n := row_setG h48 14 (.slice (some ⟨gn, 0, none⟩) 2 cn)
                    have hLS := HSI.out
                    have hLL := HLL.out
                    have hXL := HX4.out.lt
                    have hXG : w.heap.size < g4 := by have := (Array.getElem?_eq_some_iff.1 HX1.out).1; omega
                    have hgx : (w8.setCell ⟨g4, 14, none⟩ (.slice (some ⟨gn, 0, none⟩) 2 cn)).heap[w.heap.size]? = w4.heap[w.heap.size]? := (heap_set_other _ (by omega)).trans (hbl8 _ hXL)
                    have hgo : OptIn (w8.setCell ⟨g4, 14, none⟩ (.slice (some ⟨gn, 0, none⟩) 2 cn)) g1 g2 := HF4.out.opt.keep ((heap_set_other _ (by omega)).trans (hbl8 _ (by omega))) ((heap_set_other _ (by omega)).trans (hbl8 _ (by omega)))
                    have hgr : (w8.setCell ⟨g4, 14, none⟩ (.slice (some ⟨gn, 0, none⟩) 2 cn)).heap[gn]? = some (.cells cur 25 (0, 0)) := (heap_set_other _ (by omega)).trans hrow8
                    have hgb : Below w.heap.size w (w8.setCell ⟨g4, 14, none⟩ (.slice (some ⟨gn, 0, none⟩) 2 cn)) := (HBB.out w8 hg8).setCell (p := ⟨g4, 14, none⟩) (by have := HB1.out.size; show w.heap.size ≤ g4; omega) _
                    have HMID : Hid (AfterP w w4 (w8.setCell ⟨g4, 14, none⟩ (.slice (some ⟨gn, 0, none⟩) 2 cn)) w2.heap.size g1 g2 g4 gn cn) := Lib.hid ⟨hgx, two_of hgo hcn h4n hgr htk8, (q9 _).trans HFB4.out, hgb, (Array.getElem?_eq_some_iff.1 hgr).1⟩
                    clear hHeld hgx hXL hXG hgo hgr hgb h4n hlo8 hrow8 htk8 hown8 hg8 hlo q8 r8 q9 r9 h48 c8 f8 hbl8 hLS hLL
                    go_wp2_with fail
                    go_meet
                    exact ⟨gn, cn, HMID⟩
                  exact AllReadyH.nil
                exact AllReadyH.nil
              exact AllReadyH.nil
            refine AllReadyH.cons (o := { dst := some 56, op := Go.Op.buildSlice 23 1 #[(0, Go.Operand.tmp 55)], type := 23, pos := "e_edit.go:188", after := #[{ on := 13, ground := Go.Ground.data }], guard := none }) rfl (fun K hK => ?_) ?_
            · go_simp
              refine hK.out _ _ ?_ (fun hHeld => ?_)
              · (try dsimp only); first | exact HS.out _ rfl rfl | exact HS.out _ qa ra | exact HS.out _ q8 r8 | exact HS.out _ (q9 _) (r9 _)
              clear hK K
              try simp only [Act.put, List.setIfInBounds_toArray, List.set_cons_zero, List.set_cons_succ]
              refine wpAnyH_ready (rs := [6]) (by kernel_rfl) (by simp) ?_
              refine AllReadyH.cons (o := { dst := some 48, op := Go.Op.load 23 (Go.Operand.tmp 47), type := 23, pos := "e_edit.go:188", after := #[{ on := 5, ground := Go.Ground.data }], guard := none }) rfl (fun K hK => ?_) ?_
              · go_simp
                refine hK.out _ _ ?_ (fun hHeld => ?_)
                · (try dsimp only); first | exact HS.out _ rfl rfl | exact HS.out _ qa ra | exact HS.out _ q8 r8 | exact HS.out _ (q9 _) (r9 _)
                clear hK K
                try simp only [Act.put, List.setIfInBounds_toArray, List.set_cons_zero, List.set_cons_succ]
                refine wpAnyH_ready (rs := [15]) (by kernel_rfl) (by simp) ?_
                refine AllReadyH.cons (o := { dst := some 57, op := Go.Op.call { callee := Go.Callee.builtin Go.Builtin.append, args := #[Go.Operand.tmp 48, Go.Operand.tmp 56], argTypes := #[23, 23] }, type := 23, pos := "e_edit.go:188", after := #[{ on := 6, ground := Go.Ground.data }, { on := 14, ground := Go.Ground.data }], guard := none }) rfl (fun K hK => ?_) ?_
                · refine step_append_grows (by rfl) _ _ 23 (by rfl) 25 i0 _ 5 72 Tryz.underlying23 hi hz0 hz1 hz2 rfl (by decide) (some ⟨g3, 0, none⟩) 1 1 [.int .i64 12, .string ⟨#[]⟩, .string ⟨#[]⟩, .int .u64 0, .slice (some ⟨g2, 0, none⟩) 1 1] (by rfl) (fun h => by cases h) (by rfl) HOL.out ⟨w4.heap.size, 0, none⟩ 1 1 [.int .i64 12, .string ⟨#[]⟩, .string ⟨#[]⟩, .int .u64 0, .slice (some ⟨g2, 0, none⟩) 1 1] (by rfl) (by rfl) HNW.out (by simp [Value.oneCell']) (by decide) (by decide) (by decide) ?_
                  intro v8 w8 hown8 hg8
                  obtain ⟨gn, cn, cur, rfl, hlo, hrow8, hcn, hsz8, htk8⟩ := own_two hown8
                  have hbl8 : ∀ r : Nat, r < w4.heap.size → w8.heap[r]? = w4.heap[r]? := HG8.out w8 hg8
                  have q8 := hbl8 w2.heap.size HSI.out.2.2.2.2
                  have r8 := hbl8 g3 HSI.out.2.2.1
                  have q9 : ∀ x : Value, (w8.setCell ⟨g4, 14, none⟩ x).heap[w2.heap.size]? = w4.heap[w2.heap.size]? := fun x => (heap_set_other x (by have := HLL.out; omega)).trans q8
                  have r9 : ∀ x : Value, (w8.setCell ⟨g4, 14, none⟩ x).heap[g3]? = w4.heap[g3]? := fun x => (heap_set_other x (by have := HLL.out; omega)).trans r8
                  have h48 := (hbl8 g4 HSI.out.2.2.2.1).trans HF4.out.h4
                  have c8 : w8.cell? ⟨g4, 14, none⟩ = some (.slice (some ⟨g3, 0, none⟩) 1 1) := by rw [Lib.cell_of_heap h48]; rfl
                  have f8 := Lib.frozen_of_heap h48 14
                  refine hK.out _ _ ?_ (fun hHeld => ?_)
                  · (try dsimp only); first | exact HS.out _ rfl rfl | exact HS.out _ qa ra | exact HS.out _ q8 r8 | exact HS.out _ (q9 _) (r9 _)
                  clear hK K
                  try simp only [Act.put, List.setIfInBounds_toArray, List.set_cons_zero, List.set_cons_succ]
                  refine wpAnyH_take (i := 16) (oi := { dst := some 58, op := Go.Op.indexAddr 23 (Go.Operand.tmp 43) (Go.Operand.const (Go.Value.int Go.IntKind.i64 2)), type := 0, pos := "e_edit.go:188", after := #[{ on := 1, ground := Go.Ground.data }, { on := 0, ground := Go.Ground.phase }, { on := 1, ground := Go.Ground.phase }, { on := 2, ground := Go.Ground.phase }, { on := 3, ground := Go.Ground.phase }, { on := 4, ground := Go.Ground.phase }, { on := 5, ground := Go.Ground.phase }, { on := 6, ground := Go.Ground.phase }, { on := 7, ground := Go.Ground.phase }, { on := 8, ground := Go.Ground.phase }, { on := 9, ground := Go.Ground.phase }, { on := 10, ground := Go.Ground.phase }, { on := 11, ground := Go.Ground.phase }, { on := 12, ground := Go.Ground.phase }, { on := 13, ground := Go.Ground.phase }, { on := 14, ground := Go.Ground.phase }, { on := 15, ground := Go.Ground.phase }], guard := none }) (v := ?_) rfl (by kernel_rfl) (by kernel_rfl) (by kernel_rfl) (fun _ _ _ h => h) (Or.inl ⟨by rfl, ?_⟩) (by assumption) ?_
                  rotate_left
                  · (intro w hSw; (try dsimp only at hSw); go_simp)
                    all_goals with_reducible rfl
                  try simp only [Act.put, List.setIfInBounds_toArray, List.set_cons_zero, List.set_cons_succ]
                  refine wpAnyH_take (i := 17) (oi := { dst := some 59, op := Go.Op.fieldAddr 25 (Go.Operand.tmp 58) 4, type := 0, pos := "e_edit.go:188", after := #[{ on := 16, ground := Go.Ground.data }, { on := 0, ground := Go.Ground.phase }, { on := 1, ground := Go.Ground.phase }, { on := 2, ground := Go.Ground.phase }, { on := 3, ground := Go.Ground.phase }, { on := 4, ground := Go.Ground.phase }, { on := 5, ground := Go.Ground.phase }, { on := 6, ground := Go.Ground.phase }, { on := 7, ground := Go.Ground.phase }, { on := 8, ground := Go.Ground.phase }, { on := 9, ground := Go.Ground.phase }, { on := 10, ground := Go.Ground.phase }, { on := 11, ground := Go.Ground.phase }, { on := 12, ground := Go.Ground.phase }, { on := 13, ground := Go.Ground.phase }, { on := 14, ground := Go.Ground.phase }, { on := 15, ground := Go.Ground.phase }], guard := none }) (v := ?_) rfl (by kernel_rfl) (by kernel_rfl) (by kernel_rfl) (fun _ _ _ h => h) (Or.inl ⟨by rfl, ?_⟩) (by assumption) ?_
                  rotate_left
                  · (intro w hSw; (try dsimp only at hSw); go_simp)
                    all_goals with_reducible rfl
                  try simp only [Act.put, List.setIfInBounds_toArray, List.set_cons_zero, List.set_cons_succ]
                  refine wpAnyH_ready (rs := [18]) (by kernel_rfl) (by simp) ?_
                  refine AllReadyH.cons (o := { dst := none, op := Go.Op.store 23 (Go.Operand.tmp 59) (Go.Operand.tmp 57), type := 0, pos := "e_edit.go:188", after := #[{ on := 17, ground := Go.Ground.data }, { on := 15, ground := Go.Ground.data }, { on := 15, ground := Go.Ground.chain }, { on := 0, ground := Go.Ground.phase }, { on := 1, ground := Go.Ground.phase }, { on := 2, ground := Go.Ground.phase }, { on := 3, ground := Go.Ground.phase }, { on := 4, ground := Go.Ground.phase }, { on := 5, ground := Go.Ground.phase }, { on := 6, ground := Go.Ground.phase }, { on := 7, ground := Go.Ground.phase }, { on := 8, ground := Go.Ground.phase }, { on := 9, ground := Go.Ground.phase }, { on := 10, ground := Go.Ground.phase }, { on := 11, ground := Go.Ground.phase }, { on := 12, ground := Go.Ground.phase }, { on := 13, ground := Go.Ground.phase }, { on := 14, ground := Go.Ground.phase }, { on := 15, ground := Go.Ground.phase }], guard := none }) rfl (fun K hK => ?_) ?_
                  · go_simp
                    refine hK.out _ _ ?_ (fun hHeld => ?_)
                    · (try dsimp only); first | exact HS.out _ rfl rfl | exact HS.out _ qa ra | exact HS.out _ q8 r8 | exact HS.out _ (q9 _) (r9 _)
                    clear hK K
                    try simp only [Act.put, List.setIfInBounds_toArray, List.set_cons_zero, List.set_cons_succ]
                    refine wpAnyH_done (by kernel_rfl) ?_ _
                    have hlo8 : w4.heap.size ≤ gn := Nat.le_trans (by show w4.heap.size ≤ (w4.alloc (.cells #[.int .i64 12, .string ⟨#[]⟩, .string ⟨#[]⟩, .int .u64 0, .slice (some ⟨g2, 0, none⟩) 1 1] 25)).heap.size; rw [alloc_size]; exact Nat.le_succ _) hlo
                    have h4n := row_setG h48 14 (.slice (some ⟨gn, 0, none⟩) 2 cn)
                    have hLS := HSI.out
                    have hLL := HLL.out
                    have hXL := HX4.out.lt
                    have hXG : w.heap.size < g4 := by have := (Array.getElem?_eq_some_iff.1 HX1.out).1; omega
                    have hgx : (w8.setCell ⟨g4, 14, none⟩ (.slice (some ⟨gn, 0, none⟩) 2 cn)).heap[w.heap.size]? = w4.heap[w.heap.size]? := (heap_set_other _ (by omega)).trans (hbl8 _ hXL)
                    have hgo : OptIn (w8.setCell ⟨g4, 14, none⟩ (.slice (some ⟨gn, 0, none⟩) 2 cn)) g1 g2 := HF4.out.opt.keep ((heap_set_other _ (by omega)).trans (hbl8 _ (by omega))) ((heap_set_other _ (by omega)).trans (hbl8 _ (by omega)))
                    have hgr : (w8.setCell ⟨g4, 14, none⟩ (.slice (some ⟨gn, 0, none⟩) 2 cn)).heap[gn]? = some (.cells cur 25 (0, 0)) := (heap_set_other _ (by omega)).trans hrow8
                    have hgb : Below w.heap.size w (w8.setCell ⟨g4, 14, none⟩ (.slice (some ⟨gn, 0, none⟩) 2 cn)) := (HBB.out w8 hg8).setCell (p := ⟨g4, 14, none⟩) (by have := HB1.out.size; show w.heap.size ≤ g4; omega) _
                    have HMID : Hid (AfterP w w4 (w8.setCell ⟨g4, 14, none⟩ (.slice (some ⟨gn, 0, none⟩) 2 cn)) w2.heap.size g1 g2 g4 gn cn) := Lib.hid ⟨hgx, two_of hgo hcn h4n hgr htk8, (q9 _).trans HFB4.out, hgb, (Array.getElem?_eq_some_iff.1 hgr).1⟩
                    clear hHeld hgx hXL hXG hgo hgr hgb h4n hlo8 hrow8 htk8 hown8 hg8 hlo q8 r8 q9 r9 h48 c8 f8 hbl8 hLS hLL
                    go_wp2_with fail
                    go_meet
                    exact ⟨gn, cn, HMID⟩
                  exact AllReadyH.nil
                exact AllReadyH.nil
              exact AllReadyH.nil
            exact AllReadyH.nil
          exact AllReadyH.nil
        case rest =>
          obtain ⟨gn, cn, HAP⟩ := hcut
          have HX9 : Hid (BoxAt w.heap.size k x m n a ks.length c wc) := Lib.hid (HAP.out.file.trans HX4.out)
          have hnode : NodeIn wc (· < wc.heap.size) (fileT [optT, optT]) (nodeU 3 ⟨#[]⟩ ⟨#[]⟩ 0 (some ⟨g4, 0, none⟩) 3 3) := HAP.out.two.file (Array.getElem?_eq_some_iff.1 HAP.out.two.opt.h1).1 (Array.getElem?_eq_some_iff.1 HAP.out.two.opt.h2).1 (Array.getElem?_eq_some_iff.1 HAP.out.two.h4).1 HAP.out.gn
          have himp := implDup_any (t := ⟨#[]⟩) (m := ⟨#[]⟩) (a0 := noT) (l1 := []) (l2 := [optT, optT]) (name := ⟨#[97]⟩) (fileT_ast [optT, optT] (by simp)) fileT_count _ wc hnode (Nat.le_refl _)
          rw [two_hits] at himp
          unfold nodeU at himp
          have HIM := Lib.hid himp
          have HBC := Lib.hid HAP.out.bel
          have hfx := HAP.out.box
          have c0 : wc.cell? ⟨w2.heap.size, 0, none⟩ = some (.int .i64 3) := by rw [Lib.cell_of_heap hfx]; rfl
          have c1 : wc.cell? ⟨w2.heap.size, 1, none⟩ = some (.string ⟨#[]⟩) := by rw [Lib.cell_of_heap hfx]; rfl
          have c2 : wc.cell? ⟨w2.heap.size, 2, none⟩ = some (.string ⟨#[]⟩) := by rw [Lib.cell_of_heap hfx]; rfl
          have c3 : wc.cell? ⟨w2.heap.size, 3, none⟩ = some (.int .u64 0) := by rw [Lib.cell_of_heap hfx]; rfl
          have c4 : wc.cell? ⟨w2.heap.size, 4, none⟩ = some (.slice (some ⟨g4, 0, none⟩) 3 3) := by rw [Lib.cell_of_heap hfx]; rfl
          clear himp hnode hfx
          go_wp2_with fail
          ((with_reducible refine HIM.out.mono ?_))
          rintro e w9 ⟨rfl, hb9⟩
          have HB9 := Lib.hid (HBC.out.trans (hb9.mono HBC.out.size))
          have HX10 := Lib.hid (HX9.out.below hb9)
          have hwk := walked_any _ _ N w9 (HV.out.keep (Keep.of_below HB9.out hN)) (Nat.le_trans hN HB9.out.size) (Utf8Tabs_below HT.out HB9.out)
          unfold nodeU at hwk
          have HWK := Lib.hid hwk
          obtain ⟨d0, d1, d2, d3, d4⟩ := HX10.out.five
          clear hb9 hwk c0 c1 c2 c3 c4 HIM HAP
          go_wp2_with fail
          ((with_reducible refine HWK.out.mono ?_))
          rintro e w10 ⟨b, rfl, hb, hb10⟩
          have HB10 := Lib.hid (HB9.out.trans (hb10.mono HB9.out.size))
          have HX11 := Lib.hid (HX10.out.below hb10)
          clear hb10 d0 d1 d2 d3 d4 HWK
          obtain ⟨d0, d1, d2, d3, d4⟩ := HX11.out.five
          cases b with
          | false =>
            clear hb
            go_wp2
            go_ret
            exact ⟨rfl, HB10.out⟩
          | true =>
            obtain ⟨hT0, hcnt⟩ := hb rfl
            have HTC := Lib.hid (And.intro hT0 hcnt)
            clear hb hT0 hcnt
            by_cases hk3 : k = 3
            · subst hk3
              have HNM := Lib.hid (name_any name HNS.out w10 (Utf8Tabs_below HT.out HB10.out))
              go_wp2_with fail
              ((with_reducible refine HNM.out.mono ?_))
              rintro e w11 ⟨b, rfl, hn, hb11⟩
              have HB11 := Lib.hid (HB10.out.trans (hb11.mono HB10.out.size))
              have HX12 := Lib.hid (HX11.out.below hb11)
              clear hb11 d0 d1 d2 d3 d4 HNM
              cases b with
              | false =>
                clear hn
                go_wp2
                go_ret
                exact ⟨rfl, HB11.out⟩
              | true =>
                have HNE := Lib.hid (hn rfl)
                clear hn
                obtain ⟨t', m', a0, l1, l2, he, hA, hK⟩ := HTC.out.1.file rfl
                injection he with e1 e2 e3 e4 e5
                subst e2 e3 e4 e5
                have HHA := Lib.hid hA
                have hlen : l2.length ≤ 1000 := by
                  have hc := HTC.out.2
                  simp only [Tr.count_mk, List.map_cons, List.map_nil, List.sum_cons, List.sum_nil] at hc
                  have := cnt_len l2
                  omega
                obtain ⟨b, o, rfl, hbN, hkid⟩ := HV.out.kidsAt (by simp)
                obtain ⟨x2, y2, hn2, z0, z1, z2, z3, z4⟩ := hkid w (Keep.refl _ _) 2 (by simp)
                simp only [List.getElem_cons_zero, List.getElem_cons_succ, Nat.reduceMul, Tr.kind, Tr.text, Tr.more, Tr.num, Tr.kids] at hn2 z4
                have z5 := (HB11.out.cell (p := ⟨b, o + 10 + 4, none⟩) (Nat.lt_of_lt_of_le hbN hN)).trans z4
                have HROW := Lib.hid (RowN.of hn2)
                have HIU : Hid (∀ W, Below w.heap.size w W → Calls Tryz.prog 6 #[.agg #[.int .i64 3, .string x, .string m, .int .u64 0, .slice (some ⟨b, o, none⟩) 3 c], .string name] W fun e w' => e = .returned (.tuple #[.bool (decide (1 < hits name l2)), .bool true]) ∧ Below W.heap.size W w') := Lib.hid fun W hb => implDup_any HTC.out.1 HTC.out.2 _ W (HV.out.keep (Keep.of_below hb hN)) (Nat.le_trans hN hb.size)
                have HOP : Hid (∀ W, Below w.heap.size w W → Calls Tryz.prog 9 #[.agg #[.int .i64 3, .string x, .string m, .int .u64 0, .slice (some ⟨b, o, none⟩) 3 c], .string name] W fun e w' => e = .returned (.int .i64 (hits name l2 : Nat)) ∧ Below W.heap.size W w') := Lib.hid fun W hb => options_any HNE.out HHA.out hlen _ W (HV.out.keep (Keep.of_below hb hN)) (Nat.le_trans hN hb.size)
                have HX13 : Hid (BoxAt w.heap.size 3 x m 0 (some ⟨b, o, none⟩) 3 c w11) := HX12
                obtain ⟨d0, d1, d2, d3, d4⟩ := HX13.out.five
                clear hkid hn2 z0 z1 z2 z3 z4 hA hK HX12 e1
                go_wp2
                go_loopw [89] (fun i wr => ∃ j : Nat, j ≤ l2.length ∧ i = .int .i64 j ∧ Hid (Below w.heap.size w wr) ∧ Hid (BoxAt w.heap.size 3 x m 0 (some ⟨b, o, none⟩) 3 c wr)) (fun i _ => l2.length - (intOf i).toNat)
                case atStart => exact ⟨0, Nat.zero_le _, rfl, HB11, HX13⟩
                case round =>
                  obtain ⟨j, hj, rfl, HW, HXW⟩ := hrel
                  by_cases hlt : j < l2.length
                  · obtain ⟨b', o', rfl, hb'N, hkid'⟩ := HROW.out (by omega)
                    obtain ⟨x1, y1, hin, e0, e1, e2, e3, e4⟩ := hkid' wr (Keep.of_below HW.out hN) j hlt
                    have HAX := Lib.hid (HHA.out _ (List.getElem_mem hlt))
                    clear hkid' HROW z5 d0 d1 d2 d3 d4
                    generalize l2[j] = y at *
                    have hi1 : (j : Int) < l2.length := by omega
                    have hi0 : (0 : Int) ≤ j := by omega
                    have hNr : N ≤ wr.heap.size := Nat.le_trans hN HW.out.size
                    by_cases h12 : y.kind = 12
                    · obtain ⟨q, rfl, hkq, hTq⟩ := HAX.out.opt h12
                      simp only [Tr.kind, Tr.text, Tr.more, Tr.num, Tr.kids, List.length_cons, List.length_nil] at e0 e1 e2 e3 e4 hin
                      obtain ⟨b1, o1, rfl, hb1N, hk1⟩ := hin.kidsAt (by simp)
                      have hbq := (Below.refl wr.heap.size wr).alloc (Nat.le_refl _) (.cells #[.int .i64 12, .string ⟨#[]⟩, .string ⟨#[]⟩, .int .u64 0, .slice (some ⟨b1, o1, none⟩) 1 y1] 25)
                      obtain ⟨xa, ya, hna, f0, f1, f2, f3, f4⟩ := hk1 (wr.alloc (.cells #[.int .i64 12, .string ⟨#[]⟩, .string ⟨#[]⟩, .int .u64 0, .slice (some ⟨b1, o1, none⟩) 1 y1] 25)) (Keep.of_below hbq hNr) 0 (by simp)
                      simp only [List.getElem_cons_zero, Nat.zero_mul, Nat.add_zero] at f0
                      have HBQ := Lib.hid (HW.out.trans (hbq.mono HW.out.size))
                      have HXQ := Lib.hid (HXW.out.below hbq)
                      clear hk1 hna f1 f2 f3 f4 hbq hin HAX
                      rcases hkq with hk10 | hk11
                      · rw [hk10] at f0
                        go_wp2
                        go_roundw
                        case rel => exact ⟨j + 1, by omega, by go_num, HBQ, HXQ⟩
                        case measure => simp [intOf]; omega
                      · rw [hk11] at f0
                        go_wp2
                        go_ret
                        exact ⟨rfl, HBQ.out⟩
                    · have h12b : (y.kind == 12) = false := beq_eq_false_iff_ne.2 h12
                      have hbq := (Below.refl wr.heap.size wr).alloc (Nat.le_refl _) (.cells #[.int .i64 y.kind, .string y.text, .string y.more, .int .u64 y.num, .slice x1 y.kids.length y1] 25)
                      have HBQ := Lib.hid (HW.out.trans (hbq.mono HW.out.size))
                      have HXQ := Lib.hid (HXW.out.below hbq)
                      clear hin HAX hbq
                      go_wp2
                      go_roundw
                      case rel => exact ⟨j + 1, by omega, by go_num, HBQ, HXQ⟩
                      case measure => simp [intOf]; omega
                  · have hje : j = l2.length := by omega
                    subst hje
                    have HI1 := Lib.hid (HIU.out wr HW.out)
                    obtain ⟨p0, p1, p2, p3, p4⟩ := HXW.out.five
                    clear z5 d0 d1 d2 d3 d4
                    by_cases h1 : 1 < hits name l2
                    · have h1i : (1 : Int) < (hits name l2 : Nat) := by omega
                      have hdt : decide (1 < hits name l2) = true := decide_eq_true h1
                      rw [hdt] at HI1
                      go_wp2_with fail
                      ((with_reducible refine HI1.out.mono ?_))
                      rintro e w12 ⟨rfl, hb12⟩
                      have HB12 := Lib.hid (HW.out.trans (hb12.mono HW.out.size))
                      have HX14 := Lib.hid (HXW.out.below hb12)
                      have HO := Lib.hid (HOP.out w12 HB12.out)
                      clear p0 p1 p2 p3 p4 hb12 hdt
                      obtain ⟨p0, p1, p2, p3, p4⟩ := HX14.out.five
                      go_wp2_with fail
                      ((with_reducible refine HO.out.mono ?_))
                      rintro e w13 ⟨rfl, hb13⟩
                      have HB13 := Lib.hid (HB12.out.trans (hb13.mono HB12.out.size))
                      clear hb13 p0 p1 p2 p3 p4
                      go_wp2
                      go_ret
                      exact ⟨rfl, HB13.out⟩
                    · have h1i : ¬ (1 : Int) < (hits name l2 : Nat) := by omega
                      have hdt : decide (1 < hits name l2) = false := decide_eq_false h1
                      have hdb : decide ((1 : Int) < (hits name l2 : Nat)) = false := decide_eq_false h1i
                      rw [hdt] at HI1
                      go_wp2_with fail
                      ((with_reducible refine HI1.out.mono ?_))
                      rintro e w12 ⟨rfl, hb12⟩
                      have HB12 := Lib.hid (HW.out.trans (hb12.mono HW.out.size))
                      have HX14 := Lib.hid (HXW.out.below hb12)
                      have HO := Lib.hid (HOP.out w12 HB12.out)
                      clear p0 p1 p2 p3 p4 hb12 hdt
                      obtain ⟨p0, p1, p2, p3, p4⟩ := HX14.out.five
                      go_wp2_with fail
                      ((with_reducible refine HO.out.mono ?_))
                      rintro e w13 ⟨rfl, hb13⟩
                      have HB13 := Lib.hid (HB12.out.trans (hb13.mono HB12.out.size))
                      clear hb13 p0 p1 p2 p3 p4
                      go_wp2
                      go_ret
                      exact ⟨rfl, HB13.out⟩
            · have hk3b : (k == 3) = false := beq_eq_false_iff_ne.2 hk3
              have hk3c : (k != 3) = true := by simp [bne, hk3b]
              go_wp2
              go_ret
              exact ⟨rfl, HB10.out⟩
      · go_upto_region 5 with fail
        obtain ⟨w4, hw4⟩ : ∃ w4, w4 = (w3.alloc (.cells #[.bool true] 4)).drew := ⟨_, rfl⟩
        rw [← hw4]
        have hs4 : w3.heap.size < w4.heap.size := by rw [hw4]; show w3.heap.size < (w3.alloc (.cells #[.bool true] 4)).heap.size; rw [alloc_size]; exact Nat.lt_succ_self _
        have hb34 : Below w3.heap.size w3 w4 := by rw [hw4]; exact ((Below.refl _ w3).alloc (Nat.le_refl _) _).drew
        have hb4 : Below w.heap.size w w4 := (HB2.out.trans (HB3.out.mono HB2.out.size)).trans (hb34.mono (Nat.le_trans HB2.out.size HB3.out.size))
        have HB4 := Lib.hid hb4
        have hf4 : FileIn w4 g1 g2 g3 g4 := by
          have hh : ∀ r, r < w2.heap.size → w4.heap[r]? = w2.heap[r]? := fun r hr => (hb34.block r (Nat.lt_of_lt_of_le hr HB3.out.size)).trans (HB3.out.block r hr)
          obtain ⟨a1, a2, a3, a4, a5⟩ := HLL.out
          exact ⟨HF2.out.opt.keep (hh _ (by omega)) (hh _ (by omega)), (hh _ (by omega)).trans HF2.out.h3, (hh _ (by omega)).trans HF2.out.h4⟩
        have HF4 := Lib.hid hf4
        have hfb4 : w4.heap[w2.heap.size]? = some (.cells #[.int .i64 3, .string ⟨#[]⟩, .string ⟨#[]⟩, .int .u64 0, .slice (some ⟨g4, 0, none⟩) 3 3] 25 (0, 0)) := (hb34.block _ (Array.getElem?_eq_some_iff.1 HFB.out).1).trans HFB.out
        have HFB4 := Lib.hid hfb4
        have HX4 := Lib.hid (HX2.out.below (HB3.out.trans (hb34.mono HB3.out.size)))
        have HSI : Hid (g1 < w4.heap.size ∧ g2 < w4.heap.size ∧ g3 < w4.heap.size ∧ g4 < w4.heap.size ∧ w2.heap.size < w4.heap.size) := Lib.hid (by
          obtain ⟨a1, a2, a3, a4, a5⟩ := HLL.out
          have := HB3.out.size
          have := (Array.getElem?_eq_some_iff.1 HFB4.out).1
          exact ⟨by omega, by omega, by omega, by omega, this⟩)
        have HS : Hid (∀ w' : World, w'.heap[w2.heap.size]? = w4.heap[w2.heap.size]? → w'.heap[g3]? = w4.heap[g3]? → w'.cell? ⟨w2.heap.size, 4, none⟩ = some (.slice (some ⟨g4, 0, none⟩) 3 3) ∧ (w'.cell? ⟨g3, 0, none⟩ = some (.int .i64 12) ∧ w'.cell? ⟨g3, 1, none⟩ = some (.string ⟨#[]⟩) ∧ w'.cell? ⟨g3, 2, none⟩ = some (.string ⟨#[]⟩) ∧ w'.cell? ⟨g3, 3, none⟩ = some (.int .u64 0) ∧ w'.cell? ⟨g3, 4, none⟩ = some (.slice (some ⟨g2, 0, none⟩) 1 1))) := Lib.hid fun w' h1 h2 => by
          have e1 := h1.trans HFB4.out
          have e2 := h2.trans HF4.out.h3
          exact ⟨by rw [Lib.cell_of_heap e1]; rfl, by rw [Lib.cell_of_heap e2]; rfl, by rw [Lib.cell_of_heap e2]; rfl, by rw [Lib.cell_of_heap e2]; rfl, by rw [Lib.cell_of_heap e2]; rfl, by rw [Lib.cell_of_heap e2]; rfl⟩
        have c14 : w4.cell? ⟨g4, 14, none⟩ = some (.slice (some ⟨g3, 0, none⟩) 1 1) := by rw [Lib.cell_of_heap HF4.out.h4]; rfl
        have c14d : w4.drew.cell? ⟨g4, 14, none⟩ = some (.slice (some ⟨g3, 0, none⟩) 1 1) := c14
        have qx : ∀ o : Obj, (w4.alloc o).drew.heap[w2.heap.size]? = w4.heap[w2.heap.size]? := fun o => Below.heap_alloc _ _ _ HSI.out.2.2.2.2
        have rx : ∀ o : Obj, (w4.alloc o).drew.heap[g3]? = w4.heap[g3]? := fun o => Below.heap_alloc _ _ _ HSI.out.2.2.1
        have cx : ∀ o : Obj, (w4.alloc o).drew.cell? ⟨g4, 14, none⟩ = some (.slice (some ⟨g3, 0, none⟩) 1 1) := fun o => by
          have e : (w4.alloc o).drew.heap[g4]? = w4.heap[g4]? := Below.heap_alloc _ _ _ HSI.out.2.2.2.1
          rw [Lib.cell_of_heap (e.trans HF4.out.h4)]
          rfl
        have HOLX : Hid (∀ (o : Obj) (b : Addr), some (⟨g3, 0, none⟩ : Addr) = some b → ∀ (j : Nat) (u : Value), ([.int .i64 12, .string ⟨#[]⟩, .string ⟨#[]⟩, .int .u64 0, .slice (some ⟨g2, 0, none⟩) 1 1] : List Value)[j]? = some u → (w4.alloc o).drew.cell? (b.add j) = some u) := Lib.hid fun o b hb => by
          cases hb
          have e : (w4.alloc o).drew.heap[g3]? = w4.heap[g3]? := Below.heap_alloc _ _ _ HSI.out.2.2.1
          exact World.news_of_block (cs := #[.int .i64 12, .string ⟨#[]⟩, .string ⟨#[]⟩, .int .u64 0, .slice (some ⟨g2, 0, none⟩) 1 1]) (t := 25) (fr := (0, 0)) (e.trans HF4.out.h3)
        have HG8X : Hid (∀ (o : Obj) (w8 : World), (w4.alloc o).drew.grownBy w8 none → ∀ r, r < w4.heap.size → w8.heap[r]? = w4.heap[r]?) := Lib.hid fun o w8 hg r hr => (hg.block r (by show r < (w4.alloc o).heap.size; rw [alloc_size]; omega) (by simp)).trans (Below.heap_alloc _ _ _ hr)
        have HBBX : Hid (∀ (o : Obj) (w8 : World), (w4.alloc o).drew.grownBy w8 none → Below w.heap.size w w8) := Lib.hid fun o w8 hg => (HB4.out.alloc HB4.out.size o).drew.grown hg (Nat.le_trans HB4.out.size (by show w4.heap.size ≤ (w4.alloc o).heap.size; rw [alloc_size]; exact Nat.le_succ _)) (fun k e => by cases e)
        obtain ⟨i0, hi, hz0, hz1, hz2⟩ := info_parts (show (Tryz.prog.info? 25).map (fun i => (i.zero, i.size, i.bytes)) = some (some (.agg #[.int .i64 0, .string ⟨#[]⟩, .string ⟨#[]⟩, .int .u64 0, .slice none 0 0]), 5, 72) by kernel_rfl)
        clear hs4 hb34 hb4 hf4 hfb4 hw4
        have qa := qx (.cells #[.int .i64 0, .string ⟨#[]⟩, .string ⟨#[]⟩, .int .u64 0, .slice none 0 0] 25)
        have ra := rx (.cells #[.int .i64 0, .string ⟨#[]⟩, .string ⟨#[]⟩, .int .u64 0, .slice none 0 0] 25)
        have c14a := cx (.cells #[.int .i64 0, .string ⟨#[]⟩, .string ⟨#[]⟩, .int .u64 0, .slice none 0 0] 25)
        have HOL := Lib.hid (HOLX.out (.cells #[.int .i64 0, .string ⟨#[]⟩, .string ⟨#[]⟩, .int .u64 0, .slice none 0 0] 25))
        have HG8 := Lib.hid (HG8X.out (.cells #[.int .i64 0, .string ⟨#[]⟩, .string ⟨#[]⟩, .int .u64 0, .slice none 0 0] 25))
        have HBB := Lib.hid (HBBX.out (.cells #[.int .i64 0, .string ⟨#[]⟩, .string ⟨#[]⟩, .int .u64 0, .slice none 0 0] 25))
        have HNW : Hid (∀ (j : Nat) (u : Value), ([.int .i64 0, .string ⟨#[]⟩, .string ⟨#[]⟩, .int .u64 0, .slice none 0 0] : List Value)[j]? = some u → (w4.alloc (.cells #[.int .i64 0, .string ⟨#[]⟩, .string ⟨#[]⟩, .int .u64 0, .slice none 0 0] 25)).drew.cell? ((⟨w4.heap.size, 0, none⟩ : Addr).add j) = some u) := Lib.hid (World.news_of_block (cs := #[.int .i64 0, .string ⟨#[]⟩, .string ⟨#[]⟩, .int .u64 0, .slice none 0 0]) (t := 25) (fr := (0, 0)) (heap_alloc_new w4 (.cells #[.int .i64 0, .string ⟨#[]⟩, .string ⟨#[]⟩, .int .u64 0, .slice none 0 0] 25)))
        clear qx rx cx HOLX HG8X HBBX
        go_cut [35, 36, 38] (fun v35 v36 v38 wx => v35 = .agg #[.int .i64 12, .string ⟨#[]⟩, .string ⟨#[]⟩, .int .u64 0, .slice (some ⟨g2, 0, none⟩) 1 1] ∧ v36 = .int .i64 1 ∧ ∃ gn cn, v38 = .slice (some ⟨gn, 0, none⟩) 2 cn ∧ Hid (MidP w w4 wx w2.heap.size g1 g2 g4 gn cn))
        case first =>
          refine wp_region_held_drew (S := (fun w' => w'.cell? ⟨w2.heap.size, 4, none⟩ = some (.slice (some ⟨g4, 0, none⟩) 3 3) ∧ (w'.cell? ⟨g3, 0, none⟩ = some (.int .i64 12) ∧ w'.cell? ⟨g3, 1, none⟩ = some (.string ⟨#[]⟩) ∧ w'.cell? ⟨g3, 2, none⟩ = some (.string ⟨#[]⟩) ∧ w'.cell? ⟨g3, 3, none⟩ = some (.int .u64 0) ∧ w'.cell? ⟨g3, 4, none⟩ = some (.slice (some ⟨g2, 0, none⟩) 1 1)))) (by kernel_rfl) ?_ (fun hHeld => ?_)
          · (try dsimp only); first | exact HS.out _ rfl rfl | exact HS.out _ qa ra | exact HS.out _ q8 r8 | exact HS.out _ (q9 _) (r9 _)
          refine wpAnyH_take (i := 0) (oi := { dst := some 24, op := Go.Op.fieldAddr 25 (Go.Operand.tmp 5) 4, type := 0, pos := "e_edit.go:188", after := #[], guard := none }) (v := ?_) rfl (by kernel_rfl) (by kernel_rfl) (by kernel_rfl) (fun _ _ _ h => h) (Or.inl ⟨by rfl, ?_⟩) (by assumption) ?_
          rotate_left
          · (intro w hSw; (try dsimp only at hSw); go_simp)
            all_goals with_reducible rfl
          try simp only [Act.put, List.setIfInBounds_toArray, List.set_cons_zero, List.set_cons_succ]
          refine wpAnyH_take (i := 1) (oi := { dst := some 25, op := Go.Op.load 23 (Go.Operand.tmp 24), type := 23, pos := "e_edit.go:188", after := #[{ on := 0, ground := Go.Ground.data }], guard := none }) (v := ?_) rfl (by kernel_rfl) (by kernel_rfl) (by kernel_rfl) (fun _ _ _ h => h) (Or.inl ⟨by rfl, ?_⟩) (by assumption) ?_
          rotate_left
          · (intro w hSw; (try dsimp only at hSw); go_simp)
            all_goals with_reducible rfl
          try simp only [Act.put, List.setIfInBounds_toArray, List.set_cons_zero, List.set_cons_succ]
          refine wpAnyH_take (i := 2) (oi := { dst := some 26, op := Go.Op.indexAddr 23 (Go.Operand.tmp 25) (Go.Operand.const (Go.Value.int Go.IntKind.i64 2)), type := 0, pos := "e_edit.go:188", after := #[{ on := 1, ground := Go.Ground.data }], guard := none }) (v := ?_) rfl (by kernel_rfl) (by kernel_rfl) (by kernel_rfl) (fun _ _ _ h => h) (Or.inl ⟨by rfl, ?_⟩) (by assumption) ?_
          rotate_left
          · (intro w hSw; (try dsimp only at hSw); go_simp)
            all_goals with_reducible rfl
          try simp only [Act.put, List.setIfInBounds_toArray, List.set_cons_zero, List.set_cons_succ]
          refine wpAnyH_take (i := 3) (oi := { dst := some 27, op := Go.Op.fieldAddr 25 (Go.Operand.tmp 26) 4, type := 0, pos := "e_edit.go:188", after := #[{ on := 2, ground := Go.Ground.data }], guard := none }) (v := ?_) rfl (by kernel_rfl) (by kernel_rfl) (by kernel_rfl) (fun _ _ _ h => h) (Or.inl ⟨by rfl, ?_⟩) (by assumption) ?_
          rotate_left
          · (intro w hSw; (try dsimp only at hSw); go_simp)
            all_goals with_reducible rfl
          try simp only [Act.put, List.setIfInBounds_toArray, List.set_cons_zero, List.set_cons_succ]
          refine wpAnyH_take (i := 5) (oi := { dst := some 29, op := Go.Op.fieldAddr 25 (Go.Operand.tmp 5) 4, type := 0, pos := "e_edit.go:188", after := #[], guard := none }) (v := ?_) rfl (by kernel_rfl) (by kernel_rfl) (by kernel_rfl) (fun _ _ _ h => h) (Or.inl ⟨by rfl, ?_⟩) (by assumption) ?_
          rotate_left
          · (intro w hSw; (try dsimp only at hSw); go_simp)
            all_goals with_reducible rfl
          try simp only [Act.put, List.setIfInBounds_toArray, List.set_cons_zero, List.set_cons_succ]
          refine wpAnyH_take (i := 6) (oi := { dst := some 30, op := Go.Op.load 23 (Go.Operand.tmp 29), type := 23, pos := "e_edit.go:188", after := #[{ on := 5, ground := Go.Ground.data }], guard := none }) (v := ?_) rfl (by kernel_rfl) (by kernel_rfl) (by kernel_rfl) (fun _ _ _ h => h) (Or.inl ⟨by rfl, ?_⟩) (by assumption) ?_
          rotate_left
          · (intro w hSw; (try dsimp only at hSw); go_simp)
            all_goals with_reducible rfl
          try simp only [Act.put, List.setIfInBounds_toArray, List.set_cons_zero, List.set_cons_succ]
          refine wpAnyH_take (i := 7) (oi := { dst := some 31, op := Go.Op.indexAddr 23 (Go.Operand.tmp 30) (Go.Operand.const (Go.Value.int Go.IntKind.i64 2)), type := 0, pos := "e_edit.go:188", after := #[{ on := 6, ground := Go.Ground.data }], guard := none }) (v := ?_) rfl (by kernel_rfl) (by kernel_rfl) (by kernel_rfl) (fun _ _ _ h => h) (Or.inl ⟨by rfl, ?_⟩) (by assumption) ?_
          rotate_left
          · (intro w hSw; (try dsimp only at hSw); go_simp)
            all_goals with_reducible rfl
          try simp only [Act.put, List.setIfInBounds_toArray, List.set_cons_zero, List.set_cons_succ]
          refine wpAnyH_take (i := 8) (oi := { dst := some 32, op := Go.Op.fieldAddr 25 (Go.Operand.tmp 31) 4, type := 0, pos := "e_edit.go:188", after := #[{ on := 7, ground := Go.Ground.data }], guard := none }) (v := ?_) rfl (by kernel_rfl) (by kernel_rfl) (by kernel_rfl) (fun _ _ _ h => h) (Or.inl ⟨by rfl, ?_⟩) (by assumption) ?_
          rotate_left
          · (intro w hSw; (try dsimp only at hSw); go_simp)
            all_goals with_reducible rfl
          try simp only [Act.put, List.setIfInBounds_toArray, List.set_cons_zero, List.set_cons_succ]
          refine wpAnyH_ready (rs := [4, 9, 13]) (by kernel_rfl) (by simp) ?_
          refine AllReadyH.cons (o := { dst := some 28, op := Go.Op.load 23 (Go.Operand.tmp 27), type := 23, pos := "e_edit.go:188", after := #[{ on := 3, ground := Go.Ground.data }], guard := none }) rfl (fun K hK => ?_) ?_
          · go_simp
            refine hK.out _ _ ?_ (fun hHeld => ?_)
            · (try dsimp only); first | exact HS.out _ rfl rfl | exact HS.out _ qa ra | exact HS.out _ q8 r8 | exact HS.out _ (q9 _) (r9 _)
            clear hK K
            try simp only [Act.put, List.setIfInBounds_toArray, List.set_cons_zero, List.set_cons_succ]
            refine wpAnyH_take (i := 12) (oi := { dst := some 36, op := Go.Op.call { callee := Go.Callee.builtin Go.Builtin.len, args := #[Go.Operand.tmp 28], argTypes := #[23] }, type := 3, pos := "e_edit.go:188", after := #[{ on := 4, ground := Go.Ground.data }], guard := none }) (v := ?_) rfl (by kernel_rfl) (by kernel_rfl) (by kernel_rfl) (fun _ _ _ h => h) (Or.inl ⟨by rfl, ?_⟩) (by assumption) ?_
            rotate_left
            · (intro w hSw; (try dsimp only at hSw); go_simp)
              all_goals with_reducible rfl
            try simp only [Act.put, List.setIfInBounds_toArray, List.set_cons_zero, List.set_cons_succ]
            refine wpAnyH_ready (rs := [9, 13]) (by kernel_rfl) (by simp) ?_
            refine AllReadyH.cons (o := { dst := some 33, op := Go.Op.load 23 (Go.Operand.tmp 32), type := 23, pos := "e_edit.go:188", after := #[{ on := 8, ground := Go.Ground.data }], guard := none }) rfl (fun K hK => ?_) ?_
            · go_simp
              refine hK.out _ _ ?_ (fun hHeld => ?_)
              · (try dsimp only); first | exact HS.out _ rfl rfl | exact HS.out _ qa ra | exact HS.out _ q8 r8 | exact HS.out _ (q9 _) (r9 _)
              clear hK K
              try simp only [Act.put, List.setIfInBounds_toArray, List.set_cons_zero, List.set_cons_succ]
              refine wpAnyH_take (i := 10) (oi := { dst := some 34, op := Go.Op.indexAddr 23 (Go.Operand.tmp 33) (Go.Operand.const (Go.Value.int Go.IntKind.i64 0)), type := 0, pos := "e_edit.go:188", after := #[{ on := 9, ground := Go.Ground.data }], guard := none }) (v := ?_) rfl (by kernel_rfl) (by kernel_rfl) (by kernel_rfl) (fun _ _ _ h => h) (Or.inl ⟨by rfl, ?_⟩) (by assumption) ?_
              rotate_left
              · (intro w hSw; (try dsimp only at hSw); go_simp)
                all_goals with_reducible rfl
              try simp only [Act.put, List.setIfInBounds_toArray, List.set_cons_zero, List.set_cons_succ]
              refine wpAnyH_take (i := 11) (oi := { dst := some 35, op := Go.Op.load 25 (Go.Operand.tmp 34), type := 25, pos := "e_edit.go:188", after := #[{ on := 10, ground := Go.Ground.data }], guard := none }) (v := ?_) rfl (by kernel_rfl) (by kernel_rfl) (by kernel_rfl) (fun _ _ _ h => h) (Or.inl ⟨by rfl, ?_⟩) (by assumption) ?_
              rotate_left
              · (intro w hSw; (try dsimp only at hSw); go_simp)
                all_goals with_reducible rfl
              try simp only [Act.put, List.setIfInBounds_toArray, List.set_cons_zero, List.set_cons_succ]
              refine wpAnyH_ready (rs := [13]) (by kernel_rfl) (by simp) ?_
              refine AllReadyH.cons (o := { dst := some 37, op := Go.Op.buildSlice 23 1 #[(0, Go.Operand.const (Go.Value.agg #[Go.Value.int Go.IntKind.i64 0, Go.Value.string { data := #[] }, Go.Value.string { data := #[] }, Go.Value.int Go.IntKind.u64 0, Go.Value.slice none 0 0]))], type := 23, pos := "e_edit.go:188", after := #[], guard := none }) rfl (fun K hK => ?_) ?_
              · go_simp
                refine hK.out _ _ ?_ (fun hHeld => ?_)
                · (try dsimp only); first | exact HS.out _ rfl rfl | exact HS.out _ qa ra | exact HS.out _ q8 r8 | exact HS.out _ (q9 _) (r9 _)
                clear hK K
                try simp only [Act.put, List.setIfInBounds_toArray, List.set_cons_zero, List.set_cons_succ]
                refine wpAnyH_ready (rs := [14]) (by kernel_rfl) (by simp) ?_
                refine AllReadyH.cons (o := { dst := some 38, op := Go.Op.call { callee := Go.Callee.builtin Go.Builtin.append, args := #[Go.Operand.tmp 28, Go.Operand.tmp 37], argTypes := #[23, 23] }, type := 23, pos := "e_edit.go:188", after := #[{ on := 4, ground := Go.Ground.data }, { on := 13, ground := Go.Ground.data }, { on := 0, ground := Go.Ground.phase }, { on := 1, ground := Go.Ground.phase }, { on := 2, ground := Go.Ground.phase }, { on := 3, ground := Go.Ground.phase }, { on := 4, ground := Go.Ground.phase }, { on := 5, ground := Go.Ground.phase }, { on := 6, ground := Go.Ground.phase }, { on := 7, ground := Go.Ground.phase }, { on := 8, ground := Go.Ground.phase }, { on := 9, ground := Go.Ground.phase }, { on := 10, ground := Go.Ground.phase }, { on := 11, ground := Go.Ground.phase }, { on := 12, ground := Go.Ground.phase }, { on := 13, ground := Go.Ground.phase }], guard := none }) rfl (fun K hK => ?_) ?_
                · refine step_append_grows (by rfl) _ _ 23 (by rfl) 25 i0 _ 5 72 Tryz.underlying23 hi hz0 hz1 hz2 rfl (by decide) (some ⟨g3, 0, none⟩) 1 1 [.int .i64 12, .string ⟨#[]⟩, .string ⟨#[]⟩, .int .u64 0, .slice (some ⟨g2, 0, none⟩) 1 1] (by rfl) (fun h => by cases h) (by rfl) HOL.out ⟨w4.heap.size, 0, none⟩ 1 1 [.int .i64 0, .string ⟨#[]⟩, .string ⟨#[]⟩, .int .u64 0, .slice none 0 0] (by rfl) (by rfl) HNW.out (by simp [Value.oneCell']) (by decide) (by decide) (by decide) ?_
                  intro v8 w8 hown8 hg8
                  obtain ⟨gn, cn, cur, rfl, hlo, hrow8, hcn, hsz8, htk8⟩ := own_two hown8
                  have hbl8 : ∀ r : Nat, r < w4.heap.size → w8.heap[r]? = w4.heap[r]? := HG8.out w8 hg8
                  have q8 := hbl8 w2.heap.size HSI.out.2.2.2.2
                  have r8 := hbl8 g3 HSI.out.2.2.1
                  have q9 : ∀ x : Value, (w8.setCell ⟨g4, 14, none⟩ x).heap[w2.heap.size]? = w4.heap[w2.heap.size]? := fun x => (heap_set_other x (by have := HLL.out; omega)).trans q8
                  have r9 : ∀ x : Value, (w8.setCell ⟨g4, 14, none⟩ x).heap[g3]? = w4.heap[g3]? := fun x => (heap_set_other x (by have := HLL.out; omega)).trans r8
                  have h48 := (hbl8 g4 HSI.out.2.2.2.1).trans HF4.out.h4
                  have c8 : w8.cell? ⟨g4, 14, none⟩ = some (.slice (some ⟨g3, 0, none⟩) 1 1) := by rw [Lib.cell_of_heap h48]; rfl
                  have f8 := Lib.frozen_of_heap h48 14
                  refine hK.out _ _ ?_ (fun hHeld => ?_)
                  · (try dsimp only); first | exact HS.out _ rfl rfl | exact HS.out _ qa ra | exact HS.out _ q8 r8 | exact HS.out _ (q9 _) (r9 _)
                  clear hK K
                  try simp only [Act.put, List.setIfInBounds_toArray, List.set_cons_zero, List.set_cons_succ]
                  refine wpAnyH_take (i := 15) (oi := { dst := some 39, op := Go.Op.indexAddr 23 (Go.Operand.tmp 25) (Go.Operand.const (Go.Value.int Go.IntKind.i64 2)), type := 0, pos := "e_edit.go:188", after := #[{ on := 1, ground := Go.Ground.data }, { on := 0, ground := Go.Ground.phase }, { on := 1, ground := Go.Ground.phase }, { on := 2, ground := Go.Ground.phase }, { on := 3, ground := Go.Ground.phase }, { on := 4, ground := Go.Ground.phase }, { on := 5, ground := Go.Ground.phase }, { on := 6, ground := Go.Ground.phase }, { on := 7, ground := Go.Ground.phase }, { on := 8, ground := Go.Ground.phase }, { on := 9, ground := Go.Ground.phase }, { on := 10, ground := Go.Ground.phase }, { on := 11, ground := Go.Ground.phase }, { on := 12, ground := Go.Ground.phase }, { on := 13, ground := Go.Ground.phase }, { on := 14, ground := Go.Ground.phase }], guard := none }) (v := ?_) rfl (by kernel_rfl) (by kernel_rfl) (by kernel_rfl) (fun _ _ _ h => h) (Or.inl ⟨by rfl, ?_⟩) (by assumption) ?_
                  rotate_left
                  · (intro w hSw; (try dsimp only at hSw); go_simp)
                    all_goals with_reducible rfl
                  try simp only [Act.put, List.setIfInBounds_toArray, List.set_cons_zero, List.set_cons_succ]
                  refine wpAnyH_take (i := 16) (oi := { dst := some 40, op := Go.Op.fieldAddr 25 (Go.Operand.tmp 39) 4, type := 0, pos := "e_edit.go:188", after := #[{ on := 15, ground := Go.Ground.data }, { on := 0, ground := Go.Ground.phase }, { on := 1, ground := Go.Ground.phase }, { on := 2, ground := Go.Ground.phase }, { on := 3, ground := Go.Ground.phase }, { on := 4, ground := Go.Ground.phase }, { on := 5, ground := Go.Ground.phase }, { on := 6, ground := Go.Ground.phase }, { on := 7, ground := Go.Ground.phase }, { on := 8, ground := Go.Ground.phase }, { on := 9, ground := Go.Ground.phase }, { on := 10, ground := Go.Ground.phase }, { on := 11, ground := Go.Ground.phase }, { on := 12, ground := Go.Ground.phase }, { on := 13, ground := Go.Ground.phase }, { on := 14, ground := Go.Ground.phase }], guard := none }) (v := ?_) rfl (by kernel_rfl) (by kernel_rfl) (by kernel_rfl) (fun _ _ _ h => h) (Or.inl ⟨by rfl, ?_⟩) (by assumption) ?_
                  rotate_left
                  · (intro w hSw; (try dsimp only at hSw); go_simp)
                    all_goals with_reducible rfl
                  try simp only [Act.put, List.setIfInBounds_toArray, List.set_cons_zero, List.set_cons_succ]
                  refine wpAnyH_ready (rs := [17]) (by kernel_rfl) (by simp) ?_
                  refine AllReadyH.cons (o := { dst := none, op := Go.Op.store 23 (Go.Operand.tmp 40) (Go.Operand.tmp 38), type := 0, pos := "e_edit.go:188", after := #[{ on := 16, ground := Go.Ground.data }, { on := 14, ground := Go.Ground.data }, { on := 14, ground := Go.Ground.chain }, { on := 0, ground := Go.Ground.phase }, { on := 1, ground := Go.Ground.phase }, { on := 2, ground := Go.Ground.phase }, { on := 3, ground := Go.Ground.phase }, { on := 4, ground := Go.Ground.phase }, { on := 5, ground := Go.Ground.phase }, { on := 6, ground := Go.Ground.phase }, { on := 7, ground := Go.Ground.phase }, { on := 8, ground := Go.Ground.phase }, { on := 9, ground := Go.Ground.phase }, { on := 10, ground := Go.Ground.phase }, { on := 11, ground := Go.Ground.phase }, { on := 12, ground := Go.Ground.phase }, { on := 13, ground := Go.Ground.phase }, { on := 14, ground := Go.Ground.phase }], guard := none }) rfl (fun K hK => ?_) ?_
                  · go_simp
                    refine hK.out _ _ ?_ (fun hHeld => ?_)
                    · (try dsimp only); first | exact HS.out _ rfl rfl | exact HS.out _ qa ra | exact HS.out _ q8 r8 | exact HS.out _ (q9 _) (r9 _)
                    clear hK K
                    try simp only [Act.put, List.setIfInBounds_toArray, List.set_cons_zero, List.set_cons_succ]
                    refine wpAnyH_done (by kernel_rfl) ?_ _
                    have hlo8 : w4.heap.size ≤ gn := Nat.le_trans (by show w4.heap.size ≤ (w4.alloc (.cells #[.int .i64 0, .string ⟨#[]⟩, .string ⟨#[]⟩, .int .u64 0, .slice none 0 0] 25)).heap.size; rw [alloc_size]; exact Nat.le_succ _) hlo
                    have h4n := row_setG h48 14 (.slice (some ⟨gn, 0, none⟩) 2 cn)
                    have hLS := HSI.out
                    have hLL := HLL.out
                    have hXL := HX4.out.lt
                    have hXG : w.heap.size < g4 := by have := (Array.getElem?_eq_some_iff.1 HX1.out).1; omega
                    have hgx : (w8.setCell ⟨g4, 14, none⟩ (.slice (some ⟨gn, 0, none⟩) 2 cn)).heap[w.heap.size]? = w4.heap[w.heap.size]? := (heap_set_other _ (by omega)).trans (hbl8 _ hXL)
                    have hgo : OptIn (w8.setCell ⟨g4, 14, none⟩ (.slice (some ⟨gn, 0, none⟩) 2 cn)) g1 g2 := HF4.out.opt.keep ((heap_set_other _ (by omega)).trans (hbl8 _ (by omega))) ((heap_set_other _ (by omega)).trans (hbl8 _ (by omega)))
                    have hgr : (w8.setCell ⟨g4, 14, none⟩ (.slice (some ⟨gn, 0, none⟩) 2 cn)).heap[gn]? = some (.cells cur 25 (0, 0)) := (heap_set_other _ (by omega)).trans hrow8
                    have hgb : Below w.heap.size w (w8.setCell ⟨g4, 14, none⟩ (.slice (some ⟨gn, 0, none⟩) 2 cn)) := (HBB.out w8 hg8).setCell (p := ⟨g4, 14, none⟩) (by have := HB1.out.size; show w.heap.size ≤ g4; omega) _
                    have HMID : Hid (MidP w w4 (w8.setCell ⟨g4, 14, none⟩ (.slice (some ⟨gn, 0, none⟩) 2 cn)) w2.heap.size g1 g2 g4 gn cn) := Lib.hid ⟨hgx, hgo, hcn, h4n, ⟨cur, hgr, hsz8, htk8⟩, (q9 _).trans HFB4.out, hgb, ⟨by omega, by omega, by omega, by omega⟩, by omega, Nat.le_trans HB4.out.size hlo8⟩
                    clear hHeld hgx hXL hXG hgo hgr hgb h4n hlo8 hrow8 htk8 hown8 hg8 hlo q8 r8 q9 r9 h48 c8 f8 hbl8 hLS hLL
                    go_wp2_with fail
                    go_meet
                    exact ⟨rfl, rfl, gn, cn, rfl, HMID⟩
                  exact AllReadyH.nil
                exact AllReadyH.nil
              exact AllReadyH.nil
            refine AllReadyH.cons (o := { dst := some 37, op := Go.Op.buildSlice 23 1 #[(0, Go.Operand.const (Go.Value.agg #[Go.Value.int Go.IntKind.i64 0, Go.Value.string { data := #[] }, Go.Value.string { data := #[] }, Go.Value.int Go.IntKind.u64 0, Go.Value.slice none 0 0]))], type := 23, pos := "e_edit.go:188", after := #[], guard := none }) rfl (fun K hK => ?_) ?_
            · go_simp
              refine hK.out _ _ ?_ (fun hHeld => ?_)
              · (try dsimp only); first | exact HS.out _ rfl rfl | exact HS.out _ qa ra | exact HS.out _ q8 r8 | exact HS.out _ (q9 _) (r9 _)
              clear hK K
              try simp only [Act.put, List.setIfInBounds_toArray, List.set_cons_zero, List.set_cons_succ]
              refine wpAnyH_ready (rs := [9]) (by kernel_rfl) (by simp) ?_
              refine AllReadyH.cons (o := { dst := some 33, op := Go.Op.load 23 (Go.Operand.tmp 32), type := 23, pos := "e_edit.go:188", after := #[{ on := 8, ground := Go.Ground.data }], guard := none }) rfl (fun K hK => ?_) ?_
              · go_simp
                refine hK.out _ _ ?_ (fun hHeld => ?_)
                · (try dsimp only); first | exact HS.out _ rfl rfl | exact HS.out _ qa ra | exact HS.out _ q8 r8 | exact HS.out _ (q9 _) (r9 _)
                clear hK K
                try simp only [Act.put, List.setIfInBounds_toArray, List.set_cons_zero, List.set_cons_succ]
                refine wpAnyH_take (i := 10) (oi := { dst := some 34, op := Go.Op.indexAddr 23 (Go.Operand.tmp 33) (Go.Operand.const (Go.Value.int Go.IntKind.i64 0)), type := 0, pos := "e_edit.go:188", after := #[{ on := 9, ground := Go.Ground.data }], guard := none }) (v := ?_) rfl (by kernel_rfl) (by kernel_rfl) (by kernel_rfl) (fun _ _ _ h => h) (Or.inl ⟨by rfl, ?_⟩) (by assumption) ?_
                rotate_left
                · (intro w hSw; (try dsimp only at hSw); go_simp)
                  all_goals with_reducible rfl
                try simp only [Act.put, List.setIfInBounds_toArray, List.set_cons_zero, List.set_cons_succ]
                refine wpAnyH_take (i := 11) (oi := { dst := some 35, op := Go.Op.load 25 (Go.Operand.tmp 34), type := 25, pos := "e_edit.go:188", after := #[{ on := 10, ground := Go.Ground.data }], guard := none }) (v := ?_) rfl (by kernel_rfl) (by kernel_rfl) (by kernel_rfl) (fun _ _ _ h => h) (Or.inl ⟨by rfl, ?_⟩) (by assumption) ?_
                rotate_left
                · (intro w hSw; (try dsimp only at hSw); go_simp)
                  all_goals with_reducible rfl
                try simp only [Act.put, List.setIfInBounds_toArray, List.set_cons_zero, List.set_cons_succ]
                refine wpAnyH_ready (rs := [14]) (by kernel_rfl) (by simp) ?_
                refine AllReadyH.cons (o := { dst := some 38, op := Go.Op.call { callee := Go.Callee.builtin Go.Builtin.append, args := #[Go.Operand.tmp 28, Go.Operand.tmp 37], argTypes := #[23, 23] }, type := 23, pos := "e_edit.go:188", after := #[{ on := 4, ground := Go.Ground.data }, { on := 13, ground := Go.Ground.data }, { on := 0, ground := Go.Ground.phase }, { on := 1, ground := Go.Ground.phase }, { on := 2, ground := Go.Ground.phase }, { on := 3, ground := Go.Ground.phase }, { on := 4, ground := Go.Ground.phase }, { on := 5, ground := Go.Ground.phase }, { on := 6, ground := Go.Ground.phase }, { on := 7, ground := Go.Ground.phase }, { on := 8, ground := Go.Ground.phase }, { on := 9, ground := Go.Ground.phase }, { on := 10, ground := Go.Ground.phase }, { on := 11, ground := Go.Ground.phase }, { on := 12, ground := Go.Ground.phase }, { on := 13, ground := Go.Ground.phase }], guard := none }) rfl (fun K hK => ?_) ?_
                · refine step_append_grows (by rfl) _ _ 23 (by rfl) 25 i0 _ 5 72 Tryz.underlying23 hi hz0 hz1 hz2 rfl (by decide) (some ⟨g3, 0, none⟩) 1 1 [.int .i64 12, .string ⟨#[]⟩, .string ⟨#[]⟩, .int .u64 0, .slice (some ⟨g2, 0, none⟩) 1 1] (by rfl) (fun h => by cases h) (by rfl) HOL.out ⟨w4.heap.size, 0, none⟩ 1 1 [.int .i64 0, .string ⟨#[]⟩, .string ⟨#[]⟩, .int .u64 0, .slice none 0 0] (by rfl) (by rfl) HNW.out (by simp [Value.oneCell']) (by decide) (by decide) (by decide) ?_
                  intro v8 w8 hown8 hg8
                  obtain ⟨gn, cn, cur, rfl, hlo, hrow8, hcn, hsz8, htk8⟩ := own_two hown8
                  have hbl8 : ∀ r : Nat, r < w4.heap.size → w8.heap[r]? = w4.heap[r]? := HG8.out w8 hg8
                  have q8 := hbl8 w2.heap.size HSI.out.2.2.2.2
                  have r8 := hbl8 g3 HSI.out.2.2.1
                  have q9 : ∀ x : Value, (w8.setCell ⟨g4, 14, none⟩ x).heap[w2.heap.size]? = w4.heap[w2.heap.size]? := fun x => (heap_set_other x (by have := HLL.out; omega)).trans q8
                  have r9 : ∀ x : Value, (w8.setCell ⟨g4, 14, none⟩ x).heap[g3]? = w4.heap[g3]? := fun x => (heap_set_other x (by have := HLL.out; omega)).trans r8
                  have h48 := (hbl8 g4 HSI.out.2.2.2.1).trans HF4.out.h4
                  have c8 : w8.cell? ⟨g4, 14, none⟩ = some (.slice (some ⟨g3, 0, none⟩) 1 1) := by rw [Lib.cell_of_heap h48]; rfl
                  have f8 := Lib.frozen_of_heap h48 14
                  refine hK.out _ _ ?_ (fun hHeld => ?_)
                  · (try dsimp only); first | exact HS.out _ rfl rfl | exact HS.out _ qa ra | exact HS.out _ q8 r8 | exact HS.out _ (q9 _) (r9 _)
                  clear hK K
                  try simp only [Act.put, List.setIfInBounds_toArray, List.set_cons_zero, List.set_cons_succ]
                  refine wpAnyH_take (i := 15) (oi := { dst := some 39, op := Go.Op.indexAddr 23 (Go.Operand.tmp 25) (Go.Operand.const (Go.Value.int Go.IntKind.i64 2)), type := 0, pos := "e_edit.go:188", after := #[{ on := 1, ground := Go.Ground.data }, { on := 0, ground := Go.Ground.phase }, { on := 1, ground := Go.Ground.phase }, { on := 2, ground := Go.Ground.phase }, { on := 3, ground := Go.Ground.phase }, { on := 4, ground := Go.Ground.phase }, { on := 5, ground := Go.Ground.phase }, { on := 6, ground := Go.Ground.phase }, { on := 7, ground := Go.Ground.phase }, { on := 8, ground := Go.Ground.phase }, { on := 9, ground := Go.Ground.phase }, { on := 10, ground := Go.Ground.phase }, { on := 11, ground := Go.Ground.phase }, { on := 12, ground := Go.Ground.phase }, { on := 13, ground := Go.Ground.phase }, { on := 14, ground := Go.Ground.phase }], guard := none }) (v := ?_) rfl (by kernel_rfl) (by kernel_rfl) (by kernel_rfl) (fun _ _ _ h => h) (Or.inl ⟨by rfl, ?_⟩) (by assumption) ?_
                  rotate_left
                  · (intro w hSw; (try dsimp only at hSw); go_simp)
                    all_goals with_reducible rfl
                  try simp only [Act.put, List.setIfInBounds_toArray, List.set_cons_zero, List.set_cons_succ]
                  refine wpAnyH_take (i := 16) (oi := { dst := some 40, op := Go.Op.fieldAddr 25 (Go.Operand.tmp 39) 4, type := 0, pos := "e_edit.go:188", after := #[{ on := 15, ground := Go.Ground.data }, { on := 0, ground := Go.Ground.phase }, { on := 1, ground := Go.Ground.phase }, { on := 2, ground := Go.Ground.phase }, { on := 3, ground := Go.Ground.phase }, { on := 4, ground := Go.Ground.phase }, { on := 5, ground := Go.Ground.phase }, { on := 6, ground := Go.Ground.phase }, { on := 7, ground := Go.Ground.phase }, { on := 8, ground := Go.Ground.phase }, { on := 9, ground := Go.Ground.phase }, { on := 10, ground := Go.Ground.phase }, { on := 11, ground := Go.Ground.phase }, { on := 12, ground := Go.Ground.phase }, { on := 13, ground := Go.Ground.phase }, { on := 14, ground := Go.Ground.phase }], guard := none }) (v := ?_) rfl (by kernel_rfl) (by kernel_rfl) (by kernel_rfl) (fun _ _ _ h => h) (Or.inl ⟨by rfl, ?_⟩) (by assumption) ?_
                  rotate_left
                  · (intro w hSw; (try dsimp only at hSw); go_simp)
                    all_goals with_reducible rfl
                  try simp only [Act.put, List.setIfInBounds_toArray, List.set_cons_zero, List.set_cons_succ]
                  refine wpAnyH_ready (rs := [17]) (by kernel_rfl) (by simp) ?_
                  refine AllReadyH.cons (o := { dst := none, op := Go.Op.store 23 (Go.Operand.tmp 40) (Go.Operand.tmp 38), type := 0, pos := "e_edit.go:188", after := #[{ on := 16, ground := Go.Ground.data }, { on := 14, ground := Go.Ground.data }, { on := 14, ground := Go.Ground.chain }, { on := 0, ground := Go.Ground.phase }, { on := 1, ground := Go.Ground.phase }, { on := 2, ground := Go.Ground.phase }, { on := 3, ground := Go.Ground.phase }, { on := 4, ground := Go.Ground.phase }, { on := 5, ground := Go.Ground.phase }, { on := 6, ground := Go.Ground.phase }, { on := 7, ground := Go.Ground.phase }, { on := 8, ground := Go.Ground.phase }, { on := 9, ground := Go.Ground.phase }, { on := 10, ground := Go.Ground.phase }, { on := 11, ground := Go.Ground.phase }, { on := 12, ground := Go.Ground.phase }, { on := 13, ground := Go.Ground.phase }, { on := 14, ground := Go.Ground.phase }], guard := none }) rfl (fun K hK => ?_) ?_
                  · go_simp
                    refine hK.out _ _ ?_ (fun hHeld => ?_)
                    · (try dsimp only); first | exact HS.out _ rfl rfl | exact HS.out _ qa ra | exact HS.out _ q8 r8 | exact HS.out _ (q9 _) (r9 _)
                    clear hK K
                    try simp only [Act.put, List.setIfInBounds_toArray, List.set_cons_zero, List.set_cons_succ]
                    refine wpAnyH_done (by kernel_rfl) ?_ _
                    have hlo8 : w4.heap.size ≤ gn := Nat.le_trans (by show w4.heap.size ≤ (w4.alloc (.cells #[.int .i64 0, .string ⟨#[]⟩, .string ⟨#[]⟩, .int .u64 0, .slice none 0 0] 25)).heap.size; rw [alloc_size]; exact Nat.le_succ _) hlo
                    have h4n := row_setG h48 14 (.slice (some ⟨gn, 0, none⟩) 2 cn)
                    have hLS := HSI.out
                    have hLL := HLL.out
                    have hXL := HX4.out.lt
                    have hXG : w.heap.size < g4 := by have := (Array.getElem?_eq_some_iff.1 HX1.out).1; omega
                    have hgx : (w8.setCell ⟨g4, 14, none⟩ (.slice (some ⟨gn, 0, none⟩) 2 cn)).heap[w.heap.size]? = w4.heap[w.heap.size]? := (heap_set_other _ (by omega)).trans (hbl8 _ hXL)
                    have hgo : OptIn (w8.setCell ⟨g4, 14, none⟩ (.slice (some ⟨gn, 0, none⟩) 2 cn)) g1 g2 := HF4.out.opt.keep ((heap_set_other _ (by omega)).trans (hbl8 _ (by omega))) ((heap_set_other _ (by omega)).trans (hbl8 _ (by omega)))
                    have hgr : (w8.setCell ⟨g4, 14, none⟩ (.slice (some ⟨gn, 0, none⟩) 2 cn)).heap[gn]? = some (.cells cur 25 (0, 0)) := (heap_set_other _ (by omega)).trans hrow8
                    have hgb : Below w.heap.size w (w8.setCell ⟨g4, 14, none⟩ (.slice (some ⟨gn, 0, none⟩) 2 cn)) := (HBB.out w8 hg8).setCell (p := ⟨g4, 14, none⟩) (by have := HB1.out.size; show w.heap.size ≤ g4; omega) _
                    have HMID : Hid (MidP w w4 (w8.setCell ⟨g4, 14, none⟩ (.slice (some ⟨gn, 0, none⟩) 2 cn)) w2.heap.size g1 g2 g4 gn cn) := Lib.hid ⟨hgx, hgo, hcn, h4n, ⟨cur, hgr, hsz8, htk8⟩, (q9 _).trans HFB4.out, hgb, ⟨by omega, by omega, by omega, by omega⟩, by omega, Nat.le_trans HB4.out.size hlo8⟩
                    clear hHeld hgx hXL hXG hgo hgr hgb h4n hlo8 hrow8 htk8 hown8 hg8 hlo q8 r8 q9 r9 h48 c8 f8 hbl8 hLS hLL
                    go_wp2_with fail
                    go_meet
                    exact ⟨rfl, rfl, gn, cn, rfl, HMID⟩
                  exact AllReadyH.nil
                exact AllReadyH.nil
              exact AllReadyH.nil
            exact AllReadyH.nil
          refine AllReadyH.cons (o := { dst := some 33, op := Go.Op.load 23 (Go.Operand.tmp 32), type := 23, pos := "e_edit.go:188", after := #[{ on := 8, ground := Go.Ground.data }], guard := none }) rfl (fun K hK => ?_) ?_
          · go_simp
            refine hK.out _ _ ?_ (fun hHeld => ?_)
            · (try dsimp only); first | exact HS.out _ rfl rfl | exact HS.out _ qa ra | exact HS.out _ q8 r8 | exact HS.out _ (q9 _) (r9 _)
            clear hK K
            try simp only [Act.put, List.setIfInBounds_toArray, List.set_cons_zero, List.set_cons_succ]
            refine wpAnyH_take (i := 10) (oi := { dst := some 34, op := Go.Op.indexAddr 23 (Go.Operand.tmp 33) (Go.Operand.const (Go.Value.int Go.IntKind.i64 0)), type := 0, pos := "e_edit.go:188", after := #[{ on := 9, ground := Go.Ground.data }], guard := none }) (v := ?_) rfl (by kernel_rfl) (by kernel_rfl) (by kernel_rfl) (fun _ _ _ h => h) (Or.inl ⟨by rfl, ?_⟩) (by assumption) ?_
            rotate_left
            · (intro w hSw; (try dsimp only at hSw); go_simp)
              all_goals with_reducible rfl
            try simp only [Act.put, List.setIfInBounds_toArray, List.set_cons_zero, List.set_cons_succ]
            refine wpAnyH_take (i := 11) (oi := { dst := some 35, op := Go.Op.load 25 (Go.Operand.tmp 34), type := 25, pos := "e_edit.go:188", after := #[{ on := 10, ground := Go.Ground.data }], guard := none }) (v := ?_) rfl (by kernel_rfl) (by kernel_rfl) (by kernel_rfl) (fun _ _ _ h => h) (Or.inl ⟨by rfl, ?_⟩) (by assumption) ?_
            rotate_left
            · (intro w hSw; (try dsimp only at hSw); go_simp)
              all_goals with_reducible rfl
            try simp only [Act.put, List.setIfInBounds_toArray, List.set_cons_zero, List.set_cons_succ]
            refine wpAnyH_ready (rs := [4, 13]) (by kernel_rfl) (by simp) ?_
            refine AllReadyH.cons (o := { dst := some 28, op := Go.Op.load 23 (Go.Operand.tmp 27), type := 23, pos := "e_edit.go:188", after := #[{ on := 3, ground := Go.Ground.data }], guard := none }) rfl (fun K hK => ?_) ?_
            · go_simp
              refine hK.out _ _ ?_ (fun hHeld => ?_)
              · (try dsimp only); first | exact HS.out _ rfl rfl | exact HS.out _ qa ra | exact HS.out _ q8 r8 | exact HS.out _ (q9 _) (r9 _)
              clear hK K
              try simp only [Act.put, List.setIfInBounds_toArray, List.set_cons_zero, List.set_cons_succ]
              refine wpAnyH_take (i := 12) (oi := { dst := some 36, op := Go.Op.call { callee := Go.Callee.builtin Go.Builtin.len, args := #[Go.Operand.tmp 28], argTypes := #[23] }, type := 3, pos := "e_edit.go:188", after := #[{ on := 4, ground := Go.Ground.data }], guard := none }) (v := ?_) rfl (by kernel_rfl) (by kernel_rfl) (by kernel_rfl) (fun _ _ _ h => h) (Or.inl ⟨by rfl, ?_⟩) (by assumption) ?_
              rotate_left
              · (intro w hSw; (try dsimp only at hSw); go_simp)
                all_goals with_reducible rfl
              try simp only [Act.put, List.setIfInBounds_toArray, List.set_cons_zero, List.set_cons_succ]
              refine wpAnyH_ready (rs := [13]) (by kernel_rfl) (by simp) ?_
              refine AllReadyH.cons (o := { dst := some 37, op := Go.Op.buildSlice 23 1 #[(0, Go.Operand.const (Go.Value.agg #[Go.Value.int Go.IntKind.i64 0, Go.Value.string { data := #[] }, Go.Value.string { data := #[] }, Go.Value.int Go.IntKind.u64 0, Go.Value.slice none 0 0]))], type := 23, pos := "e_edit.go:188", after := #[], guard := none }) rfl (fun K hK => ?_) ?_
              · go_simp
                refine hK.out _ _ ?_ (fun hHeld => ?_)
                · (try dsimp only); first | exact HS.out _ rfl rfl | exact HS.out _ qa ra | exact HS.out _ q8 r8 | exact HS.out _ (q9 _) (r9 _)
                clear hK K
                try simp only [Act.put, List.setIfInBounds_toArray, List.set_cons_zero, List.set_cons_succ]
                refine wpAnyH_ready (rs := [14]) (by kernel_rfl) (by simp) ?_
                refine AllReadyH.cons (o := { dst := some 38, op := Go.Op.call { callee := Go.Callee.builtin Go.Builtin.append, args := #[Go.Operand.tmp 28, Go.Operand.tmp 37], argTypes := #[23, 23] }, type := 23, pos := "e_edit.go:188", after := #[{ on := 4, ground := Go.Ground.data }, { on := 13, ground := Go.Ground.data }, { on := 0, ground := Go.Ground.phase }, { on := 1, ground := Go.Ground.phase }, { on := 2, ground := Go.Ground.phase }, { on := 3, ground := Go.Ground.phase }, { on := 4, ground := Go.Ground.phase }, { on := 5, ground := Go.Ground.phase }, { on := 6, ground := Go.Ground.phase }, { on := 7, ground := Go.Ground.phase }, { on := 8, ground := Go.Ground.phase }, { on := 9, ground := Go.Ground.phase }, { on := 10, ground := Go.Ground.phase }, { on := 11, ground := Go.Ground.phase }, { on := 12, ground := Go.Ground.phase }, { on := 13, ground := Go.Ground.phase }], guard := none }) rfl (fun K hK => ?_) ?_
                · refine step_append_grows (by rfl) _ _ 23 (by rfl) 25 i0 _ 5 72 Tryz.underlying23 hi hz0 hz1 hz2 rfl (by decide) (some ⟨g3, 0, none⟩) 1 1 [.int .i64 12, .string ⟨#[]⟩, .string ⟨#[]⟩, .int .u64 0, .slice (some ⟨g2, 0, none⟩) 1 1] (by rfl) (fun h => by cases h) (by rfl) HOL.out ⟨w4.heap.size, 0, none⟩ 1 1 [.int .i64 0, .string ⟨#[]⟩, .string ⟨#[]⟩, .int .u64 0, .slice none 0 0] (by rfl) (by rfl) HNW.out (by simp [Value.oneCell']) (by decide) (by decide) (by decide) ?_
                  intro v8 w8 hown8 hg8
                  obtain ⟨gn, cn, cur, rfl, hlo, hrow8, hcn, hsz8, htk8⟩ := own_two hown8
                  have hbl8 : ∀ r : Nat, r < w4.heap.size → w8.heap[r]? = w4.heap[r]? := HG8.out w8 hg8
                  have q8 := hbl8 w2.heap.size HSI.out.2.2.2.2
                  have r8 := hbl8 g3 HSI.out.2.2.1
                  have q9 : ∀ x : Value, (w8.setCell ⟨g4, 14, none⟩ x).heap[w2.heap.size]? = w4.heap[w2.heap.size]? := fun x => (heap_set_other x (by have := HLL.out; omega)).trans q8
                  have r9 : ∀ x : Value, (w8.setCell ⟨g4, 14, none⟩ x).heap[g3]? = w4.heap[g3]? := fun x => (heap_set_other x (by have := HLL.out; omega)).trans r8
                  have h48 := (hbl8 g4 HSI.out.2.2.2.1).trans HF4.out.h4
                  have c8 : w8.cell? ⟨g4, 14, none⟩ = some (.slice (some ⟨g3, 0, none⟩) 1 1) := by rw [Lib.cell_of_heap h48]; rfl
                  have f8 := Lib.frozen_of_heap h48 14
                  refine hK.out _ _ ?_ (fun hHeld => ?_)
                  · (try dsimp only); first | exact HS.out _ rfl rfl | exact HS.out _ qa ra | exact HS.out _ q8 r8 | exact HS.out _ (q9 _) (r9 _)
                  clear hK K
                  try simp only [Act.put, List.setIfInBounds_toArray, List.set_cons_zero, List.set_cons_succ]
                  refine wpAnyH_take (i := 15) (oi := { dst := some 39, op := Go.Op.indexAddr 23 (Go.Operand.tmp 25) (Go.Operand.const (Go.Value.int Go.IntKind.i64 2)), type := 0, pos := "e_edit.go:188", after := #[{ on := 1, ground := Go.Ground.data }, { on := 0, ground := Go.Ground.phase }, { on := 1, ground := Go.Ground.phase }, { on := 2, ground := Go.Ground.phase }, { on := 3, ground := Go.Ground.phase }, { on := 4, ground := Go.Ground.phase }, { on := 5, ground := Go.Ground.phase }, { on := 6, ground := Go.Ground.phase }, { on := 7, ground := Go.Ground.phase }, { on := 8, ground := Go.Ground.phase }, { on := 9, ground := Go.Ground.phase }, { on := 10, ground := Go.Ground.phase }, { on := 11, ground := Go.Ground.phase }, { on := 12, ground := Go.Ground.phase }, { on := 13, ground := Go.Ground.phase }, { on := 14, ground := Go.Ground.phase }], guard := none }) (v := ?_) rfl (by kernel_rfl) (by kernel_rfl) (by kernel_rfl) (fun _ _ _ h => h) (Or.inl ⟨by rfl, ?_⟩) (by assumption) ?_
                  rotate_left
                  · (intro w hSw; (try dsimp only at hSw); go_simp)
                    all_goals with_reducible rfl
                  try simp only [Act.put, List.setIfInBounds_toArray, List.set_cons_zero, List.set_cons_succ]
                  refine wpAnyH_take (i := 16) (oi := { dst := some 40, op := Go.Op.fieldAddr 25 (Go.Operand.tmp 39) 4, type := 0, pos := "e_edit.go:188", after := #[{ on := 15, ground := Go.Ground.data }, { on := 0, ground := Go.Ground.phase }, { on := 1, ground := Go.Ground.phase }, { on := 2, ground := Go.Ground.phase }, { on := 3, ground := Go.Ground.phase }, { on := 4, ground := Go.Ground.phase }, { on := 5, ground := Go.Ground.phase }, { on := 6, ground := Go.Ground.phase }, { on := 7, ground := Go.Ground.phase }, { on := 8, ground := Go.Ground.phase }, { on := 9, ground := Go.Ground.phase }, { on := 10, ground := Go.Ground.phase }, { on := 11, ground := Go.Ground.phase }, { on := 12, ground := Go.Ground.phase }, { on := 13, ground := Go.Ground.phase }, { on := 14, ground := Go.Ground.phase }], guard := none }) (v := ?_) rfl (by kernel_rfl) (by kernel_rfl) (by kernel_rfl) (fun _ _ _ h => h) (Or.inl ⟨by rfl, ?_⟩) (by assumption) ?_
                  rotate_left
                  · (intro w hSw; (try dsimp only at hSw); go_simp)
                    all_goals with_reducible rfl
                  try simp only [Act.put, List.setIfInBounds_toArray, List.set_cons_zero, List.set_cons_succ]
                  refine wpAnyH_ready (rs := [17]) (by kernel_rfl) (by simp) ?_
                  refine AllReadyH.cons (o := { dst := none, op := Go.Op.store 23 (Go.Operand.tmp 40) (Go.Operand.tmp 38), type := 0, pos := "e_edit.go:188", after := #[{ on := 16, ground := Go.Ground.data }, { on := 14, ground := Go.Ground.data }, { on := 14, ground := Go.Ground.chain }, { on := 0, ground := Go.Ground.phase }, { on := 1, ground := Go.Ground.phase }, { on := 2, ground := Go.Ground.phase }, { on := 3, ground := Go.Ground.phase }, { on := 4, ground := Go.Ground.phase }, { on := 5, ground := Go.Ground.phase }, { on := 6, ground := Go.Ground.phase }, { on := 7, ground := Go.Ground.phase }, { on := 8, ground := Go.Ground.phase }, { on := 9, ground := Go.Ground.phase }, { on := 10, ground := Go.Ground.phase }, { on := 11, ground := Go.Ground.phase }, { on := 12, ground := Go.Ground.phase }, { on := 13, ground := Go.Ground.phase }, { on := 14, ground := Go.Ground.phase }], guard := none }) rfl (fun K hK => ?_) ?_
                  · go_simp
                    refine hK.out _ _ ?_ (fun hHeld => ?_)
                    · (try dsimp only); first | exact HS.out _ rfl rfl | exact HS.out _ qa ra | exact HS.out _ q8 r8 | exact HS.out _ (q9 _) (r9 _)
                    clear hK K
                    try simp only [Act.put, List.setIfInBounds_toArray, List.set_cons_zero, List.set_cons_succ]
                    refine wpAnyH_done (by kernel_rfl) ?_ _
                    have hlo8 : w4.heap.size ≤ gn := Nat.le_trans (by show w4.heap.size ≤ (w4.alloc (.cells #[.int .i64 0, .string ⟨#[]⟩, .string ⟨#[]⟩, .int .u64 0, .slice none 0 0] 25)).heap.size; rw [alloc_size]; exact Nat.le_succ _) hlo
                    have h4n := row_setG h48 14 (.slice (some ⟨gn, 0, none⟩) 2 cn)
                    have hLS := HSI.out
                    have hLL := HLL.out
                    have hXL := HX4.out.lt
                    have hXG : w.heap.size < g4 := by have := (Array.getElem?_eq_some_iff.1 HX1.out).1; omega
                    have hgx : (w8.setCell ⟨g4, 14, none⟩ (.slice (some ⟨gn, 0, none⟩) 2 cn)).heap[w.heap.size]? = w4.heap[w.heap.size]? := (heap_set_other _ (by omega)).trans (hbl8 _ hXL)
                    have hgo : OptIn (w8.setCell ⟨g4, 14, none⟩ (.slice (some ⟨gn, 0, none⟩) 2 cn)) g1 g2 := HF4.out.opt.keep ((heap_set_other _ (by omega)).trans (hbl8 _ (by omega))) ((heap_set_other _ (by omega)).trans (hbl8 _ (by omega)))
                    have hgr : (w8.setCell ⟨g4, 14, none⟩ (.slice (some ⟨gn, 0, none⟩) 2 cn)).heap[gn]? = some (.cells cur 25 (0, 0)) := (heap_set_other _ (by omega)).trans hrow8
                    have hgb : Below w.heap.size w (w8.setCell ⟨g4, 14, none⟩ (.slice (some ⟨gn, 0, none⟩) 2 cn)) := (HBB.out w8 hg8).setCell (p := ⟨g4, 14, none⟩) (by have := HB1.out.size; show w.heap.size ≤ g4; omega) _
                    have HMID : Hid (MidP w w4 (w8.setCell ⟨g4, 14, none⟩ (.slice (some ⟨gn, 0, none⟩) 2 cn)) w2.heap.size g1 g2 g4 gn cn) := Lib.hid ⟨hgx, hgo, hcn, h4n, ⟨cur, hgr, hsz8, htk8⟩, (q9 _).trans HFB4.out, hgb, ⟨by omega, by omega, by omega, by omega⟩, by omega, Nat.le_trans HB4.out.size hlo8⟩
                    clear hHeld hgx hXL hXG hgo hgr hgb h4n hlo8 hrow8 htk8 hown8 hg8 hlo q8 r8 q9 r9 h48 c8 f8 hbl8 hLS hLL
                    go_wp2_with fail
                    go_meet
                    exact ⟨rfl, rfl, gn, cn, rfl, HMID⟩
                  exact AllReadyH.nil
                exact AllReadyH.nil
              exact AllReadyH.nil
            refine AllReadyH.cons (o := { dst := some 37, op := Go.Op.buildSlice 23 1 #[(0, Go.Operand.const (Go.Value.agg #[Go.Value.int Go.IntKind.i64 0, Go.Value.string { data := #[] }, Go.Value.string { data := #[] }, Go.Value.int Go.IntKind.u64 0, Go.Value.slice none 0 0]))], type := 23, pos := "e_edit.go:188", after := #[], guard := none }) rfl (fun K hK => ?_) ?_
            · go_simp
              refine hK.out _ _ ?_ (fun hHeld => ?_)
              · (try dsimp only); first | exact HS.out _ rfl rfl | exact HS.out _ qa ra | exact HS.out _ q8 r8 | exact HS.out _ (q9 _) (r9 _)
              clear hK K
              try simp only [Act.put, List.setIfInBounds_toArray, List.set_cons_zero, List.set_cons_succ]
              refine wpAnyH_ready (rs := [4]) (by kernel_rfl) (by simp) ?_
              refine AllReadyH.cons (o := { dst := some 28, op := Go.Op.load 23 (Go.Operand.tmp 27), type := 23, pos := "e_edit.go:188", after := #[{ on := 3, ground := Go.Ground.data }], guard := none }) rfl (fun K hK => ?_) ?_
              · go_simp
                refine hK.out _ _ ?_ (fun hHeld => ?_)
                · (try dsimp only); first | exact HS.out _ rfl rfl | exact HS.out _ qa ra | exact HS.out _ q8 r8 | exact HS.out _ (q9 _) (r9 _)
                clear hK K
                try simp only [Act.put, List.setIfInBounds_toArray, List.set_cons_zero, List.set_cons_succ]
                refine wpAnyH_take (i := 12) (oi := { dst := some 36, op := Go.Op.call { callee := Go.Callee.builtin Go.Builtin.len, args := #[Go.Operand.tmp 28], argTypes := #[23] }, type := 3, pos := "e_edit.go:188", after := #[{ on := 4, ground := Go.Ground.data }], guard := none }) (v := ?_) rfl (by kernel_rfl) (by kernel_rfl) (by kernel_rfl) (fun _ _ _ h => h) (Or.inl ⟨by rfl, ?_⟩) (by assumption) ?_
                rotate_left
                · (intro w hSw; (try dsimp only at hSw); go_simp)
                  all_goals with_reducible rfl
                try simp only [Act.put, List.setIfInBounds_toArray, List.set_cons_zero, List.set_cons_succ]
                refine wpAnyH_ready (rs := [14]) (by kernel_rfl) (by simp) ?_
                refine AllReadyH.cons (o := { dst := some 38, op := Go.Op.call { callee := Go.Callee.builtin Go.Builtin.append, args := #[Go.Operand.tmp 28, Go.Operand.tmp 37], argTypes := #[23, 23] }, type := 23, pos := "e_edit.go:188", after := #[{ on := 4, ground := Go.Ground.data }, { on := 13, ground := Go.Ground.data }, { on := 0, ground := Go.Ground.phase }, { on := 1, ground := Go.Ground.phase }, { on := 2, ground := Go.Ground.phase }, { on := 3, ground := Go.Ground.phase }, { on := 4, ground := Go.Ground.phase }, { on := 5, ground := Go.Ground.phase }, { on := 6, ground := Go.Ground.phase }, { on := 7, ground := Go.Ground.phase }, { on := 8, ground := Go.Ground.phase }, { on := 9, ground := Go.Ground.phase }, { on := 10, ground := Go.Ground.phase }, { on := 11, ground := Go.Ground.phase }, { on := 12, ground := Go.Ground.phase }, { on := 13, ground := Go.Ground.phase }], guard := none }) rfl (fun K hK => ?_) ?_
                · refine step_append_grows (by rfl) _ _ 23 (by rfl) 25 i0 _ 5 72 Tryz.underlying23 hi hz0 hz1 hz2 rfl (by decide) (some ⟨g3, 0, none⟩) 1 1 [.int .i64 12, .string ⟨#[]⟩, .string ⟨#[]⟩, .int .u64 0, .slice (some ⟨g2, 0, none⟩) 1 1] (by rfl) (fun h => by cases h) (by rfl) HOL.out ⟨w4.heap.size, 0, none⟩ 1 1 [.int .i64 0, .string ⟨#[]⟩, .string ⟨#[]⟩, .int .u64 0, .slice none 0 0] (by rfl) (by rfl) HNW.out (by simp [Value.oneCell']) (by decide) (by decide) (by decide) ?_
                  intro v8 w8 hown8 hg8
                  obtain ⟨gn, cn, cur, rfl, hlo, hrow8, hcn, hsz8, htk8⟩ := own_two hown8
                  have hbl8 : ∀ r : Nat, r < w4.heap.size → w8.heap[r]? = w4.heap[r]? := HG8.out w8 hg8
                  have q8 := hbl8 w2.heap.size HSI.out.2.2.2.2
                  have r8 := hbl8 g3 HSI.out.2.2.1
                  have q9 : ∀ x : Value, (w8.setCell ⟨g4, 14, none⟩ x).heap[w2.heap.size]? = w4.heap[w2.heap.size]? := fun x => (heap_set_other x (by have := HLL.out; omega)).trans q8
                  have r9 : ∀ x : Value, (w8.setCell ⟨g4, 14, none⟩ x).heap[g3]? = w4.heap[g3]? := fun x => (heap_set_other x (by have := HLL.out; omega)).trans r8
                  have h48 := (hbl8 g4 HSI.out.2.2.2.1).trans HF4.out.h4
                  have c8 : w8.cell? ⟨g4, 14, none⟩ = some (.slice (some ⟨g3, 0, none⟩) 1 1) := by rw [Lib.cell_of_heap h48]; rfl
                  have f8 := Lib.frozen_of_heap h48 14
                  refine hK.out _ _ ?_ (fun hHeld => ?_)
                  · (try dsimp only); first | exact HS.out _ rfl rfl | exact HS.out _ qa ra | exact HS.out _ q8 r8 | exact HS.out _ (q9 _) (r9 _)
                  clear hK K
                  try simp only [Act.put, List.setIfInBounds_toArray, List.set_cons_zero, List.set_cons_succ]
                  refine wpAnyH_take (i := 15) (oi := { dst := some 39, op := Go.Op.indexAddr 23 (Go.Operand.tmp 25) (Go.Operand.const (Go.Value.int Go.IntKind.i64 2)), type := 0, pos := "e_edit.go:188", after := #[{ on := 1, ground := Go.Ground.data }, { on := 0, ground := Go.Ground.phase }, { on := 1, ground := Go.Ground.phase }, { on := 2, ground := Go.Ground.phase }, { on := 3, ground := Go.Ground.phase }, { on := 4, ground := Go.Ground.phase }, { on := 5, ground := Go.Ground.phase }, { on := 6, ground := Go.Ground.phase }, { on := 7, ground := Go.Ground.phase }, { on := 8, ground := Go.Ground.phase }, { on := 9, ground := Go.Ground.phase }, { on := 10, ground := Go.Ground.phase }, { on := 11, ground := Go.Ground.phase }, { on := 12, ground := Go.Ground.phase }, { on := 13, ground := Go.Ground.phase }, { on := 14, ground := Go.Ground.phase }], guard := none }) (v := ?_) rfl (by kernel_rfl) (by kernel_rfl) (by kernel_rfl) (fun _ _ _ h => h) (Or.inl ⟨by rfl, ?_⟩) (by assumption) ?_
                  rotate_left
                  · (intro w hSw; (try dsimp only at hSw); go_simp)
                    all_goals with_reducible rfl
                  try simp only [Act.put, List.setIfInBounds_toArray, List.set_cons_zero, List.set_cons_succ]
                  refine wpAnyH_take (i := 16) (oi := { dst := some 40, op := Go.Op.fieldAddr 25 (Go.Operand.tmp 39) 4, type := 0, pos := "e_edit.go:188", after := #[{ on := 15, ground := Go.Ground.data }, { on := 0, ground := Go.Ground.phase }, { on := 1, ground := Go.Ground.phase }, { on := 2, ground := Go.Ground.phase }, { on := 3, ground := Go.Ground.phase }, { on := 4, ground := Go.Ground.phase }, { on := 5, ground := Go.Ground.phase }, { on := 6, ground := Go.Ground.phase }, { on := 7, ground := Go.Ground.phase }, { on := 8, ground := Go.Ground.phase }, { on := 9, ground := Go.Ground.phase }, { on := 10, ground := Go.Ground.phase }, { on := 11, ground := Go.Ground.phase }, { on := 12, ground := Go.Ground.phase }, { on := 13, ground := Go.Ground.phase }, { on := 14, ground := Go.Ground.phase }], guard := none }) (v := ?_) rfl (by kernel_rfl) (by kernel_rfl) (by kernel_rfl) (fun _ _ _ h => h) (Or.inl ⟨by rfl, ?_⟩) (by assumption) ?_
                  rotate_left
                  · (intro w hSw; (try dsimp only at hSw); go_simp)
                    all_goals with_reducible rfl
                  try simp only [Act.put, List.setIfInBounds_toArray, List.set_cons_zero, List.set_cons_succ]
                  refine wpAnyH_ready (rs := [17]) (by kernel_rfl) (by simp) ?_
                  refine AllReadyH.cons (o := { dst := none, op := Go.Op.store 23 (Go.Operand.tmp 40) (Go.Operand.tmp 38), type := 0, pos := "e_edit.go:188", after := #[{ on := 16, ground := Go.Ground.data }, { on := 14, ground := Go.Ground.data }, { on := 14, ground := Go.Ground.chain }, { on := 0, ground := Go.Ground.phase }, { on := 1, ground := Go.Ground.phase }, { on := 2, ground := Go.Ground.phase }, { on := 3, ground := Go.Ground.phase }, { on := 4, ground := Go.Ground.phase }, { on := 5, ground := Go.Ground.phase }, { on := 6, ground := Go.Ground.phase }, { on := 7, ground := Go.Ground.phase }, { on := 8, ground := Go.Ground.phase }, { on := 9, ground := Go.Ground.phase }, { on := 10, ground := Go.Ground.phase }, { on := 11, ground := Go.Ground.phase }, { on := 12, ground := Go.Ground.phase }, { on := 13, ground := Go.Ground.phase }, { on := 14, ground := Go.Ground.phase }], guard := none }) rfl (fun K hK => ?_) ?_
                  · go_simp
                    refine hK.out _ _ ?_ (fun hHeld => ?_)
                    · (try dsimp only); first | exact HS.out _ rfl rfl | exact HS.out _ qa ra | exact HS.out _ q8 r8 | exact HS.out _ (q9 _) (r9 _)
                    clear hK K
                    try simp only [Act.put, List.setIfInBounds_toArray, List.set_cons_zero, List.set_cons_succ]
                    refine wpAnyH_done (by kernel_rfl) ?_ _
                    have hlo8 : w4.heap.size ≤ gn := Nat.le_trans (by show w4.heap.size ≤ (w4.alloc (.cells #[.int .i64 0, .string ⟨#[]⟩, .string ⟨#[]⟩, .int .u64 0, .slice none 0 0] 25)).heap.size; rw [alloc_size]; exact Nat.le_succ _) hlo
                    have h4n := row_setG h48 14 (.slice (some ⟨gn, 0, none⟩) 2 cn)
                    have hLS := HSI.out
                    have hLL := HLL.out
                    have hXL := HX4.out.lt
                    have hXG : w.heap.size < g4 := by have := (Array.getElem?_eq_some_iff.1 HX1.out).1; omega
                    have hgx : (w8.setCell ⟨g4, 14, none⟩ (.slice (some ⟨gn, 0, none⟩) 2 cn)).heap[w.heap.size]? = w4.heap[w.heap.size]? := (heap_set_other _ (by omega)).trans (hbl8 _ hXL)
                    have hgo : OptIn (w8.setCell ⟨g4, 14, none⟩ (.slice (some ⟨gn, 0, none⟩) 2 cn)) g1 g2 := HF4.out.opt.keep ((heap_set_other _ (by omega)).trans (hbl8 _ (by omega))) ((heap_set_other _ (by omega)).trans (hbl8 _ (by omega)))
                    have hgr : (w8.setCell ⟨g4, 14, none⟩ (.slice (some ⟨gn, 0, none⟩) 2 cn)).heap[gn]? = some (.cells cur 25 (0, 0)) := (heap_set_other _ (by omega)).trans hrow8
                    have hgb : Below w.heap.size w (w8.setCell ⟨g4, 14, none⟩ (.slice (some ⟨gn, 0, none⟩) 2 cn)) := (HBB.out w8 hg8).setCell (p := ⟨g4, 14, none⟩) (by have := HB1.out.size; show w.heap.size ≤ g4; omega) _
                    have HMID : Hid (MidP w w4 (w8.setCell ⟨g4, 14, none⟩ (.slice (some ⟨gn, 0, none⟩) 2 cn)) w2.heap.size g1 g2 g4 gn cn) := Lib.hid ⟨hgx, hgo, hcn, h4n, ⟨cur, hgr, hsz8, htk8⟩, (q9 _).trans HFB4.out, hgb, ⟨by omega, by omega, by omega, by omega⟩, by omega, Nat.le_trans HB4.out.size hlo8⟩
                    clear hHeld hgx hXL hXG hgo hgr hgb h4n hlo8 hrow8 htk8 hown8 hg8 hlo q8 r8 q9 r9 h48 c8 f8 hbl8 hLS hLL
                    go_wp2_with fail
                    go_meet
                    exact ⟨rfl, rfl, gn, cn, rfl, HMID⟩
                  exact AllReadyH.nil
                exact AllReadyH.nil
              exact AllReadyH.nil
            exact AllReadyH.nil
          refine AllReadyH.cons (o := { dst := some 37, op := Go.Op.buildSlice 23 1 #[(0, Go.Operand.const (Go.Value.agg #[Go.Value.int Go.IntKind.i64 0, Go.Value.string { data := #[] }, Go.Value.string { data := #[] }, Go.Value.int Go.IntKind.u64 0, Go.Value.slice none 0 0]))], type := 23, pos := "e_edit.go:188", after := #[], guard := none }) rfl (fun K hK => ?_) ?_
          · go_simp
            refine hK.out _ _ ?_ (fun hHeld => ?_)
            · (try dsimp only); first | exact HS.out _ rfl rfl | exact HS.out _ qa ra | exact HS.out _ q8 r8 | exact HS.out _ (q9 _) (r9 _)
            clear hK K
            try simp only [Act.put, List.setIfInBounds_toArray, List.set_cons_zero, List.set_cons_succ]
            refine wpAnyH_ready (rs := [4, 9]) (by kernel_rfl) (by simp) ?_
            refine AllReadyH.cons (o := { dst := some 28, op := Go.Op.load 23 (Go.Operand.tmp 27), type := 23, pos := "e_edit.go:188", after := #[{ on := 3, ground := Go.Ground.data }], guard := none }) rfl (fun K hK => ?_) ?_
            · go_simp
              refine hK.out _ _ ?_ (fun hHeld => ?_)
              · (try dsimp only); first | exact HS.out _ rfl rfl | exact HS.out _ qa ra | exact HS.out _ q8 r8 | exact HS.out _ (q9 _) (r9 _)
              clear hK K
              try simp only [Act.put, List.setIfInBounds_toArray, List.set_cons_zero, List.set_cons_succ]
              refine wpAnyH_take (i := 12) (oi := { dst := some 36, op := Go.Op.call { callee := Go.Callee.builtin Go.Builtin.len, args := #[Go.Operand.tmp 28], argTypes := #[23] }, type := 3, pos := "e_edit.go:188", after := #[{ on := 4, ground := Go.Ground.data }], guard := none }) (v := ?_) rfl (by kernel_rfl) (by kernel_rfl) (by kernel_rfl) (fun _ _ _ h => h) (Or.inl ⟨by rfl, ?_⟩) (by assumption) ?_
              rotate_left
              · (intro w hSw; (try dsimp only at hSw); go_simp)
                all_goals with_reducible rfl
              try simp only [Act.put, List.setIfInBounds_toArray, List.set_cons_zero, List.set_cons_succ]
              refine wpAnyH_ready (rs := [9]) (by kernel_rfl) (by simp) ?_
              refine AllReadyH.cons (o := { dst := some 33, op := Go.Op.load 23 (Go.Operand.tmp 32), type := 23, pos := "e_edit.go:188", after := #[{ on := 8, ground := Go.Ground.data }], guard := none }) rfl (fun K hK => ?_) ?_
              · go_simp
                refine hK.out _ _ ?_ (fun hHeld => ?_)
                · (try dsimp only); first | exact HS.out _ rfl rfl | exact HS.out _ qa ra | exact HS.out _ q8 r8 | exact HS.out _ (q9 _) (r9 _)
                clear hK K
                try simp only [Act.put, List.setIfInBounds_toArray, List.set_cons_zero, List.set_cons_succ]
                refine wpAnyH_take (i := 10) (oi := { dst := some 34, op := Go.Op.indexAddr 23 (Go.Operand.tmp 33) (Go.Operand.const (Go.Value.int Go.IntKind.i64 0)), type := 0, pos := "e_edit.go:188", after := #[{ on := 9, ground := Go.Ground.data }], guard := none }) (v := ?_) rfl (by kernel_rfl) (by kernel_rfl) (by kernel_rfl) (fun _ _ _ h => h) (Or.inl ⟨by rfl, ?_⟩) (by assumption) ?_
                rotate_left
                · (intro w hSw; (try dsimp only at hSw); go_simp)
                  all_goals with_reducible rfl
                try simp only [Act.put, List.setIfInBounds_toArray, List.set_cons_zero, List.set_cons_succ]
                refine wpAnyH_take (i := 11) (oi := { dst := some 35, op := Go.Op.load 25 (Go.Operand.tmp 34), type := 25, pos := "e_edit.go:188", after := #[{ on := 10, ground := Go.Ground.data }], guard := none }) (v := ?_) rfl (by kernel_rfl) (by kernel_rfl) (by kernel_rfl) (fun _ _ _ h => h) (Or.inl ⟨by rfl, ?_⟩) (by assumption) ?_
                rotate_left
                · (intro w hSw; (try dsimp only at hSw); go_simp)
                  all_goals with_reducible rfl
                try simp only [Act.put, List.setIfInBounds_toArray, List.set_cons_zero, List.set_cons_succ]
                refine wpAnyH_ready (rs := [14]) (by kernel_rfl) (by simp) ?_
                refine AllReadyH.cons (o := { dst := some 38, op := Go.Op.call { callee := Go.Callee.builtin Go.Builtin.append, args := #[Go.Operand.tmp 28, Go.Operand.tmp 37], argTypes := #[23, 23] }, type := 23, pos := "e_edit.go:188", after := #[{ on := 4, ground := Go.Ground.data }, { on := 13, ground := Go.Ground.data }, { on := 0, ground := Go.Ground.phase }, { on := 1, ground := Go.Ground.phase }, { on := 2, ground := Go.Ground.phase }, { on := 3, ground := Go.Ground.phase }, { on := 4, ground := Go.Ground.phase }, { on := 5, ground := Go.Ground.phase }, { on := 6, ground := Go.Ground.phase }, { on := 7, ground := Go.Ground.phase }, { on := 8, ground := Go.Ground.phase }, { on := 9, ground := Go.Ground.phase }, { on := 10, ground := Go.Ground.phase }, { on := 11, ground := Go.Ground.phase }, { on := 12, ground := Go.Ground.phase }, { on := 13, ground := Go.Ground.phase }], guard := none }) rfl (fun K hK => ?_) ?_
                · refine step_append_grows (by rfl) _ _ 23 (by rfl) 25 i0 _ 5 72 Tryz.underlying23 hi hz0 hz1 hz2 rfl (by decide) (some ⟨g3, 0, none⟩) 1 1 [.int .i64 12, .string ⟨#[]⟩, .string ⟨#[]⟩, .int .u64 0, .slice (some ⟨g2, 0, none⟩) 1 1] (by rfl) (fun h => by cases h) (by rfl) HOL.out ⟨w4.heap.size, 0, none⟩ 1 1 [.int .i64 0, .string ⟨#[]⟩, .string ⟨#[]⟩, .int .u64 0, .slice none 0 0] (by rfl) (by rfl) HNW.out (by simp [Value.oneCell']) (by decide) (by decide) (by decide) ?_
                  intro v8 w8 hown8 hg8
                  obtain ⟨gn, cn, cur, rfl, hlo, hrow8, hcn, hsz8, htk8⟩ := own_two hown8
                  have hbl8 : ∀ r : Nat, r < w4.heap.size → w8.heap[r]? = w4.heap[r]? := HG8.out w8 hg8
                  have q8 := hbl8 w2.heap.size HSI.out.2.2.2.2
                  have r8 := hbl8 g3 HSI.out.2.2.1
                  have q9 : ∀ x : Value, (w8.setCell ⟨g4, 14, none⟩ x).heap[w2.heap.size]? = w4.heap[w2.heap.size]? := fun x => (heap_set_other x (by have := HLL.out; omega)).trans q8
                  have r9 : ∀ x : Value, (w8.setCell ⟨g4, 14, none⟩ x).heap[g3]? = w4.heap[g3]? := fun x => (heap_set_other x (by have := HLL.out; omega)).trans r8
                  have h48 := (hbl8 g4 HSI.out.2.2.2.1).trans HF4.out.h4
                  have c8 : w8.cell? ⟨g4, 14, none⟩ = some (.slice (some ⟨g3, 0, none⟩) 1 1) := by rw [Lib.cell_of_heap h48]; rfl
                  have f8 := Lib.frozen_of_heap h48 14
                  refine hK.out _ _ ?_ (fun hHeld => ?_)
                  · (try dsimp only); first | exact HS.out _ rfl rfl | exact HS.out _ qa ra | exact HS.out _ q8 r8 | exact HS.out _ (q9 _) (r9 _)
                  clear hK K
                  try simp only [Act.put, List.setIfInBounds_toArray, List.set_cons_zero, List.set_cons_succ]
                  refine wpAnyH_take (i := 15) (oi := { dst := some 39, op := Go.Op.indexAddr 23 (Go.Operand.tmp 25) (Go.Operand.const (Go.Value.int Go.IntKind.i64 2)), type := 0, pos := "e_edit.go:188", after := #[{ on := 1, ground := Go.Ground.data }, { on := 0, ground := Go.Ground.phase }, { on := 1, ground := Go.Ground.phase }, { on := 2, ground := Go.Ground.phase }, { on := 3, ground := Go.Ground.phase }, { on := 4, ground := Go.Ground.phase }, { on := 5, ground := Go.Ground.phase }, { on := 6, ground := Go.Ground.phase }, { on := 7, ground := Go.Ground.phase }, { on := 8, ground := Go.Ground.phase }, { on := 9, ground := Go.Ground.phase }, { on := 10, ground := Go.Ground.phase }, { on := 11, ground := Go.Ground.phase }, { on := 12, ground := Go.Ground.phase }, { on := 13, ground := Go.Ground.phase }, { on := 14, ground := Go.Ground.phase }], guard := none }) (v := ?_) rfl (by kernel_rfl) (by kernel_rfl) (by kernel_rfl) (fun _ _ _ h => h) (Or.inl ⟨by rfl, ?_⟩) (by assumption) ?_
                  rotate_left
                  · (intro w hSw; (try dsimp only at hSw); go_simp)
                    all_goals with_reducible rfl
                  try simp only [Act.put, List.setIfInBounds_toArray, List.set_cons_zero, List.set_cons_succ]
                  refine wpAnyH_take (i := 16) (oi := { dst := some 40, op := Go.Op.fieldAddr 25 (Go.Operand.tmp 39) 4, type := 0, pos := "e_edit.go:188", after := #[{ on := 15, ground := Go.Ground.data }, { on := 0, ground := Go.Ground.phase }, { on := 1, ground := Go.Ground.phase }, { on := 2, ground := Go.Ground.phase }, { on := 3, ground := Go.Ground.phase }, { on := 4, ground := Go.Ground.phase }, { on := 5, ground := Go.Ground.phase }, { on := 6, ground := Go.Ground.phase }, { on := 7, ground := Go.Ground.phase }, { on := 8, ground := Go.Ground.phase }, { on := 9, ground := Go.Ground.phase }, { on := 10, ground := Go.Ground.phase }, { on := 11, ground := Go.Ground.phase }, { on := 12, ground := Go.Ground.phase }, { on := 13, ground := Go.Ground.phase }, { on := 14, ground := Go.Ground.phase }], guard := none }) (v := ?_) rfl (by kernel_rfl) (by kernel_rfl) (by kernel_rfl) (fun _ _ _ h => h) (Or.inl ⟨by rfl, ?_⟩) (by assumption) ?_
                  rotate_left
                  · (intro w hSw; (try dsimp only at hSw); go_simp)
                    all_goals with_reducible rfl
                  try simp only [Act.put, List.setIfInBounds_toArray, List.set_cons_zero, List.set_cons_succ]
                  refine wpAnyH_ready (rs := [17]) (by kernel_rfl) (by simp) ?_
                  refine AllReadyH.cons (o := { dst := none, op := Go.Op.store 23 (Go.Operand.tmp 40) (Go.Operand.tmp 38), type := 0, pos := "e_edit.go:188", after := #[{ on := 16, ground := Go.Ground.data }, { on := 14, ground := Go.Ground.data }, { on := 14, ground := Go.Ground.chain }, { on := 0, ground := Go.Ground.phase }, { on := 1, ground := Go.Ground.phase }, { on := 2, ground := Go.Ground.phase }, { on := 3, ground := Go.Ground.phase }, { on := 4, ground := Go.Ground.phase }, { on := 5, ground := Go.Ground.phase }, { on := 6, ground := Go.Ground.phase }, { on := 7, ground := Go.Ground.phase }, { on := 8, ground := Go.Ground.phase }, { on := 9, ground := Go.Ground.phase }, { on := 10, ground := Go.Ground.phase }, { on := 11, ground := Go.Ground.phase }, { on := 12, ground := Go.Ground.phase }, { on := 13, ground := Go.Ground.phase }, { on := 14, ground := Go.Ground.phase }], guard := none }) rfl (fun K hK => ?_) ?_
                  · go_simp
                    refine hK.out _ _ ?_ (fun hHeld => ?_)
                    · (try dsimp only); first | exact HS.out _ rfl rfl | exact HS.out _ qa ra | exact HS.out _ q8 r8 | exact HS.out _ (q9 _) (r9 _)
                    clear hK K
                    try simp only [Act.put, List.setIfInBounds_toArray, List.set_cons_zero, List.set_cons_succ]
                    refine wpAnyH_done (by kernel_rfl) ?_ _
                    have hlo8 : w4.heap.size ≤ gn := Nat.le_trans (by show w4.heap.size ≤ (w4.alloc (.cells #[.int .i64 0, .string ⟨#[]⟩, .string ⟨#[]⟩, .int .u64 0, .slice none 0 0] 25)).heap.size; rw [alloc_size]; exact Nat.le_succ _) hlo
                    have h4n := row_setG h48 14 (.slice (some ⟨gn, 0, none⟩) 2 cn)
                    have hLS := HSI.out
                    have hLL := HLL.out
                    have hXL := HX4.out.lt
                    have hXG : w.heap.size < g4 := by have := (Array.getElem?_eq_some_iff.1 HX1.out).1; omega
                    have hgx : (w8.setCell ⟨g4, 14, none⟩ (.slice (some ⟨gn, 0, none⟩) 2 cn)).heap[w.heap.size]? = w4.heap[w.heap.size]? := (heap_set_other _ (by omega)).trans (hbl8 _ hXL)
                    have hgo : OptIn (w8.setCell ⟨g4, 14, none⟩ (.slice (some ⟨gn, 0, none⟩) 2 cn)) g1 g2 := HF4.out.opt.keep ((heap_set_other _ (by omega)).trans (hbl8 _ (by omega))) ((heap_set_other _ (by omega)).trans (hbl8 _ (by omega)))
                    have hgr : (w8.setCell ⟨g4, 14, none⟩ (.slice (some ⟨gn, 0, none⟩) 2 cn)).heap[gn]? = some (.cells cur 25 (0, 0)) := (heap_set_other _ (by omega)).trans hrow8
                    have hgb : Below w.heap.size w (w8.setCell ⟨g4, 14, none⟩ (.slice (some ⟨gn, 0, none⟩) 2 cn)) := (HBB.out w8 hg8).setCell (p := ⟨g4, 14, none⟩) (by have := HB1.out.size; show w.heap.size ≤ g4; omega) _
                    have HMID : Hid (MidP w w4 (w8.setCell ⟨g4, 14, none⟩ (.slice (some ⟨gn, 0, none⟩) 2 cn)) w2.heap.size g1 g2 g4 gn cn) := Lib.hid ⟨hgx, hgo, hcn, h4n, ⟨cur, hgr, hsz8, htk8⟩, (q9 _).trans HFB4.out, hgb, ⟨by omega, by omega, by omega, by omega⟩, by omega, Nat.le_trans HB4.out.size hlo8⟩
                    clear hHeld hgx hXL hXG hgo hgr hgb h4n hlo8 hrow8 htk8 hown8 hg8 hlo q8 r8 q9 r9 h48 c8 f8 hbl8 hLS hLL
                    go_wp2_with fail
                    go_meet
                    exact ⟨rfl, rfl, gn, cn, rfl, HMID⟩
                  exact AllReadyH.nil
                exact AllReadyH.nil
              exact AllReadyH.nil
            refine AllReadyH.cons (o := { dst := some 33, op := Go.Op.load 23 (Go.Operand.tmp 32), type := 23, pos := "e_edit.go:188", after := #[{ on := 8, ground := Go.Ground.data }], guard := none }) rfl (fun K hK => ?_) ?_
            · go_simp
              refine hK.out _ _ ?_ (fun hHeld => ?_)
              · (try dsimp only); first | exact HS.out _ rfl rfl | exact HS.out _ qa ra | exact HS.out _ q8 r8 | exact HS.out _ (q9 _) (r9 _)
              clear hK K
              try simp only [Act.put, List.setIfInBounds_toArray, List.set_cons_zero, List.set_cons_succ]
              refine wpAnyH_take (i := 10) (oi := { dst := some 34, op := Go.Op.indexAddr 23 (Go.Operand.tmp 33) (Go.Operand.const (Go.Value.int Go.IntKind.i64 0)), type := 0, pos := "e_edit.go:188", after := #[{ on := 9, ground := Go.Ground.data }], guard := none }) (v := ?_) rfl (by kernel_rfl) (by kernel_rfl) (by kernel_rfl) (fun _ _ _ h => h) (Or.inl ⟨by rfl, ?_⟩) (by assumption) ?_
              rotate_left
              · (intro w hSw; (try dsimp only at hSw); go_simp)
                all_goals with_reducible rfl
              try simp only [Act.put, List.setIfInBounds_toArray, List.set_cons_zero, List.set_cons_succ]
              refine wpAnyH_take (i := 11) (oi := { dst := some 35, op := Go.Op.load 25 (Go.Operand.tmp 34), type := 25, pos := "e_edit.go:188", after := #[{ on := 10, ground := Go.Ground.data }], guard := none }) (v := ?_) rfl (by kernel_rfl) (by kernel_rfl) (by kernel_rfl) (fun _ _ _ h => h) (Or.inl ⟨by rfl, ?_⟩) (by assumption) ?_
              rotate_left
              · (intro w hSw; (try dsimp only at hSw); go_simp)
                all_goals with_reducible rfl
              try simp only [Act.put, List.setIfInBounds_toArray, List.set_cons_zero, List.set_cons_succ]
              refine wpAnyH_ready (rs := [4]) (by kernel_rfl) (by simp) ?_
              refine AllReadyH.cons (o := { dst := some 28, op := Go.Op.load 23 (Go.Operand.tmp 27), type := 23, pos := "e_edit.go:188", after := #[{ on := 3, ground := Go.Ground.data }], guard := none }) rfl (fun K hK => ?_) ?_
              · go_simp
                refine hK.out _ _ ?_ (fun hHeld => ?_)
                · (try dsimp only); first | exact HS.out _ rfl rfl | exact HS.out _ qa ra | exact HS.out _ q8 r8 | exact HS.out _ (q9 _) (r9 _)
                clear hK K
                try simp only [Act.put, List.setIfInBounds_toArray, List.set_cons_zero, List.set_cons_succ]
                refine wpAnyH_take (i := 12) (oi := { dst := some 36, op := Go.Op.call { callee := Go.Callee.builtin Go.Builtin.len, args := #[Go.Operand.tmp 28], argTypes := #[23] }, type := 3, pos := "e_edit.go:188", after := #[{ on := 4, ground := Go.Ground.data }], guard := none }) (v := ?_) rfl (by kernel_rfl) (by kernel_rfl) (by kernel_rfl) (fun _ _ _ h => h) (Or.inl ⟨by rfl, ?_⟩) (by assumption) ?_
                rotate_left
                · (intro w hSw; (try dsimp only at hSw); go_simp)
                  all_goals with_reducible rfl
                try simp only [Act.put, List.setIfInBounds_toArray, List.set_cons_zero, List.set_cons_succ]
                refine wpAnyH_ready (rs := [14]) (by kernel_rfl) (by simp) ?_
                refine AllReadyH.cons (o := { dst := some 38, op := Go.Op.call { callee := Go.Callee.builtin Go.Builtin.append, args := #[Go.Operand.tmp 28, Go.Operand.tmp 37], argTypes := #[23, 23] }, type := 23, pos := "e_edit.go:188", after := #[{ on := 4, ground := Go.Ground.data }, { on := 13, ground := Go.Ground.data }, { on := 0, ground := Go.Ground.phase }, { on := 1, ground := Go.Ground.phase }, { on := 2, ground := Go.Ground.phase }, { on := 3, ground := Go.Ground.phase }, { on := 4, ground := Go.Ground.phase }, { on := 5, ground := Go.Ground.phase }, { on := 6, ground := Go.Ground.phase }, { on := 7, ground := Go.Ground.phase }, { on := 8, ground := Go.Ground.phase }, { on := 9, ground := Go.Ground.phase }, { on := 10, ground := Go.Ground.phase }, { on := 11, ground := Go.Ground.phase }, { on := 12, ground := Go.Ground.phase }, { on := 13, ground := Go.Ground.phase }], guard := none }) rfl (fun K hK => ?_) ?_
                · refine step_append_grows (by rfl) _ _ 23 (by rfl) 25 i0 _ 5 72 Tryz.underlying23 hi hz0 hz1 hz2 rfl (by decide) (some ⟨g3, 0, none⟩) 1 1 [.int .i64 12, .string ⟨#[]⟩, .string ⟨#[]⟩, .int .u64 0, .slice (some ⟨g2, 0, none⟩) 1 1] (by rfl) (fun h => by cases h) (by rfl) HOL.out ⟨w4.heap.size, 0, none⟩ 1 1 [.int .i64 0, .string ⟨#[]⟩, .string ⟨#[]⟩, .int .u64 0, .slice none 0 0] (by rfl) (by rfl) HNW.out (by simp [Value.oneCell']) (by decide) (by decide) (by decide) ?_
                  intro v8 w8 hown8 hg8
                  obtain ⟨gn, cn, cur, rfl, hlo, hrow8, hcn, hsz8, htk8⟩ := own_two hown8
                  have hbl8 : ∀ r : Nat, r < w4.heap.size → w8.heap[r]? = w4.heap[r]? := HG8.out w8 hg8
                  have q8 := hbl8 w2.heap.size HSI.out.2.2.2.2
                  have r8 := hbl8 g3 HSI.out.2.2.1
                  have q9 : ∀ x : Value, (w8.setCell ⟨g4, 14, none⟩ x).heap[w2.heap.size]? = w4.heap[w2.heap.size]? := fun x => (heap_set_other x (by have := HLL.out; omega)).trans q8
                  have r9 : ∀ x : Value, (w8.setCell ⟨g4, 14, none⟩ x).heap[g3]? = w4.heap[g3]? := fun x => (heap_set_other x (by have := HLL.out; omega)).trans r8
                  have h48 := (hbl8 g4 HSI.out.2.2.2.1).trans HF4.out.h4
                  have c8 : w8.cell? ⟨g4, 14, none⟩ = some (.slice (some ⟨g3, 0, none⟩) 1 1) := by rw [Lib.cell_of_heap h48]; rfl
                  have f8 := Lib.frozen_of_heap h48 14
                  refine hK.out _ _ ?_ (fun hHeld => ?_)
                  · (try dsimp only); first | exact HS.out _ rfl rfl | exact HS.out _ qa ra | exact HS.out _ q8 r8 | exact HS.out _ (q9 _) (r9 _)
                  clear hK K
                  try simp only [Act.put, List.setIfInBounds_toArray, List.set_cons_zero, List.set_cons_succ]
                  refine wpAnyH_take (i := 15) (oi := { dst := some 39, op := Go.Op.indexAddr 23 (Go.Operand.tmp 25) (Go.Operand.const (Go.Value.int Go.IntKind.i64 2)), type := 0, pos := "e_edit.go:188", after := #[{ on := 1, ground := Go.Ground.data }, { on := 0, ground := Go.Ground.phase }, { on := 1, ground := Go.Ground.phase }, { on := 2, ground := Go.Ground.phase }, { on := 3, ground := Go.Ground.phase }, { on := 4, ground := Go.Ground.phase }, { on := 5, ground := Go.Ground.phase }, { on := 6, ground := Go.Ground.phase }, { on := 7, ground := Go.Ground.phase }, { on := 8, ground := Go.Ground.phase }, { on := 9, ground := Go.Ground.phase }, { on := 10, ground := Go.Ground.phase }, { on := 11, ground := Go.Ground.phase }, { on := 12, ground := Go.Ground.phase }, { on := 13, ground := Go.Ground.phase }, { on := 14, ground := Go.Ground.phase }], guard := none }) (v := ?_) rfl (by kernel_rfl) (by kernel_rfl) (by kernel_rfl) (fun _ _ _ h => h) (Or.inl ⟨by rfl, ?_⟩) (by assumption) ?_
                  rotate_left
                  · (intro w hSw; (try dsimp only at hSw); go_simp)
                    all_goals with_reducible rfl
                  try simp only [Act.put, List.setIfInBounds_toArray, List.set_cons_zero, List.set_cons_succ]
                  refine wpAnyH_take (i := 16) (oi := { dst := some 40, op := Go.Op.fieldAddr 25 (Go.Operand.tmp 39) 4, type := 0, pos := "e_edit.go:188", after := #[{ on := 15, ground := Go.Ground.data }, { on := 0, ground := Go.Ground.phase }, { on := 1, ground := Go.Ground.phase }, { on := 2, ground := Go.Ground.phase }, { on := 3, ground := Go.Ground.phase }, { on := 4, ground := Go.Ground.phase }, { on := 5, ground := Go.Ground.phase }, { on := 6, ground := Go.Ground.phase }, { on := 7, ground := Go.Ground.phase }, { on := 8, ground := Go.Ground.phase }, { on := 9, ground := Go.Ground.phase }, { on := 10, ground := Go.Ground.phase }, { on := 11, ground := Go.Ground.phase }, { on := 12, ground := Go.Ground.phase }, { on := 13, ground := Go.Ground.phase }, { on := 14, ground := Go.Ground.phase }], guard := none }) (v := ?_) rfl (by kernel_rfl) (by kernel_rfl) (by kernel_rfl) (fun _ _ _ h => h) (Or.inl ⟨by rfl, ?_⟩) (by assumption) ?_
                  rotate_left
                  · (intro w hSw; (try dsimp only at hSw); go_simp)
                    all_goals with_reducible rfl
                  try simp only [Act.put, List.setIfInBounds_toArray, List.set_cons_zero, List.set_cons_succ]
                  refine wpAnyH_ready (rs := [17]) (by kernel_rfl) (by simp) ?_
                  refine AllReadyH.cons (o := { dst := none, op := Go.Op.store 23 (Go.Operand.tmp 40) (Go.Operand.tmp 38), type := 0, pos := "e_edit.go:188", after := #[{ on := 16, ground := Go.Ground.data }, { on := 14, ground := Go.Ground.data }, { on := 14, ground := Go.Ground.chain }, { on := 0, ground := Go.Ground.phase }, { on := 1, ground := Go.Ground.phase }, { on := 2, ground := Go.Ground.phase }, { on := 3, ground := Go.Ground.phase }, { on := 4, ground := Go.Ground.phase }, { on := 5, ground := Go.Ground.phase }, { on := 6, ground := Go.Ground.phase }, { on := 7, ground := Go.Ground.phase }, { on := 8, ground := Go.Ground.phase }, { on := 9, ground := Go.Ground.phase }, { on := 10, ground := Go.Ground.phase }, { on := 11, ground := Go.Ground.phase }, { on := 12, ground := Go.Ground.phase }, { on := 13, ground := Go.Ground.phase }, { on := 14, ground := Go.Ground.phase }], guard := none }) rfl (fun K hK => ?_) ?_
                  · go_simp
                    refine hK.out _ _ ?_ (fun hHeld => ?_)
                    · (try dsimp only); first | exact HS.out _ rfl rfl | exact HS.out _ qa ra | exact HS.out _ q8 r8 | exact HS.out _ (q9 _) (r9 _)
                    clear hK K
                    try simp only [Act.put, List.setIfInBounds_toArray, List.set_cons_zero, List.set_cons_succ]
                    refine wpAnyH_done (by kernel_rfl) ?_ _
                    have hlo8 : w4.heap.size ≤ gn := Nat.le_trans (by show w4.heap.size ≤ (w4.alloc (.cells #[.int .i64 0, .string ⟨#[]⟩, .string ⟨#[]⟩, .int .u64 0, .slice none 0 0] 25)).heap.size; rw [alloc_size]; exact Nat.le_succ _) hlo
                    have h4n := row_setG h48 14 (.slice (some ⟨gn, 0, none⟩) 2 cn)
                    have hLS := HSI.out
                    have hLL := HLL.out
                    have hXL := HX4.out.lt
                    have hXG : w.heap.size < g4 := by have := (Array.getElem?_eq_some_iff.1 HX1.out).1; omega
                    have hgx : (w8.setCell ⟨g4, 14, none⟩ (.slice (some ⟨gn, 0, none⟩) 2 cn)).heap[w.heap.size]? = w4.heap[w.heap.size]? := (heap_set_other _ (by omega)).trans (hbl8 _ hXL)
                    have hgo : OptIn (w8.setCell ⟨g4, 14, none⟩ (.slice (some ⟨gn, 0, none⟩) 2 cn)) g1 g2 := HF4.out.opt.keep ((heap_set_other _ (by omega)).trans (hbl8 _ (by omega))) ((heap_set_other _ (by omega)).trans (hbl8 _ (by omega)))
                    have hgr : (w8.setCell ⟨g4, 14, none⟩ (.slice (some ⟨gn, 0, none⟩) 2 cn)).heap[gn]? = some (.cells cur 25 (0, 0)) := (heap_set_other _ (by omega)).trans hrow8
                    have hgb : Below w.heap.size w (w8.setCell ⟨g4, 14, none⟩ (.slice (some ⟨gn, 0, none⟩) 2 cn)) := (HBB.out w8 hg8).setCell (p := ⟨g4, 14, none⟩) (by have := HB1.out.size; show w.heap.size ≤ g4; omega) _
                    have HMID : Hid (MidP w w4 (w8.setCell ⟨g4, 14, none⟩ (.slice (some ⟨gn, 0, none⟩) 2 cn)) w2.heap.size g1 g2 g4 gn cn) := Lib.hid ⟨hgx, hgo, hcn, h4n, ⟨cur, hgr, hsz8, htk8⟩, (q9 _).trans HFB4.out, hgb, ⟨by omega, by omega, by omega, by omega⟩, by omega, Nat.le_trans HB4.out.size hlo8⟩
                    clear hHeld hgx hXL hXG hgo hgr hgb h4n hlo8 hrow8 htk8 hown8 hg8 hlo q8 r8 q9 r9 h48 c8 f8 hbl8 hLS hLL
                    go_wp2_with fail
                    go_meet
                    exact ⟨rfl, rfl, gn, cn, rfl, HMID⟩
                  exact AllReadyH.nil
                exact AllReadyH.nil
              exact AllReadyH.nil
            exact AllReadyH.nil
          exact AllReadyH.nil
        case rest =>
          obtain ⟨rfl, rfl, gn, cn, rfl, HM⟩ := hcut
          have HAPX := Lib.hid HM.out.done
          obtain ⟨cur, hr, hsz, htk⟩ := HM.out.row
          have s5 : wc.cell? ⟨gn, 5, none⟩ = some (.int .i64 0) := by rw [Lib.cell_of_heap hr, take_at htk 5 (by decide)]; rfl
          have s6 : wc.cell? ⟨gn, 6, none⟩ = some (.string ⟨#[]⟩) := by rw [Lib.cell_of_heap hr, take_at htk 6 (by decide)]; rfl
          have s7 : wc.cell? ⟨gn, 7, none⟩ = some (.string ⟨#[]⟩) := by rw [Lib.cell_of_heap hr, take_at htk 7 (by decide)]; rfl
          have s8 : wc.cell? ⟨gn, 8, none⟩ = some (.int .u64 0) := by rw [Lib.cell_of_heap hr, take_at htk 8 (by decide)]; rfl
          have s9 : wc.cell? ⟨gn, 9, none⟩ = some (.slice none 0 0) := by rw [Lib.cell_of_heap hr, take_at htk 9 (by decide)]; rfl
          have y5 := Lib.frozen_of_heap hr 5
          have y6 := Lib.frozen_of_heap hr 6
          have y7 := Lib.frozen_of_heap hr 7
          have y8 := Lib.frozen_of_heap hr 8
          have y9 := Lib.frozen_of_heap hr 9
          clear hr htk
          go_upto_region 8 with fail
          obtain ⟨wd, hwd⟩ : ∃ wd, wd = (((((wc.setCell ⟨gn, 5, none⟩ (.int .i64 12)).setCell ⟨gn, 6, none⟩ (.string ⟨#[]⟩)).setCell ⟨gn, 7, none⟩ (.string ⟨#[]⟩)).setCell ⟨gn, 8, none⟩ (.int .u64 0)).setCell ⟨gn, 9, none⟩ (.slice (some ⟨g2, 0, none⟩) 1 1)) := ⟨_, rfl⟩
          rw [← hwd] at HAPX ⊢
          clear hwd s5 s6 s7 s8 s9 y5 y6 y7 y8 y9 HM
          have HAP := HAPX
          have HX9 : Hid (BoxAt w.heap.size k x m n a ks.length c wd) := Lib.hid (HAP.out.file.trans HX4.out)
          have hnode : NodeIn wd (· < wd.heap.size) (fileT [optT, optT]) (nodeU 3 ⟨#[]⟩ ⟨#[]⟩ 0 (some ⟨g4, 0, none⟩) 3 3) := HAP.out.two.file (Array.getElem?_eq_some_iff.1 HAP.out.two.opt.h1).1 (Array.getElem?_eq_some_iff.1 HAP.out.two.opt.h2).1 (Array.getElem?_eq_some_iff.1 HAP.out.two.h4).1 HAP.out.gn
          have himp := implDup_any (t := ⟨#[]⟩) (m := ⟨#[]⟩) (a0 := noT) (l1 := []) (l2 := [optT, optT]) (name := ⟨#[97]⟩) (fileT_ast [optT, optT] (by simp)) fileT_count _ wd hnode (Nat.le_refl _)
          rw [two_hits] at himp
          unfold nodeU at himp
          have HIM := Lib.hid himp
          have HBC := Lib.hid HAP.out.bel
          have hfx := HAP.out.box
          have c0 : wd.cell? ⟨w2.heap.size, 0, none⟩ = some (.int .i64 3) := by rw [Lib.cell_of_heap hfx]; rfl
          have c1 : wd.cell? ⟨w2.heap.size, 1, none⟩ = some (.string ⟨#[]⟩) := by rw [Lib.cell_of_heap hfx]; rfl
          have c2 : wd.cell? ⟨w2.heap.size, 2, none⟩ = some (.string ⟨#[]⟩) := by rw [Lib.cell_of_heap hfx]; rfl
          have c3 : wd.cell? ⟨w2.heap.size, 3, none⟩ = some (.int .u64 0) := by rw [Lib.cell_of_heap hfx]; rfl
          have c4 : wd.cell? ⟨w2.heap.size, 4, none⟩ = some (.slice (some ⟨g4, 0, none⟩) 3 3) := by rw [Lib.cell_of_heap hfx]; rfl
          clear himp hnode hfx
          go_wp2_with fail
          ((with_reducible refine HIM.out.mono ?_))
          rintro e w9 ⟨rfl, hb9⟩
          have HB9 := Lib.hid (HBC.out.trans (hb9.mono HBC.out.size))
          have HX10 := Lib.hid (HX9.out.below hb9)
          have hwk := walked_any _ _ N w9 (HV.out.keep (Keep.of_below HB9.out hN)) (Nat.le_trans hN HB9.out.size) (Utf8Tabs_below HT.out HB9.out)
          unfold nodeU at hwk
          have HWK := Lib.hid hwk
          obtain ⟨d0, d1, d2, d3, d4⟩ := HX10.out.five
          clear hb9 hwk c0 c1 c2 c3 c4 HIM HAP
          go_wp2_with fail
          ((with_reducible refine HWK.out.mono ?_))
          rintro e w10 ⟨b, rfl, hb, hb10⟩
          have HB10 := Lib.hid (HB9.out.trans (hb10.mono HB9.out.size))
          have HX11 := Lib.hid (HX10.out.below hb10)
          clear hb10 d0 d1 d2 d3 d4 HWK
          obtain ⟨d0, d1, d2, d3, d4⟩ := HX11.out.five
          cases b with
          | false =>
            clear hb
            go_wp2
            go_ret
            exact ⟨rfl, HB10.out⟩
          | true =>
            obtain ⟨hT0, hcnt⟩ := hb rfl
            have HTC := Lib.hid (And.intro hT0 hcnt)
            clear hb hT0 hcnt
            by_cases hk3 : k = 3
            · subst hk3
              have HNM := Lib.hid (name_any name HNS.out w10 (Utf8Tabs_below HT.out HB10.out))
              go_wp2_with fail
              ((with_reducible refine HNM.out.mono ?_))
              rintro e w11 ⟨b, rfl, hn, hb11⟩
              have HB11 := Lib.hid (HB10.out.trans (hb11.mono HB10.out.size))
              have HX12 := Lib.hid (HX11.out.below hb11)
              clear hb11 d0 d1 d2 d3 d4 HNM
              cases b with
              | false =>
                clear hn
                go_wp2
                go_ret
                exact ⟨rfl, HB11.out⟩
              | true =>
                have HNE := Lib.hid (hn rfl)
                clear hn
                obtain ⟨t', m', a0, l1, l2, he, hA, hK⟩ := HTC.out.1.file rfl
                injection he with e1 e2 e3 e4 e5
                subst e2 e3 e4 e5
                have HHA := Lib.hid hA
                have hlen : l2.length ≤ 1000 := by
                  have hc := HTC.out.2
                  simp only [Tr.count_mk, List.map_cons, List.map_nil, List.sum_cons, List.sum_nil] at hc
                  have := cnt_len l2
                  omega
                obtain ⟨b, o, rfl, hbN, hkid⟩ := HV.out.kidsAt (by simp)
                obtain ⟨x2, y2, hn2, z0, z1, z2, z3, z4⟩ := hkid w (Keep.refl _ _) 2 (by simp)
                simp only [List.getElem_cons_zero, List.getElem_cons_succ, Nat.reduceMul, Tr.kind, Tr.text, Tr.more, Tr.num, Tr.kids] at hn2 z4
                have z5 := (HB11.out.cell (p := ⟨b, o + 10 + 4, none⟩) (Nat.lt_of_lt_of_le hbN hN)).trans z4
                have HROW := Lib.hid (RowN.of hn2)
                have HIU : Hid (∀ W, Below w.heap.size w W → Calls Tryz.prog 6 #[.agg #[.int .i64 3, .string x, .string m, .int .u64 0, .slice (some ⟨b, o, none⟩) 3 c], .string name] W fun e w' => e = .returned (.tuple #[.bool (decide (1 < hits name l2)), .bool true]) ∧ Below W.heap.size W w') := Lib.hid fun W hb => implDup_any HTC.out.1 HTC.out.2 _ W (HV.out.keep (Keep.of_below hb hN)) (Nat.le_trans hN hb.size)
                have HOP : Hid (∀ W, Below w.heap.size w W → Calls Tryz.prog 9 #[.agg #[.int .i64 3, .string x, .string m, .int .u64 0, .slice (some ⟨b, o, none⟩) 3 c], .string name] W fun e w' => e = .returned (.int .i64 (hits name l2 : Nat)) ∧ Below W.heap.size W w') := Lib.hid fun W hb => options_any HNE.out HHA.out hlen _ W (HV.out.keep (Keep.of_below hb hN)) (Nat.le_trans hN hb.size)
                have HX13 : Hid (BoxAt w.heap.size 3 x m 0 (some ⟨b, o, none⟩) 3 c w11) := HX12
                obtain ⟨d0, d1, d2, d3, d4⟩ := HX13.out.five
                clear hkid hn2 z0 z1 z2 z3 z4 hA hK HX12 e1
                go_wp2
                go_loopw [89] (fun i wr => ∃ j : Nat, j ≤ l2.length ∧ i = .int .i64 j ∧ Hid (Below w.heap.size w wr) ∧ Hid (BoxAt w.heap.size 3 x m 0 (some ⟨b, o, none⟩) 3 c wr)) (fun i _ => l2.length - (intOf i).toNat)
                case atStart => exact ⟨0, Nat.zero_le _, rfl, HB11, HX13⟩
                case round =>
                  obtain ⟨j, hj, rfl, HW, HXW⟩ := hrel
                  by_cases hlt : j < l2.length
                  · obtain ⟨b', o', rfl, hb'N, hkid'⟩ := HROW.out (by omega)
                    obtain ⟨x1, y1, hin, e0, e1, e2, e3, e4⟩ := hkid' wr (Keep.of_below HW.out hN) j hlt
                    have HAX := Lib.hid (HHA.out _ (List.getElem_mem hlt))
                    clear hkid' HROW z5 d0 d1 d2 d3 d4
                    generalize l2[j] = y at *
                    have hi1 : (j : Int) < l2.length := by omega
                    have hi0 : (0 : Int) ≤ j := by omega
                    have hNr : N ≤ wr.heap.size := Nat.le_trans hN HW.out.size
                    by_cases h12 : y.kind = 12
                    · obtain ⟨q, rfl, hkq, hTq⟩ := HAX.out.opt h12
                      simp only [Tr.kind, Tr.text, Tr.more, Tr.num, Tr.kids, List.length_cons, List.length_nil] at e0 e1 e2 e3 e4 hin
                      obtain ⟨b1, o1, rfl, hb1N, hk1⟩ := hin.kidsAt (by simp)
                      have hbq := (Below.refl wr.heap.size wr).alloc (Nat.le_refl _) (.cells #[.int .i64 12, .string ⟨#[]⟩, .string ⟨#[]⟩, .int .u64 0, .slice (some ⟨b1, o1, none⟩) 1 y1] 25)
                      obtain ⟨xa, ya, hna, f0, f1, f2, f3, f4⟩ := hk1 (wr.alloc (.cells #[.int .i64 12, .string ⟨#[]⟩, .string ⟨#[]⟩, .int .u64 0, .slice (some ⟨b1, o1, none⟩) 1 y1] 25)) (Keep.of_below hbq hNr) 0 (by simp)
                      simp only [List.getElem_cons_zero, Nat.zero_mul, Nat.add_zero] at f0
                      have HBQ := Lib.hid (HW.out.trans (hbq.mono HW.out.size))
                      have HXQ := Lib.hid (HXW.out.below hbq)
                      clear hk1 hna f1 f2 f3 f4 hbq hin HAX
                      rcases hkq with hk10 | hk11
                      · rw [hk10] at f0
                        go_wp2
                        go_roundw
                        case rel => exact ⟨j + 1, by omega, by go_num, HBQ, HXQ⟩
                        case measure => simp [intOf]; omega
                      · rw [hk11] at f0
                        go_wp2
                        go_ret
                        exact ⟨rfl, HBQ.out⟩
                    · have h12b : (y.kind == 12) = false := beq_eq_false_iff_ne.2 h12
                      have hbq := (Below.refl wr.heap.size wr).alloc (Nat.le_refl _) (.cells #[.int .i64 y.kind, .string y.text, .string y.more, .int .u64 y.num, .slice x1 y.kids.length y1] 25)
                      have HBQ := Lib.hid (HW.out.trans (hbq.mono HW.out.size))
                      have HXQ := Lib.hid (HXW.out.below hbq)
                      clear hin HAX hbq
                      go_wp2
                      go_roundw
                      case rel => exact ⟨j + 1, by omega, by go_num, HBQ, HXQ⟩
                      case measure => simp [intOf]; omega
                  · have hje : j = l2.length := by omega
                    subst hje
                    have HI1 := Lib.hid (HIU.out wr HW.out)
                    obtain ⟨p0, p1, p2, p3, p4⟩ := HXW.out.five
                    clear z5 d0 d1 d2 d3 d4
                    by_cases h1 : 1 < hits name l2
                    · have h1i : (1 : Int) < (hits name l2 : Nat) := by omega
                      have hdt : decide (1 < hits name l2) = true := decide_eq_true h1
                      rw [hdt] at HI1
                      go_wp2_with fail
                      ((with_reducible refine HI1.out.mono ?_))
                      rintro e w12 ⟨rfl, hb12⟩
                      have HB12 := Lib.hid (HW.out.trans (hb12.mono HW.out.size))
                      have HX14 := Lib.hid (HXW.out.below hb12)
                      have HO := Lib.hid (HOP.out w12 HB12.out)
                      clear p0 p1 p2 p3 p4 hb12 hdt
                      obtain ⟨p0, p1, p2, p3, p4⟩ := HX14.out.five
                      go_wp2_with fail
                      ((with_reducible refine HO.out.mono ?_))
                      rintro e w13 ⟨rfl, hb13⟩
                      have HB13 := Lib.hid (HB12.out.trans (hb13.mono HB12.out.size))
                      clear hb13 p0 p1 p2 p3 p4
                      go_wp2
                      go_ret
                      exact ⟨rfl, HB13.out⟩
                    · have h1i : ¬ (1 : Int) < (hits name l2 : Nat) := by omega
                      have hdt : decide (1 < hits name l2) = false := decide_eq_false h1
                      have hdb : decide ((1 : Int) < (hits name l2 : Nat)) = false := decide_eq_false h1i
                      rw [hdt] at HI1
                      go_wp2_with fail
                      ((with_reducible refine HI1.out.mono ?_))
                      rintro e w12 ⟨rfl, hb12⟩
                      have HB12 := Lib.hid (HW.out.trans (hb12.mono HW.out.size))
                      have HX14 := Lib.hid (HXW.out.below hb12)
                      have HO := Lib.hid (HOP.out w12 HB12.out)
                      clear p0 p1 p2 p3 p4 hb12 hdt
                      obtain ⟨p0, p1, p2, p3, p4⟩ := HX14.out.five
                      go_wp2_with fail
                      ((with_reducible refine HO.out.mono ?_))
                      rintro e w13 ⟨rfl, hb13⟩
                      have HB13 := Lib.hid (HB12.out.trans (hb13.mono HB12.out.size))
                      clear hb13 p0 p1 p2 p3 p4
                      go_wp2
                      go_ret
                      exact ⟨rfl, HB13.out⟩
            · have hk3b : (k == 3) = false := beq_eq_false_iff_ne.2 hk3
              have hk3c : (k != 3) = true := by simp [bne, hk3b]
              go_wp2
              go_ret
              exact ⟨rfl, HB10.out⟩

set_option maxRecDepth 100000 in
theorem hasDup_walk {H : Type} {enc : TypeId × Value → H} (W : World) (hL : laidMetH Tryz.prog Rows.fnHasDuplicateOptionsRow.laid W) (v0 : Value) (d0 : DataW H) (p0 : List MemPlace) (hv0 : Value.okWide Tryz.prog W .any 0 25 v0) (h0 : DataW.Trod enc Tryz.prog W 0 (fun _ => true) true 25 v0 d0 p0) (s : ByteArray) (_ : s.size ≤ 140737488351232) {hsz : Prop} (_ : hsz) :
    Calls Tryz.prog 3 #[v0, .string s] W fun e W' => e = .returned (.bool true) ∧ Below W.heap.size W W' := by
  have hT : Lib.Utf8Tabs 1 2 W := utf_tabs (Lib.laidMet.reads hL (.tail _ (.head _))) (Lib.laidMet.reads hL (.head _))
  obtain ⟨t, ht⟩ := tree_arg hv0 h0
  exact lawDup_any t v0 W.heap.size W ht (Nat.le_refl _) s hT

end Go.Proofs.YtkohgndmhgcgeaaGreatDoor
