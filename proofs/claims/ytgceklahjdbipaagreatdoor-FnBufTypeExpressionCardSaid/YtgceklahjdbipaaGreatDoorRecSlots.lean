/- The maker's slots of a record's and a function's type: a list and a kid. A row of two slots: a kid's and a list's. The maker's slots of a constraint's type and of a type's expression. -/
import Derived.Test.YtgceklahjdbipaaGreatDoorTySlots
import Derived.Test.YtgceklahjdbipaaGreatDoorTables
namespace Go.Proofs.YtgceklahjdbipaaGreatDoor
open Go Go.RowKit
set_option linter.unusedVariables false
set_option linter.unusedSimpArgs false

set_option maxHeartbeats 8000000 in
set_option maxRecDepth 100000 in
theorem recSlots (M : Nat) (base : Bool) (out : List UInt8) (N : Nat) (t m : ByteArray) (u : Int) (k2 : Tr) (rest : List Tr) (a : Option Addr) (c : Nat) (fs2 : List SlotQ) (hfs : fs2.length ≤ 40) (ps : List PartQ) (w : World) (h : Mk M base out w) (hN : N ≤ w.heap.size) (ho : ∀ r, r < N → MkOther M r w)
    (hv : NodeIn w (· < N) (.mk 49 t m u (k2 :: rest)) (nodeU 49 t m u a (rest.length + 1) c))
    (hk : KidWriter M base N rest ps)
    (hmb2 : ∀ W a' l' c', Below w.heap.size w W → NodeIn W (· < N) k2 (nodeU k2.kind k2.text k2.more k2.num a' l' c') → Calls Tryz.prog 194 #[.int .i64 2, nodeU k2.kind k2.text k2.more k2.num a' l' c'] W (MaybePost M base fs2 W)) :
    Calls Tryz.prog 127 #[.agg #[.int .i64 49, .string t, .string m, .int .u64 u, .slice a (rest.length + 1) c]] w (SlotsPost M base ([listQ 1 ps] ++ fs2) w) := by
  have hcap : rest.length + 1 ≤ c := by
    obtain ⟨a1, c1, he, _, _, _, _, hl, hc, hk⟩ := hv.parts
    unfold nodeU at he
    simp only [Value.agg.injEq, Array.mk.injEq, List.cons.injEq, Value.slice.injEq] at he
    have hc2 : rest.length + 1 ≤ c1 := hc
    rw [he.2.2.2.2.1.2.2]
    exact hc2
  have hli := ListIn.of (t := k2) hv
  obtain ⟨b, o, rfl, hbN, hkid⟩ := hv.kidsAt (by simp)
  obtain ⟨a1, hti, hsl⟩ := tail_slice hli hcap
  have hb0 := (Below.refl w.heap.size w).alloc (Nat.le_refl _) (.cells #[.int .i64 49, .string t, .string m, .int .u64 u, .slice (some ⟨b, o, none⟩) (rest.length + 1) c] 25)
  have hrow0 := heap_alloc_new w (.cells #[.int .i64 49, .string t, .string m, .int .u64 u, .slice (some ⟨b, o, none⟩) (rest.length + 1) c] 25)
  obtain ⟨w0, hw0⟩ : ∃ w0, w0 = w.alloc (.cells #[.int .i64 49, .string t, .string m, .int .u64 u, .slice (some ⟨b, o, none⟩) (rest.length + 1) c] 25) := ⟨_, rfl⟩
  rw [← hw0] at hb0 hrow0
  obtain ⟨a2, c2, hn2, e0, e1, e2, e3, e4⟩ := hkid w0 (Keep.of_below hb0 hN) 0 (by simp)
  simp only [List.getElem_cons_zero, List.getElem_cons_succ, Nat.zero_mul, Nat.add_zero] at hn2 e0 e1 e2 e3 e4
  have HKW := Lib.hid hk
  have HTI := Lib.hid (hti.keep (Keep.of_below hb0 hN))
  have hMB2 : ∀ W, Below w0.heap.size w0 W → Calls Tryz.prog 194 #[.int .i64 2, nodeU k2.kind k2.text k2.more k2.num a2 k2.kids.length c2] W (MaybePost M base fs2 W) := fun W hb => hmb2 W a2 k2.kids.length c2 (hb0.trans (hb.mono hb0.size)) (hn2.keep (Keep.of_below hb (Nat.le_trans hN hb0.size)))
  unfold nodeU at hMB2
  have HMB2 := Lib.hid hMB2
  have hfs : [listQ 1 ps].length + fs2.length ≤ 50 := by simp; omega
  have H01 : 0 < [listQ 1 ps].length := by simp
  have HSP : Hid (∀ w2, Below w0.heap.size w0.drew w2 → w2.heap[w0.heap.size]? = some (.cells #[.slice a1 rest.length (c - 1)] 23 (0, 0)) → SlotsPost M base [listQ 1 ps] w0 (.returned (.slice (some ⟨w2.heap.size, 0, none⟩) 1 1)) (w2.alloc (.cells #[.int .i64 1, .int .i64 4, .int .u64 0, .func (.func 218) #[] #[.pointer (some ⟨w0.heap.size, 0, none⟩)]] 267))) := Lib.hid fun w2 h1 h2 => list_slots (i := 1) (w1 := w0.drew) (h.below hb0) (Nat.le_trans hN hb0.size) (fun r hr => (ho r hr).below h.lt hb0) hk (hti.keep (Keep.of_below hb0 hN)) (Below.refl _ w0).drew h1 rfl h2
  have HM0 := Lib.hid (h.below hb0)
  have HO := Lib.hid (fun r hr => (ho r hr).below h.lt hb0)
  have HB3 : Hid (∀ (w2 w3 : World) (o : Obj), Below w0.heap.size w0.drew w2 → Below (w2.alloc o).heap.size (w2.alloc o) w3 → Below w0.heap.size w0.drew w3) := Lib.hid fun w2 w3 o h1 h2 => (h1.alloc h1.size o).trans (h2.mono (h1.alloc h1.size o).size)
  have HBY : Hid (∀ (w2 w3 : World) (o : Obj), Below w2.heap.size w2 w3 → Below w0.heap.size w0 w2 → w2.heap[w0.heap.size]? = some o → w3.heap[w0.heap.size]? = some o) := Lib.hid fun w2 w3 o h1 _ h => (h1.block _ (Array.getElem?_eq_some_iff.1 h).1).trans h
  have HBX : Hid (∀ (w2 : World) (o : Obj), w2.heap[w0.drew.heap.size]? = some o → w2.heap[w0.heap.size]? = some o) := Lib.hid fun w2 o h => h
  have HD0 : Hid (∀ w2, Below w0.drew.heap.size w0.drew w2 → Below w0.heap.size w0 w2) := Lib.hid fun w2 h => (Below.refl w0.heap.size w0).drew.trans h
  have HD1 : Hid (∀ w2, Below w0.drew.heap.size w0.drew w2 → Below w0.heap.size w0.drew w2) := Lib.hid fun w2 h => h
  have HB0 := Lib.hid hb0
  have hN0 : N ≤ w0.heap.size := Nat.le_trans hN hb0.size
  have hbl : b < w0.heap.size := Nat.lt_of_lt_of_le hbN hN0
  have f4 : w0.cell? ⟨w.heap.size, 4, none⟩ = some (.slice (some ⟨b, o, none⟩) (rest.length + 1) c) := by rw [Lib.cell_of_heap hrow0]; rfl
  have hxl := (Array.getElem?_eq_some_iff.1 hrow0).1
  have HROW := Lib.hid hrow0
  have f0 : w0.cell? ⟨w.heap.size, 0, none⟩ = some (.int .i64 49) := by rw [Lib.cell_of_heap hrow0]; rfl
  clear h ho hv hkid hti hli hn2 hb0 hrow0 hMB2 hmb2 hk
  generalize k2.kind = kk2 at *
  generalize k2.text = tt2 at *
  generalize k2.more = mm2 at *
  generalize k2.num = nn2 at *
  generalize k2.kids.length = ll2 at *
  have HW0 := Lib.hid hw0
  go_enter Tryz.func127, Tryz.ntmps127
  go_upto_region 10 with fail
  rw [← HW0.out]
  clear hw0 HW0
  have HS : Hid (∀ w', Below w0.heap.size w0.drew w' → w'.cell? ⟨w.heap.size, 4, none⟩ = some (.slice (some ⟨b, o, none⟩) (rest.length + 1) c) ∧
      (w'.cell? ⟨b, o, none⟩ = some (.int .i64 kk2) ∧ w'.cell? ⟨b, o + 1, none⟩ = some (.string tt2) ∧ w'.cell? ⟨b, o + 2, none⟩ = some (.string mm2) ∧ w'.cell? ⟨b, o + 3, none⟩ = some (.int .u64 nn2) ∧ w'.cell? ⟨b, o + 4, none⟩ = some (.slice a2 ll2 c2))) := Lib.hid fun w' hb => by
    have hc : ∀ r i, r < w0.heap.size → w'.cell? ⟨r, i, none⟩ = w0.cell? ⟨r, i, none⟩ := fun r i hr => hb.cell (p := ⟨r, i, none⟩) hr
    refine ⟨(hc _ _ hxl).trans f4, (hc _ _ hbl).trans e0, (hc _ _ hbl).trans e1, (hc _ _ hbl).trans e2, (hc _ _ hbl).trans e3, (hc _ _ hbl).trans e4⟩
  go_region_held3 (fun w' => w'.cell? ⟨w.heap.size, 4, none⟩ = some (.slice (some ⟨b, o, none⟩) (rest.length + 1) c) ∧
      (w'.cell? ⟨b, o, none⟩ = some (.int .i64 kk2) ∧ w'.cell? ⟨b, o + 1, none⟩ = some (.string tt2) ∧ w'.cell? ⟨b, o + 2, none⟩ = some (.string mm2) ∧ w'.cell? ⟨b, o + 3, none⟩ = some (.int .u64 nn2) ∧ w'.cell? ⟨b, o + 4, none⟩ = some (.slice a2 ll2 c2))) (first | exact HS.out _ (Below.refl _ _) | exact HS.out _ hb2d | exact HS.out _ hb3 | exact HS.out _ hb6 | go_keep) (first
    | (go_at_call 193; ((with_reducible refine (listAt_any 1 a1 rest.length (c - 1) _).mono ?_)); rintro e w2 ⟨rfl, hbox, hb2⟩; have hboxd := HBX.out _ _ hbox; have hb20 := HD0.out _ hb2; have hb2d := HD1.out _ hb2)
    | (go_at_call 194; ((with_reducible refine (HMB2.out _ (below_alloc hb20 _)).mono ?_)); rintro e w3 ⟨v2, l2, D2, rfl, hl2, hat2, hv2, hb23, hD2, hf2⟩; obtain ⟨a8, n8, c8, rfl⟩ := hat2.slice; have hb3 := HB3.out _ _ _ hb2d hb23)
    | (go_at_call 194; ((with_reducible refine (HMB2.out _ hb20).mono ?_)); rintro e w3 ⟨v2, l2, D2, rfl, hl2, hat2, hv2, hb23, hD2, hf2⟩; obtain ⟨a8, n8, c8, rfl⟩ := hat2.slice; have hb3 : Below w0.heap.size w0.drew w3 := hb2d.trans (hb23.mono hb20.size); have hb30 := HD0.out _ hb3; have hbox3 := HBY.out _ _ _ hb23 hb20 hboxd)
    | (go_at_call 192; ((with_reducible refine (join_prop ((HM0.out.below hb20).below (below_alloc (Below.refl _ _) _)) (HSP.out _ hb2d hboxd) H01 hb23 hat2 hl2 hD2 hf2 hfs).mono ?_)); rintro e w6 ⟨v, l, D, rfl, hp⟩; have hb6 := HB3.out _ _ _ hb2d hp.2.2.1)
    | (go_at_call 192; ((with_reducible refine (join_propA (HM0.out.below hb30) (HSP.out _ hb3 hbox3) H01 hat2 hl2 hD2 hf2 hfs).mono ?_)); rintro e w6 ⟨v, l, D, rfl, hp⟩; have hb6 := HB3.out _ _ _ hb3 hp.2.2.1)
    | fail "none")
  all_goals
    have HPP := Lib.hid (show SlotsPost M base ([listQ 1 ps] ++ fs2) w (.returned v) w6 from by
      first
        | exact SlotsPost.from (Below.trans HB0.out (Below.mono (below_alloc hb30 _) HB0.out.size)) ⟨v, l, D, rfl, hp⟩
        | exact SlotsPost.from (Below.trans HB0.out (Below.mono (below_alloc hb20 _) HB0.out.size)) ⟨v, l, D, rfl, hp⟩)
    go_wp2
    go_ret
    exact HPP.out

set_option maxHeartbeats 8000000 in
set_option maxRecDepth 100000 in
theorem funcSlots (M : Nat) (base : Bool) (out : List UInt8) (N : Nat) (t m : ByteArray) (u : Int) (k2 : Tr) (rest : List Tr) (a : Option Addr) (c : Nat) (fs2 : List SlotQ) (hfs : fs2.length ≤ 40) (ps : List PartQ) (w : World) (h : Mk M base out w) (hN : N ≤ w.heap.size) (ho : ∀ r, r < N → MkOther M r w)
    (hv : NodeIn w (· < N) (.mk 51 t m u (k2 :: rest)) (nodeU 51 t m u a (rest.length + 1) c))
    (hk : KidWriter M base N rest ps)
    (hmb2 : ∀ W a' l' c', Below w.heap.size w W → NodeIn W (· < N) k2 (nodeU k2.kind k2.text k2.more k2.num a' l' c') → Calls Tryz.prog 191 #[.int .i64 2, nodeU k2.kind k2.text k2.more k2.num a' l' c'] W (MaybePost M base fs2 W)) :
    Calls Tryz.prog 127 #[.agg #[.int .i64 51, .string t, .string m, .int .u64 u, .slice a (rest.length + 1) c]] w (SlotsPost M base ([listQ 1 ps] ++ fs2) w) := by
  have hcap : rest.length + 1 ≤ c := by
    obtain ⟨a1, c1, he, _, _, _, _, hl, hc, hk⟩ := hv.parts
    unfold nodeU at he
    simp only [Value.agg.injEq, Array.mk.injEq, List.cons.injEq, Value.slice.injEq] at he
    have hc2 : rest.length + 1 ≤ c1 := hc
    rw [he.2.2.2.2.1.2.2]
    exact hc2
  have hli := ListIn.of (t := k2) hv
  obtain ⟨b, o, rfl, hbN, hkid⟩ := hv.kidsAt (by simp)
  obtain ⟨a1, hti, hsl⟩ := tail_slice hli hcap
  have hb0 := (Below.refl w.heap.size w).alloc (Nat.le_refl _) (.cells #[.int .i64 51, .string t, .string m, .int .u64 u, .slice (some ⟨b, o, none⟩) (rest.length + 1) c] 25)
  have hrow0 := heap_alloc_new w (.cells #[.int .i64 51, .string t, .string m, .int .u64 u, .slice (some ⟨b, o, none⟩) (rest.length + 1) c] 25)
  obtain ⟨w0, hw0⟩ : ∃ w0, w0 = w.alloc (.cells #[.int .i64 51, .string t, .string m, .int .u64 u, .slice (some ⟨b, o, none⟩) (rest.length + 1) c] 25) := ⟨_, rfl⟩
  rw [← hw0] at hb0 hrow0
  obtain ⟨a2, c2, hn2, e0, e1, e2, e3, e4⟩ := hkid w0 (Keep.of_below hb0 hN) 0 (by simp)
  simp only [List.getElem_cons_zero, List.getElem_cons_succ, Nat.zero_mul, Nat.add_zero] at hn2 e0 e1 e2 e3 e4
  have HKW := Lib.hid hk
  have HTI := Lib.hid (hti.keep (Keep.of_below hb0 hN))
  have hMB2 : ∀ W, Below w0.heap.size w0 W → Calls Tryz.prog 191 #[.int .i64 2, nodeU k2.kind k2.text k2.more k2.num a2 k2.kids.length c2] W (MaybePost M base fs2 W) := fun W hb => hmb2 W a2 k2.kids.length c2 (hb0.trans (hb.mono hb0.size)) (hn2.keep (Keep.of_below hb (Nat.le_trans hN hb0.size)))
  unfold nodeU at hMB2
  have HMB2 := Lib.hid hMB2
  have hfs : [listQ 1 ps].length + fs2.length ≤ 50 := by simp; omega
  have H01 : 0 < [listQ 1 ps].length := by simp
  have HSP : Hid (∀ w2, Below w0.heap.size w0.drew w2 → w2.heap[w0.heap.size]? = some (.cells #[.slice a1 rest.length (c - 1)] 23 (0, 0)) → SlotsPost M base [listQ 1 ps] w0 (.returned (.slice (some ⟨w2.heap.size, 0, none⟩) 1 1)) (w2.alloc (.cells #[.int .i64 1, .int .i64 4, .int .u64 0, .func (.func 218) #[] #[.pointer (some ⟨w0.heap.size, 0, none⟩)]] 267))) := Lib.hid fun w2 h1 h2 => list_slots (i := 1) (w1 := w0.drew) (h.below hb0) (Nat.le_trans hN hb0.size) (fun r hr => (ho r hr).below h.lt hb0) hk (hti.keep (Keep.of_below hb0 hN)) (Below.refl _ w0).drew h1 rfl h2
  have HM0 := Lib.hid (h.below hb0)
  have HO := Lib.hid (fun r hr => (ho r hr).below h.lt hb0)
  have HB3 : Hid (∀ (w2 w3 : World) (o : Obj), Below w0.heap.size w0.drew w2 → Below (w2.alloc o).heap.size (w2.alloc o) w3 → Below w0.heap.size w0.drew w3) := Lib.hid fun w2 w3 o h1 h2 => (h1.alloc h1.size o).trans (h2.mono (h1.alloc h1.size o).size)
  have HBY : Hid (∀ (w2 w3 : World) (o : Obj), Below w2.heap.size w2 w3 → Below w0.heap.size w0 w2 → w2.heap[w0.heap.size]? = some o → w3.heap[w0.heap.size]? = some o) := Lib.hid fun w2 w3 o h1 _ h => (h1.block _ (Array.getElem?_eq_some_iff.1 h).1).trans h
  have HBX : Hid (∀ (w2 : World) (o : Obj), w2.heap[w0.drew.heap.size]? = some o → w2.heap[w0.heap.size]? = some o) := Lib.hid fun w2 o h => h
  have HD0 : Hid (∀ w2, Below w0.drew.heap.size w0.drew w2 → Below w0.heap.size w0 w2) := Lib.hid fun w2 h => (Below.refl w0.heap.size w0).drew.trans h
  have HD1 : Hid (∀ w2, Below w0.drew.heap.size w0.drew w2 → Below w0.heap.size w0.drew w2) := Lib.hid fun w2 h => h
  have HB0 := Lib.hid hb0
  have hN0 : N ≤ w0.heap.size := Nat.le_trans hN hb0.size
  have hbl : b < w0.heap.size := Nat.lt_of_lt_of_le hbN hN0
  have f4 : w0.cell? ⟨w.heap.size, 4, none⟩ = some (.slice (some ⟨b, o, none⟩) (rest.length + 1) c) := by rw [Lib.cell_of_heap hrow0]; rfl
  have hxl := (Array.getElem?_eq_some_iff.1 hrow0).1
  have HROW := Lib.hid hrow0
  have f0 : w0.cell? ⟨w.heap.size, 0, none⟩ = some (.int .i64 51) := by rw [Lib.cell_of_heap hrow0]; rfl
  clear h ho hv hkid hti hli hn2 hb0 hrow0 hMB2 hmb2 hk
  generalize k2.kind = kk2 at *
  generalize k2.text = tt2 at *
  generalize k2.more = mm2 at *
  generalize k2.num = nn2 at *
  generalize k2.kids.length = ll2 at *
  have HW0 := Lib.hid hw0
  go_enter Tryz.func127, Tryz.ntmps127
  go_upto_region 14 with fail
  rw [← HW0.out]
  clear hw0 HW0
  have HS : Hid (∀ w', Below w0.heap.size w0.drew w' → w'.cell? ⟨w.heap.size, 4, none⟩ = some (.slice (some ⟨b, o, none⟩) (rest.length + 1) c) ∧
      (w'.cell? ⟨b, o, none⟩ = some (.int .i64 kk2) ∧ w'.cell? ⟨b, o + 1, none⟩ = some (.string tt2) ∧ w'.cell? ⟨b, o + 2, none⟩ = some (.string mm2) ∧ w'.cell? ⟨b, o + 3, none⟩ = some (.int .u64 nn2) ∧ w'.cell? ⟨b, o + 4, none⟩ = some (.slice a2 ll2 c2))) := Lib.hid fun w' hb => by
    have hc : ∀ r i, r < w0.heap.size → w'.cell? ⟨r, i, none⟩ = w0.cell? ⟨r, i, none⟩ := fun r i hr => hb.cell (p := ⟨r, i, none⟩) hr
    refine ⟨(hc _ _ hxl).trans f4, (hc _ _ hbl).trans e0, (hc _ _ hbl).trans e1, (hc _ _ hbl).trans e2, (hc _ _ hbl).trans e3, (hc _ _ hbl).trans e4⟩
  go_region_held3 (fun w' => w'.cell? ⟨w.heap.size, 4, none⟩ = some (.slice (some ⟨b, o, none⟩) (rest.length + 1) c) ∧
      (w'.cell? ⟨b, o, none⟩ = some (.int .i64 kk2) ∧ w'.cell? ⟨b, o + 1, none⟩ = some (.string tt2) ∧ w'.cell? ⟨b, o + 2, none⟩ = some (.string mm2) ∧ w'.cell? ⟨b, o + 3, none⟩ = some (.int .u64 nn2) ∧ w'.cell? ⟨b, o + 4, none⟩ = some (.slice a2 ll2 c2))) (first | exact HS.out _ (Below.refl _ _) | exact HS.out _ hb2d | exact HS.out _ hb3 | exact HS.out _ hb6 | go_keep) (first
    | (go_at_call 193; ((with_reducible refine (listAt_any 1 a1 rest.length (c - 1) _).mono ?_)); rintro e w2 ⟨rfl, hbox, hb2⟩; have hboxd := HBX.out _ _ hbox; have hb20 := HD0.out _ hb2; have hb2d := HD1.out _ hb2)
    | (go_at_call 191; ((with_reducible refine (HMB2.out _ (below_alloc hb20 _)).mono ?_)); rintro e w3 ⟨v2, l2, D2, rfl, hl2, hat2, hv2, hb23, hD2, hf2⟩; obtain ⟨a8, n8, c8, rfl⟩ := hat2.slice; have hb3 := HB3.out _ _ _ hb2d hb23)
    | (go_at_call 191; ((with_reducible refine (HMB2.out _ hb20).mono ?_)); rintro e w3 ⟨v2, l2, D2, rfl, hl2, hat2, hv2, hb23, hD2, hf2⟩; obtain ⟨a8, n8, c8, rfl⟩ := hat2.slice; have hb3 : Below w0.heap.size w0.drew w3 := hb2d.trans (hb23.mono hb20.size); have hb30 := HD0.out _ hb3; have hbox3 := HBY.out _ _ _ hb23 hb20 hboxd)
    | (go_at_call 192; ((with_reducible refine (join_prop ((HM0.out.below hb20).below (below_alloc (Below.refl _ _) _)) (HSP.out _ hb2d hboxd) H01 hb23 hat2 hl2 hD2 hf2 hfs).mono ?_)); rintro e w6 ⟨v, l, D, rfl, hp⟩; have hb6 := HB3.out _ _ _ hb2d hp.2.2.1)
    | (go_at_call 192; ((with_reducible refine (join_propA (HM0.out.below hb30) (HSP.out _ hb3 hbox3) H01 hat2 hl2 hD2 hf2 hfs).mono ?_)); rintro e w6 ⟨v, l, D, rfl, hp⟩; have hb6 := HB3.out _ _ _ hb3 hp.2.2.1)
    | fail "none")
  all_goals
    have HPP := Lib.hid (show SlotsPost M base ([listQ 1 ps] ++ fs2) w (.returned v) w6 from by
      first
        | exact SlotsPost.from (Below.trans HB0.out (Below.mono (below_alloc hb30 _) HB0.out.size)) ⟨v, l, D, rfl, hp⟩
        | exact SlotsPost.from (Below.trans HB0.out (Below.mono (below_alloc hb20 _) HB0.out.size)) ⟨v, l, D, rfl, hp⟩)
    go_wp2
    go_ret
    exact HPP.out

/-- A slot of a node and one of a list, in a new row. -/
theorem pair_slots {M : Nat} {base : Bool} {N i j sz B1 B2 : Nat} {out : List UInt8} {tr : Tr} {k : Int} {t m : ByteArray} {u : Int} {a a2 : Option Addr} {n c c2 : Nat} {P : List UInt8 → List UInt8 × Nat} {Q : List UInt8 → Nat → Prop} {kids : List Tr} {ps : List PartQ} {w w1 w2 w3 : World}
    (h : Mk M base out w) (hN : N ≤ w.heap.size) (ho : ∀ r, r < N → MkOther M r w) (hw : NodeWrites M base N tr (nodeU k t m u a n c) P sz) (ht : NodeIn w (· < N) tr (nodeU k t m u a n c)) (hk : KidWriter M base N kids ps) (hl : ListIn w N kids a2)
    (hb1 : Below w.heap.size w w1) (hb2 : Below w1.heap.size w1 w2) (hb3 : Below w2.heap.size w2 w3) (hB1 : B1 = w1.heap.size) (hB2 : B2 = w2.heap.size)
    (hx1 : w2.heap[B1]? = some (.cells #[.int .i64 k, .string t, .string m, .int .u64 u, .slice a n c] 25 (0, 0)))
    (hx2 : w3.heap[B2]? = some (.cells #[.slice a2 kids.length c2] 23 (0, 0))) :
    SlotsPost M base [kidQ i P sz Q, listQ j ps] w (.returned (.slice (some ⟨w3.heap.size, 0, none⟩) 2 2)) (w3.alloc (.cells #[.int .i64 i, .int .i64 4, .int .u64 0, .func (.func 216) #[] #[.pointer (some ⟨B1, 0, none⟩)], .int .i64 j, .int .i64 4, .int .u64 0, .func (.func 218) #[] #[.pointer (some ⟨B2, 0, none⟩)]] 267)) := by
  subst hB1 hB2
  have hM := h.lt
  have hb12 : Below w.heap.size w w2 := hb1.trans (hb2.mono hb1.size)
  have hb13 : Below w.heap.size w w3 := hb12.trans (hb3.mono hb12.size)
  generalize ho' : Obj.cells #[.int .i64 i, .int .i64 4, .int .u64 0, .func (.func 216) #[] #[.pointer (some ⟨w1.heap.size, 0, none⟩)], .int .i64 j, .int .i64 4, .int .u64 0, .func (.func 218) #[] #[.pointer (some ⟨w2.heap.size, 0, none⟩)]] 267 = ob
  have hb4 := hb13.alloc hb13.size ob
  have hrow := heap_alloc_new w3 ob
  have hbl1 := (Array.getElem?_eq_some_iff.1 hx1).1
  have hbl2 := (Array.getElem?_eq_some_iff.1 hx2).1
  have hbox1 := (Below.heap_alloc w3 ob _ (Nat.lt_of_lt_of_le hbl1 hb3.size)).trans ((hb3.block _ hbl1).trans hx1)
  have hbox2 := (Below.heap_alloc w3 ob _ hbl2).trans hx2
  have hsz : (w3.alloc ob).heap.size = w3.heap.size + 1 := alloc_size _ _
  have s1 := hb1.size
  have s2 := hb2.size
  have s3 := hb3.size
  have hMl : M < w1.heap.size := Nat.lt_of_lt_of_le hM hb1.size
  refine ⟨_, [(kidQ i P sz Q, .func (.func 216) #[] #[.pointer (some ⟨w1.heap.size, 0, none⟩)]), (listQ j ps, .func (.func 218) #[] #[.pointer (some ⟨w2.heap.size, 0, none⟩)])], fun r => (r < N ∨ r = w1.heap.size) ∨ r = w2.heap.size, rfl, rfl, ⟨rfl, .inr ⟨w3.heap.size, 2, _, rfl, hb13.size, by rw [hrow, ← ho'], Nat.le_refl _, by decide, rfl, rfl⟩⟩, hb4, fun r hr => ?_, fun p hp => ?_⟩
  · have hne : ∀ x : Nat, x < w3.heap.size → (Value.slice (some ⟨w3.heap.size, 0, none⟩) 2 2).ownBlock ≠ some x := fun x hx => by
      show some w3.heap.size ≠ some x
      intro e
      have e2 := Option.some.inj e
      omega
    rcases hr with (hr | rfl) | rfl
    · exact ⟨by omega, (ho r hr).below hM hb4, hne _ (by omega)⟩
    · exact ⟨by omega, MkAt.newer (h.below hb1) (Nat.le_refl _) (((hb2.trans (hb3.mono s2)).alloc (Nat.le_trans s2 s3) ob).cell (p := ⟨M, 0, none⟩) hMl), hne _ (by omega)⟩
    · exact ⟨by omega, MkAt.newer (h.below hb12) (Nat.le_refl _) ((hb3.alloc s3 ob).cell (p := ⟨M, 0, none⟩) (Nat.lt_of_lt_of_le hMl s2)), hne _ (by omega)⟩
  · rcases List.mem_cons.1 hp with rfl | hp
    · exact (kid_FnD hw (Nat.le_trans hN hb4.size) (ht.keep (Keep.of_below hb4 hN)) hbox1).mono fun r hr => .inl hr
    · rw [List.mem_singleton] at hp
      rw [hp]
      exact (list_FnD hk (Nat.le_trans hN hb4.size) (hl.keep (Keep.of_below hb4 hN)) hbox2).mono fun r hr => hr.elim (fun h => .inl (.inl h)) .inr

theorem join_expr {M : Nat} {base : Bool} {out : List UInt8} {a1 : Option Addr} {n1 c1 : Nat} {l1 : List (SlotQ × Value)} {D1 : Nat → Prop} {fs1 fs2 : List SlotQ} {w2 w3 : World} {o : Obj}
    (hm2 : Mk M base out w2) (hat1 : ListAt w2 (.slice a1 n1 c1) l1) (hl1 : l1.map Prod.fst = fs1) (hD1 : ∀ r, D1 r → r < w2.heap.size ∧ MkOther M r w2) (hf1 : ∀ p ∈ l1, FnD M base D1 w2 p.2 p.1.s p.1.sz)
    (hsp : SlotsPost M base fs2 w2 (.returned (.slice (some ⟨w3.heap.size, 0, none⟩) 1 1)) (w3.alloc o)) (h0 : 0 < fs2.length) (hfs : fs1.length + fs2.length ≤ 50) :
    Calls Tryz.prog 192 #[.slice (some ⟨w3.heap.size + 1, 0, none⟩) 2 2] ((w3.alloc o).alloc (.cells #[.slice a1 n1 c1, .slice (some ⟨w3.heap.size, 0, none⟩) 1 1] 262)) (SlotsPost M base (fs1 ++ fs2) w2) := by
  obtain ⟨v, l2, D2, e, hl2, hat2, _, hb, hD2, hf2⟩ := hsp.maybe h0
  injection e with e
  subst e
  have hs : (w3.alloc o).heap.size = w3.heap.size + 1 := alloc_size _ _
  rw [← hs]
  exact join_two hm2 hat1 hl1 hD1 hf1 hb hat2 hl2 hD2 hf2 hfs

set_option maxHeartbeats 8000000 in
set_option maxRecDepth 100000 in
theorem consSlots (M : Nat) (base : Bool) (out : List UInt8) (N : Nat) (t m : ByteArray) (u : Int) (k2 : Tr) (rest : List Tr) (a : Option Addr) (c : Nat) (P : List UInt8 → List UInt8 × Nat) (sz : Nat) (Q : List UInt8 → Nat → Prop) (ps : List PartQ) (w : World) (h : Mk M base out w) (hN : N ≤ w.heap.size) (ho : ∀ r, r < N → MkOther M r w)
    (hv : NodeIn w (· < N) (.mk 53 t m u (k2 :: rest)) (nodeU 53 t m u a (rest.length + 1) c))
    (hk : KidWriter M base N rest ps)
    (hw : ∀ v, NodeWrites M base N k2 v P sz) :
    Calls Tryz.prog 127 #[.agg #[.int .i64 53, .string t, .string m, .int .u64 u, .slice a (rest.length + 1) c]] w (SlotsPost M base [kidQ 1 P sz Q, listQ 2 ps] w) := by
  have hcap : rest.length + 1 ≤ c := by
    obtain ⟨a1, c1, he, _, _, _, _, hl, hc, hk⟩ := hv.parts
    unfold nodeU at he
    simp only [Value.agg.injEq, Array.mk.injEq, List.cons.injEq, Value.slice.injEq] at he
    have hc2 : rest.length + 1 ≤ c1 := hc
    rw [he.2.2.2.2.1.2.2]
    exact hc2
  have hli := ListIn.of (t := k2) hv
  obtain ⟨b, o, rfl, hbN, hkid⟩ := hv.kidsAt (by simp)
  obtain ⟨a1, hti, hsl⟩ := tail_slice hli hcap
  have hb0 := (Below.refl w.heap.size w).alloc (Nat.le_refl _) (.cells #[.int .i64 53, .string t, .string m, .int .u64 u, .slice (some ⟨b, o, none⟩) (rest.length + 1) c] 25)
  have hrow0 := heap_alloc_new w (.cells #[.int .i64 53, .string t, .string m, .int .u64 u, .slice (some ⟨b, o, none⟩) (rest.length + 1) c] 25)
  obtain ⟨w0, hw0⟩ : ∃ w0, w0 = w.alloc (.cells #[.int .i64 53, .string t, .string m, .int .u64 u, .slice (some ⟨b, o, none⟩) (rest.length + 1) c] 25) := ⟨_, rfl⟩
  rw [← hw0] at hb0 hrow0
  obtain ⟨a2, c2, hn2, e0, e1, e2, e3, e4⟩ := hkid w0 (Keep.of_below hb0 hN) 0 (by simp)
  simp only [List.getElem_cons_zero, List.getElem_cons_succ, Nat.zero_mul, Nat.add_zero] at hn2 e0 e1 e2 e3 e4
  have HKW := Lib.hid hk
  have HTI := Lib.hid (hti.keep (Keep.of_below hb0 hN))
  have hn2w := hn2
  unfold nodeU at hn2w
  have HSP : Hid (∀ w2 w3, Below w0.heap.size w0.drew w2 → Below w2.heap.size w2 w3 → w2.heap[w0.heap.size]? = some (.cells #[.int .i64 k2.kind, .string k2.text, .string k2.more, .int .u64 k2.num, .slice a2 k2.kids.length c2] 25 (0, 0)) → w3.heap[w2.heap.size]? = some (.cells #[.slice a1 rest.length (c - 1)] 23 (0, 0)) → SlotsPost M base [kidQ 1 P sz Q, listQ 2 ps] w0 (.returned (.slice (some ⟨w3.heap.size, 0, none⟩) 2 2)) (w3.alloc (.cells #[.int .i64 1, .int .i64 4, .int .u64 0, .func (.func 216) #[] #[.pointer (some ⟨w0.heap.size, 0, none⟩)], .int .i64 2, .int .i64 4, .int .u64 0, .func (.func 218) #[] #[.pointer (some ⟨w2.heap.size, 0, none⟩)]] 267))) := Lib.hid fun w2 w3 h1 h2 h3 h4 => pair_slots (i := 1) (j := 2) (w1 := w0.drew) (h.below hb0) (Nat.le_trans hN hb0.size) (fun r hr => (ho r hr).below h.lt hb0) (hw _) hn2 hk (hti.keep (Keep.of_below hb0 hN)) (Below.refl _ w0).drew h1 h2 rfl rfl h3 h4
  have HM0 := Lib.hid (h.below hb0)
  have HO := Lib.hid (fun r hr => (ho r hr).below h.lt hb0)
  have HBX : Hid (∀ (w2 : World) (o : Obj), w2.heap[w0.drew.heap.size]? = some o → w2.heap[w0.heap.size]? = some o) := Lib.hid fun w2 o h => h
  have HD0 : Hid (∀ w2, Below w0.drew.heap.size w0.drew w2 → Below w0.heap.size w0 w2) := Lib.hid fun w2 h => (Below.refl w0.heap.size w0).drew.trans h
  have HD1 : Hid (∀ w2, Below w0.drew.heap.size w0.drew w2 → Below w0.heap.size w0.drew w2) := Lib.hid fun w2 h => h
  have HB0 := Lib.hid hb0
  have hN0 : N ≤ w0.heap.size := Nat.le_trans hN hb0.size
  have hbl : b < w0.heap.size := Nat.lt_of_lt_of_le hbN hN0
  have f4 : w0.cell? ⟨w.heap.size, 4, none⟩ = some (.slice (some ⟨b, o, none⟩) (rest.length + 1) c) := by rw [Lib.cell_of_heap hrow0]; rfl
  have hxl := (Array.getElem?_eq_some_iff.1 hrow0).1
  have HROW := Lib.hid hrow0
  have f0 : w0.cell? ⟨w.heap.size, 0, none⟩ = some (.int .i64 53) := by rw [Lib.cell_of_heap hrow0]; rfl
  clear h ho hv hkid hti hli hn2 hn2w hb0 hrow0 hw hk
  generalize k2.kind = kk2 at *
  generalize k2.text = tt2 at *
  generalize k2.more = mm2 at *
  generalize k2.num = nn2 at *
  generalize k2.kids.length = ll2 at *
  have HW0 := Lib.hid hw0
  go_enter Tryz.func127, Tryz.ntmps127
  go_upto_region 18 with fail
  rw [← HW0.out]
  clear hw0 HW0
  have HS : Hid (∀ w', Below w0.heap.size w0.drew w' → w'.cell? ⟨w.heap.size, 4, none⟩ = some (.slice (some ⟨b, o, none⟩) (rest.length + 1) c) ∧
      (w'.cell? ⟨b, o, none⟩ = some (.int .i64 kk2) ∧ w'.cell? ⟨b, o + 1, none⟩ = some (.string tt2) ∧ w'.cell? ⟨b, o + 2, none⟩ = some (.string mm2) ∧ w'.cell? ⟨b, o + 3, none⟩ = some (.int .u64 nn2) ∧ w'.cell? ⟨b, o + 4, none⟩ = some (.slice a2 ll2 c2))) := Lib.hid fun w' hb => by
    have hc : ∀ r i, r < w0.heap.size → w'.cell? ⟨r, i, none⟩ = w0.cell? ⟨r, i, none⟩ := fun r i hr => hb.cell (p := ⟨r, i, none⟩) hr
    refine ⟨(hc _ _ hxl).trans f4, (hc _ _ hbl).trans e0, (hc _ _ hbl).trans e1, (hc _ _ hbl).trans e2, (hc _ _ hbl).trans e3, (hc _ _ hbl).trans e4⟩
  go_region_held3 (fun w' => w'.cell? ⟨w.heap.size, 4, none⟩ = some (.slice (some ⟨b, o, none⟩) (rest.length + 1) c) ∧
      (w'.cell? ⟨b, o, none⟩ = some (.int .i64 kk2) ∧ w'.cell? ⟨b, o + 1, none⟩ = some (.string tt2) ∧ w'.cell? ⟨b, o + 2, none⟩ = some (.string mm2) ∧ w'.cell? ⟨b, o + 3, none⟩ = some (.int .u64 nn2) ∧ w'.cell? ⟨b, o + 4, none⟩ = some (.slice a2 ll2 c2))) (first | exact HS.out _ (Below.refl _ _) | exact HS.out _ hb2d | exact HS.out _ hb3 | go_keep) (first
    | (go_at_call 190; ((with_reducible refine (nodeAt_any 1 kk2 tt2 mm2 nn2 a2 ll2 c2 _).mono ?_)); rintro e w2 ⟨rfl, hbox, hb2⟩; have hboxd := HBX.out _ _ hbox; have hb20 := HD0.out _ hb2; have hb2d := HD1.out _ hb2)
    | (go_at_call 193; ((with_reducible refine (listAt_any 2 a1 rest.length (c - 1) _).mono ?_)); rintro e w3 ⟨rfl, hbox3, hb23⟩; have hb3 : Below w0.heap.size w0.drew w3 := hb2d.trans (hb23.mono hb20.size))
    | fail "none")
  all_goals
    have HPP := Lib.hid (SlotsPost.from HB0.out (HSP.out _ _ hb2d hb23 hboxd hbox3))
    go_wp2
    go_ret
    exact HPP.out

set_option maxHeartbeats 8000000 in
set_option maxRecDepth 100000 in
theorem exprSlots (M : Nat) (base : Bool) (out : List UInt8) (N : Nat) (t m : ByteArray) (u : Int) (k2 : Tr) (rest : List Tr) (a : Option Addr) (c : Nat) (fs2 : List SlotQ) (hfs : fs2.length ≤ 40) (ps : List PartQ) (w : World) (h : Mk M base out w) (hN : N ≤ w.heap.size) (ho : ∀ r, r < N → MkOther M r w)
    (hv : NodeIn w (· < N) (.mk 44 t m u (k2 :: rest)) (nodeU 44 t m u a (rest.length + 1) c))
    (hk : KidWriter M base N rest ps)
    (hmb2 : ∀ W a' l' c', Below w.heap.size w W → NodeIn W (· < N) k2 (nodeU k2.kind k2.text k2.more k2.num a' l' c') → Calls Tryz.prog 191 #[.int .i64 1, nodeU k2.kind k2.text k2.more k2.num a' l' c'] W (MaybePost M base fs2 W)) :
    Calls Tryz.prog 127 #[.agg #[.int .i64 44, .string t, .string m, .int .u64 u, .slice a (rest.length + 1) c]] w (SlotsPost M base (fs2 ++ [listQ 3 ps]) w) := by
  have hcap : rest.length + 1 ≤ c := by
    obtain ⟨a1, c1, he, _, _, _, _, hl, hc, hk⟩ := hv.parts
    unfold nodeU at he
    simp only [Value.agg.injEq, Array.mk.injEq, List.cons.injEq, Value.slice.injEq] at he
    have hc2 : rest.length + 1 ≤ c1 := hc
    rw [he.2.2.2.2.1.2.2]
    exact hc2
  have hli := ListIn.of (t := k2) hv
  obtain ⟨b, o, rfl, hbN, hkid⟩ := hv.kidsAt (by simp)
  obtain ⟨a1, hti, hsl⟩ := tail_slice hli hcap
  have hb0 := (Below.refl w.heap.size w).alloc (Nat.le_refl _) (.cells #[.int .i64 44, .string t, .string m, .int .u64 u, .slice (some ⟨b, o, none⟩) (rest.length + 1) c] 25)
  have hrow0 := heap_alloc_new w (.cells #[.int .i64 44, .string t, .string m, .int .u64 u, .slice (some ⟨b, o, none⟩) (rest.length + 1) c] 25)
  obtain ⟨w0, hw0⟩ : ∃ w0, w0 = w.alloc (.cells #[.int .i64 44, .string t, .string m, .int .u64 u, .slice (some ⟨b, o, none⟩) (rest.length + 1) c] 25) := ⟨_, rfl⟩
  rw [← hw0] at hb0 hrow0
  obtain ⟨a2, c2, hn2, e0, e1, e2, e3, e4⟩ := hkid w0 (Keep.of_below hb0 hN) 0 (by simp)
  simp only [List.getElem_cons_zero, List.getElem_cons_succ, Nat.zero_mul, Nat.add_zero] at hn2 e0 e1 e2 e3 e4
  have HKW := Lib.hid hk
  have HTI := Lib.hid (hti.keep (Keep.of_below hb0 hN))
  have hMB2 : ∀ W, Below w0.heap.size w0 W → Calls Tryz.prog 191 #[.int .i64 1, nodeU k2.kind k2.text k2.more k2.num a2 k2.kids.length c2] W (MaybePost M base fs2 W) := fun W hb => hmb2 W a2 k2.kids.length c2 (hb0.trans (hb.mono hb0.size)) (hn2.keep (Keep.of_below hb (Nat.le_trans hN hb0.size)))
  unfold nodeU at hMB2
  have HMB2 := Lib.hid hMB2
  have hfs : fs2.length + [listQ 3 ps].length ≤ 50 := by simp; omega
  have H01 : 0 < [listQ 3 ps].length := by simp
  have HSP : Hid (∀ w2 w3, Below w0.heap.size w0 w2 → Below w2.heap.size w2 w3 → w3.heap[w2.heap.size]? = some (.cells #[.slice a1 rest.length (c - 1)] 23 (0, 0)) → SlotsPost M base [listQ 3 ps] w2 (.returned (.slice (some ⟨w3.heap.size, 0, none⟩) 1 1)) (w3.alloc (.cells #[.int .i64 3, .int .i64 4, .int .u64 0, .func (.func 218) #[] #[.pointer (some ⟨w2.heap.size, 0, none⟩)]] 267))) := Lib.hid fun w2 w3 h1 h2 h3 => by
    have hN0 := Nat.le_trans hN hb0.size
    exact list_slots (i := 3) (w1 := w2) ((h.below hb0).below h1) (Nat.le_trans hN0 h1.size) (fun r hr => ((ho r hr).below h.lt hb0).below (h.below hb0).lt h1) hk ((hti.keep (Keep.of_below hb0 hN)).keep (Keep.of_below h1 hN0)) (Below.refl _ _) h2 rfl h3
  have HM0 := Lib.hid (h.below hb0)
  have HO := Lib.hid (fun r hr => (ho r hr).below h.lt hb0)
  have HD0 : Hid (∀ w2, Below w0.drew.heap.size w0.drew w2 → Below w0.heap.size w0 w2) := Lib.hid fun w2 h => (Below.refl w0.heap.size w0).drew.trans h
  have HD1 : Hid (∀ w2, Below w0.drew.heap.size w0.drew w2 → Below w0.heap.size w0.drew w2) := Lib.hid fun w2 h => h
  have HB0 := Lib.hid hb0
  have HD2 : Hid (Below w0.heap.size w0 w0.drew) := Lib.hid (Below.refl w0.heap.size w0).drew
  have hN0 : N ≤ w0.heap.size := Nat.le_trans hN hb0.size
  have hbl : b < w0.heap.size := Nat.lt_of_lt_of_le hbN hN0
  have f4 : w0.cell? ⟨w.heap.size, 4, none⟩ = some (.slice (some ⟨b, o, none⟩) (rest.length + 1) c) := by rw [Lib.cell_of_heap hrow0]; rfl
  have hxl := (Array.getElem?_eq_some_iff.1 hrow0).1
  have HROW := Lib.hid hrow0
  have f0 : w0.cell? ⟨w.heap.size, 0, none⟩ = some (.int .i64 44) := by rw [Lib.cell_of_heap hrow0]; rfl
  clear h ho hv hkid hti hli hn2 hb0 hrow0 hMB2 hmb2 hk
  generalize k2.kind = kk2 at *
  generalize k2.text = tt2 at *
  generalize k2.more = mm2 at *
  generalize k2.num = nn2 at *
  generalize k2.kids.length = ll2 at *
  have HW0 := Lib.hid hw0
  go_enter Tryz.func127, Tryz.ntmps127
  go_upto_region 19 with fail
  rw [← HW0.out]
  clear hw0 HW0
  have HS : Hid (∀ w', Below w0.heap.size w0.drew w' → w'.cell? ⟨w.heap.size, 4, none⟩ = some (.slice (some ⟨b, o, none⟩) (rest.length + 1) c) ∧
      (w'.cell? ⟨b, o, none⟩ = some (.int .i64 kk2) ∧ w'.cell? ⟨b, o + 1, none⟩ = some (.string tt2) ∧ w'.cell? ⟨b, o + 2, none⟩ = some (.string mm2) ∧ w'.cell? ⟨b, o + 3, none⟩ = some (.int .u64 nn2) ∧ w'.cell? ⟨b, o + 4, none⟩ = some (.slice a2 ll2 c2))) := Lib.hid fun w' hb => by
    have hc : ∀ r i, r < w0.heap.size → w'.cell? ⟨r, i, none⟩ = w0.cell? ⟨r, i, none⟩ := fun r i hr => hb.cell (p := ⟨r, i, none⟩) hr
    refine ⟨(hc _ _ hxl).trans f4, (hc _ _ hbl).trans e0, (hc _ _ hbl).trans e1, (hc _ _ hbl).trans e2, (hc _ _ hbl).trans e3, (hc _ _ hbl).trans e4⟩
  go_region_held3 (fun w' => w'.cell? ⟨w.heap.size, 4, none⟩ = some (.slice (some ⟨b, o, none⟩) (rest.length + 1) c) ∧
      (w'.cell? ⟨b, o, none⟩ = some (.int .i64 kk2) ∧ w'.cell? ⟨b, o + 1, none⟩ = some (.string tt2) ∧ w'.cell? ⟨b, o + 2, none⟩ = some (.string mm2) ∧ w'.cell? ⟨b, o + 3, none⟩ = some (.int .u64 nn2) ∧ w'.cell? ⟨b, o + 4, none⟩ = some (.slice a2 ll2 c2))) (first | exact HS.out _ (Below.refl _ _) | exact HS.out _ hb2d | exact HS.out _ hb3 | exact HS.out _ hb6 | go_keep) (first
    | (go_at_call 191; ((with_reducible refine (HMB2.out _ HD2.out).mono ?_)); rintro e w2 ⟨v2, l2, D2, rfl, hl2, hat2, hv2, hb2, hD2, hf2⟩; obtain ⟨a8, n8, c8, rfl⟩ := hat2.slice; have hb20 := HD0.out _ hb2; have hb2d := HD1.out _ hb2)
    | (go_at_call 193; ((with_reducible refine (listAt_any 3 a1 rest.length (c - 1) _).mono ?_)); rintro e w3 ⟨rfl, hbox3, hb23⟩; have hb3 : Below w0.heap.size w0.drew w3 := hb2d.trans (hb23.mono hb20.size))
    | (go_at_call 192; ((with_reducible refine (join_expr (HM0.out.below hb20) hat2 hl2 hD2 hf2 (HSP.out _ _ hb20 hb23 hbox3) H01 hfs).mono ?_)); rintro e w6 ⟨v, l, D, rfl, hp⟩; have hb6 : Below w0.heap.size w0.drew w6 := hb2d.trans ((hp.2.2.1).mono hb20.size))
    | fail "none")
  all_goals
    have HPP := Lib.hid (SlotsPost.from (HB0.out.trans (hb20.mono HB0.out.size)) ⟨v, l, D, rfl, hp⟩)
    go_wp2
    go_ret
    exact HPP.out

end Go.Proofs.YtgceklahjdbipaaGreatDoor
