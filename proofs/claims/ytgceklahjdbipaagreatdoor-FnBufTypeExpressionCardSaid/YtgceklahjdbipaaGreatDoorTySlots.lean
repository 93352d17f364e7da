/- The maker's slots of a property's type. The maker's slots of an array's type. The maker's slots of a parameter's type. The maker's slots of a dictionary's type. -/
import Derived.Test.YtgceklahjdbipaaGreatDoorEither
namespace Go.Proofs.YtgceklahjdbipaaGreatDoor
open Go Go.RowKit
set_option linter.unusedVariables false
set_option linter.unusedSimpArgs false

theorem join_prop {M : Nat} {base : Bool} {out : List UInt8} {a1 a2 : Option Addr} {n1 c1 n2 c2 : Nat} {l2 : List (SlotQ × Value)} {D2 : Nat → Prop} {fs1 fs2 : List SlotQ} {w0 w2 w3 : World}
    (hm2 : Mk M base out w2) (hsp : SlotsPost M base fs1 w0 (.returned (.slice a1 n1 c1)) w2) (h0 : 0 < fs1.length)
    (hb23 : Below w2.heap.size w2 w3) (hat2 : ListAt w3 (.slice a2 n2 c2) l2) (hl2 : l2.map Prod.fst = fs2) (hD2 : ∀ r, D2 r → r < w3.heap.size ∧ MkOther M r w3) (hf2 : ∀ p ∈ l2, FnD M base D2 w3 p.2 p.1.s p.1.sz) (hfs : fs1.length + fs2.length ≤ 50) :
    Calls Tryz.prog 192 #[.slice (some ⟨w3.heap.size, 0, none⟩) 2 2] (w3.alloc (.cells #[.slice a1 n1 c1, .slice a2 n2 c2] 262)) (SlotsPost M base (fs1 ++ fs2) w2) := by
  obtain ⟨v, l1, D1, e, hl1, hat1, _, _, hD1, hf1⟩ := hsp.maybe h0
  injection e with e
  subst e
  exact join_two hm2 hat1 hl1 hD1 hf1 hb23 hat2 hl2 hD2 hf2 hfs

theorem join_propA {M : Nat} {base : Bool} {out : List UInt8} {a2 : Option Addr} {n2 c2 : Nat} {l2 : List (SlotQ × Value)} {D2 : Nat → Prop} {fs1 fs2 : List SlotQ} {w0 w3 : World} {o : Obj}
    (hm3 : Mk M base out w3) (hsp : SlotsPost M base fs1 w0 (.returned (.slice (some ⟨w3.heap.size, 0, none⟩) 1 1)) (w3.alloc o)) (h0 : 0 < fs1.length)
    (hat2 : ListAt w3 (.slice a2 n2 c2) l2) (hl2 : l2.map Prod.fst = fs2) (hD2 : ∀ r, D2 r → r < w3.heap.size ∧ MkOther M r w3) (hf2 : ∀ p ∈ l2, FnD M base D2 w3 p.2 p.1.s p.1.sz) (hfs : fs1.length + fs2.length ≤ 50) :
    Calls Tryz.prog 192 #[.slice (some ⟨w3.heap.size + 1, 0, none⟩) 2 2] ((w3.alloc o).alloc (.cells #[.slice (some ⟨w3.heap.size, 0, none⟩) 1 1, .slice a2 n2 c2] 262)) (SlotsPost M base (fs1 ++ fs2) (w3.alloc o)) := by
  have hb := (Below.refl w3.heap.size w3).alloc (Nat.le_refl _) o
  have hs : (w3.alloc o).heap.size = w3.heap.size + 1 := alloc_size _ _
  rw [← hs]
  exact join_prop (hm3.below hb) hsp h0 (Below.refl _ _) (hat2.below hb) hl2 (fun r hr => ⟨Nat.lt_of_lt_of_le (hD2 r hr).1 hb.size, (hD2 r hr).2.below hm3.lt hb⟩) (fun p hp => FnD.below (hf2 p hp) (fun r hr => (hD2 r hr).1) hb) hfs

theorem below_alloc {w w' : World} (h : Below w.heap.size w w') (o : Obj) : Below w.heap.size w (w'.alloc o) := h.alloc h.size o
theorem below_alloc' {w v w' : World} (h0 : Below w.heap.size w w') (h : Below w.heap.size v w') (o : Obj) : Below w.heap.size v (w'.alloc o) := h.alloc h0.size o

set_option maxHeartbeats 8000000 in
set_option maxRecDepth 100000 in
theorem propSlots (M : Nat) (base : Bool) (out : List UInt8) (N : Nat) (t m : ByteArray) (u : Int) (k1 k2 : Tr) (a : Option Addr) (c : Nat) (fs2 : List SlotQ) (hfs : fs2.length ≤ 40) (P : List UInt8 → List UInt8 × Nat) (sz : Nat) (Q : List UInt8 → Nat → Prop) (w : World) (h : Mk M base out w) (hN : N ≤ w.heap.size) (ho : ∀ r, r < N → MkOther M r w)
    (hv : NodeIn w (· < N) (.mk 50 t m u [k1, k2]) (nodeU 50 t m u a 2 c))
    (hw : ∀ v, NodeWrites M base N k1 v P sz)
    (hmb2 : ∀ W a' l' c', Below w.heap.size w W → NodeIn W (· < N) k2 (nodeU k2.kind k2.text k2.more k2.num a' l' c') → Calls Tryz.prog 191 #[.int .i64 2, nodeU k2.kind k2.text k2.more k2.num a' l' c'] W (MaybePost M base fs2 W)) :
    Calls Tryz.prog 127 #[.agg #[.int .i64 50, .string t, .string m, .int .u64 u, .slice a 2 c]] w (SlotsPost M base ([kidQ 1 P sz Q] ++ fs2) w) := by
  obtain ⟨b, o, rfl, hbN, hkid⟩ := hv.kidsAt (by simp)
  have hb0 := (Below.refl w.heap.size w).alloc (Nat.le_refl _) (.cells #[.int .i64 50, .string t, .string m, .int .u64 u, .slice (some ⟨b, o, none⟩) 2 c] 25)
  have hrow0 := heap_alloc_new w (.cells #[.int .i64 50, .string t, .string m, .int .u64 u, .slice (some ⟨b, o, none⟩) 2 c] 25)
  obtain ⟨w0, hw0⟩ : ∃ w0, w0 = w.alloc (.cells #[.int .i64 50, .string t, .string m, .int .u64 u, .slice (some ⟨b, o, none⟩) 2 c] 25) := ⟨_, rfl⟩
  rw [← hw0] at hb0 hrow0
  obtain ⟨a1, c1, hn1, d0, d1, d2, d3, d4⟩ := hkid w0 (Keep.of_below hb0 hN) 0 (by simp)
  obtain ⟨a2, c2, hn2, e0, e1, e2, e3, e4⟩ := hkid w0 (Keep.of_below hb0 hN) 1 (by simp)
  simp only [List.getElem_cons_zero, List.getElem_cons_succ, Nat.zero_mul, Nat.add_zero, Nat.one_mul] at hn1 d0 d1 d2 d3 d4 hn2 e0 e1 e2 e3 e4
  have HW := Lib.hid (hw (nodeU k1.kind k1.text k1.more k1.num a1 k1.kids.length c1))
  have HN1 := Lib.hid hn1
  have hMB2 : ∀ W, Below w0.heap.size w0 W → Calls Tryz.prog 191 #[.int .i64 2, nodeU k2.kind k2.text k2.more k2.num a2 k2.kids.length c2] W (MaybePost M base fs2 W) := fun W hb => hmb2 W a2 k2.kids.length c2 (hb0.trans (hb.mono hb0.size)) (hn2.keep (Keep.of_below hb (Nat.le_trans hN hb0.size)))
  unfold nodeU at hMB2
  have HMB2 := Lib.hid hMB2
  have hfs : [kidQ 1 P sz Q].length + fs2.length ≤ 50 := by simp; omega
  have H01 : 0 < [kidQ 1 P sz Q].length := by simp
  have HSP : Hid (∀ w2, Below w0.heap.size w0.drew w2 → w2.heap[w0.heap.size]? = some (.cells #[.int .i64 k1.kind, .string k1.text, .string k1.more, .int .u64 k1.num, .slice a1 k1.kids.length c1] 25 (0, 0)) → SlotsPost M base [kidQ 1 P sz Q] w0 (.returned (.slice (some ⟨w2.heap.size, 0, none⟩) 1 1)) (w2.alloc (.cells #[.int .i64 1, .int .i64 4, .int .u64 0, .func (.func 216) #[] #[.pointer (some ⟨w0.heap.size, 0, none⟩)]] 267))) := Lib.hid fun w2 h1 h2 => kid_slots (i := 1) (w1 := w0.drew) (h.below hb0) (Nat.le_trans hN hb0.size) (fun r hr => (ho r hr).below h.lt hb0) (hw (nodeU k1.kind k1.text k1.more k1.num a1 k1.kids.length c1)) hn1 (Below.refl _ w0).drew h1 rfl h2
  have HM0 := Lib.hid (h.below hb0)
  have HO := Lib.hid (fun r hr => (ho r hr).below h.lt hb0)
  have HB3 : Hid (∀ (w2 w3 : World) (o : Obj), Below w0.heap.size w0.drew w2 → Below (w2.alloc o).heap.size (w2.alloc o) w3 → Below w0.heap.size w0.drew w3) := Lib.hid fun w2 w3 o h1 h2 => (h1.alloc h1.size o).trans (h2.mono (h1.alloc h1.size o).size)
  have HBY : Hid (∀ (w2 w3 : World) (o : Obj), Below w2.heap.size w2 w3 → Below w0.heap.size w0 w2 → w2.heap[w0.heap.size]? = some o → w3.heap[w0.heap.size]? = some o) := Lib.hid fun w2 w3 o h1 _ h => (h1.block _ (Array.getElem?_eq_some_iff.1 h).1).trans h
  have HBX : Hid (∀ (w2 : World) (o : Obj), w2.heap[w0.drew.heap.size]? = some o → w2.heap[w0.heap.size]? = some o) := Lib.hid fun w2 o h => h
  have HD0 : Hid (∀ w2, Below w0.drew.heap.size w0.drew w2 → Below w0.heap.size w0 w2) := Lib.hid fun w2 h => (Below.refl w0.heap.size w0).drew.trans h
  have HD1 : Hid (∀ w2, Below w0.drew.heap.size w0.drew w2 → Below w0.heap.size w0.drew w2) := Lib.hid fun w2 h => h
  have HB0 := Lib.hid hb0
  have hN0 : N ≤ w0.heap.size := Nat.le_trans hN hb0.size
  have hbl : b < w0.heap.size := Nat.lt_of_lt_of_le hbN hN0
  have f4 : w0.cell? ⟨w.heap.size, 4, none⟩ = some (.slice (some ⟨b, o, none⟩) 2 c) := by rw [Lib.cell_of_heap hrow0]; rfl
  have hxl := (Array.getElem?_eq_some_iff.1 hrow0).1
  have HROW := Lib.hid hrow0
  have f0 : w0.cell? ⟨w.heap.size, 0, none⟩ = some (.int .i64 50) := by rw [Lib.cell_of_heap hrow0]; rfl
  clear h ho hv hkid hn1 hn2 hb0 hrow0 hMB2 hmb2 hw
  generalize k1.kind = kk at *
  generalize k1.text = tt at *
  generalize k1.more = mm at *
  generalize k1.num = nn at *
  generalize k1.kids.length = ll at *
  generalize k2.kind = kk2 at *
  generalize k2.text = tt2 at *
  generalize k2.more = mm2 at *
  generalize k2.num = nn2 at *
  generalize k2.kids.length = ll2 at *
  have HW0 := Lib.hid hw0
  go_enter Tryz.func127, Tryz.ntmps127
  go_upto_region 12 with fail
  rw [← HW0.out]
  clear hw0 HW0
  have HS : Hid (∀ w', Below w0.heap.size w0.drew w' → w'.cell? ⟨w.heap.size, 4, none⟩ = some (.slice (some ⟨b, o, none⟩) 2 c) ∧ (w'.cell? ⟨b, o, none⟩ = some (.int .i64 kk) ∧ w'.cell? ⟨b, o + 1, none⟩ = some (.string tt) ∧ w'.cell? ⟨b, o + 2, none⟩ = some (.string mm) ∧ w'.cell? ⟨b, o + 3, none⟩ = some (.int .u64 nn) ∧ w'.cell? ⟨b, o + 4, none⟩ = some (.slice a1 ll c1)) ∧
      (w'.cell? ⟨b, o + 5, none⟩ = some (.int .i64 kk2) ∧ w'.cell? ⟨b, o + 5 + 1, none⟩ = some (.string tt2) ∧ w'.cell? ⟨b, o + 5 + 2, none⟩ = some (.string mm2) ∧ w'.cell? ⟨b, o + 5 + 3, none⟩ = some (.int .u64 nn2) ∧ w'.cell? ⟨b, o + 5 + 4, none⟩ = some (.slice a2 ll2 c2))) := Lib.hid fun w' hb => by
    have hc : ∀ r i, r < w0.heap.size → w'.cell? ⟨r, i, none⟩ = w0.cell? ⟨r, i, none⟩ := fun r i hr => hb.cell (p := ⟨r, i, none⟩) hr
    refine ⟨(hc _ _ hxl).trans f4, ⟨(hc _ _ hbl).trans d0, (hc _ _ hbl).trans d1, (hc _ _ hbl).trans d2, (hc _ _ hbl).trans d3, (hc _ _ hbl).trans d4⟩, (hc _ _ hbl).trans e0, (hc _ _ hbl).trans e1, (hc _ _ hbl).trans e2, (hc _ _ hbl).trans e3, (hc _ _ hbl).trans e4⟩
  go_region_held3 (fun w' => w'.cell? ⟨w.heap.size, 4, none⟩ = some (.slice (some ⟨b, o, none⟩) 2 c) ∧ (w'.cell? ⟨b, o, none⟩ = some (.int .i64 kk) ∧ w'.cell? ⟨b, o + 1, none⟩ = some (.string tt) ∧ w'.cell? ⟨b, o + 2, none⟩ = some (.string mm) ∧ w'.cell? ⟨b, o + 3, none⟩ = some (.int .u64 nn) ∧ w'.cell? ⟨b, o + 4, none⟩ = some (.slice a1 ll c1)) ∧
      (w'.cell? ⟨b, o + 5, none⟩ = some (.int .i64 kk2) ∧ w'.cell? ⟨b, o + 5 + 1, none⟩ = some (.string tt2) ∧ w'.cell? ⟨b, o + 5 + 2, none⟩ = some (.string mm2) ∧ w'.cell? ⟨b, o + 5 + 3, none⟩ = some (.int .u64 nn2) ∧ w'.cell? ⟨b, o + 5 + 4, none⟩ = some (.slice a2 ll2 c2))) (first | exact HS.out _ (Below.refl _ _) | exact HS.out _ hb2d | exact HS.out _ hb3 | exact HS.out _ hb6 | go_keep) (first
    | (go_at_call 190; ((with_reducible refine (nodeAt_any 1 kk tt mm nn a1 ll c1 _).mono ?_)); rintro e w2 ⟨rfl, hbox, hb2⟩; have hboxd := HBX.out _ _ hbox; have hb20 := HD0.out _ hb2; have hb2d := HD1.out _ hb2)
    | (go_at_call 191; ((with_reducible refine (HMB2.out _ (below_alloc hb20 _)).mono ?_)); rintro e w3 ⟨v2, l2, D2, rfl, hl2, hat2, hv2, hb23, hD2, hf2⟩; obtain ⟨a8, n8, c8, rfl⟩ := hat2.slice; have hb3 := HB3.out _ _ _ hb2d hb23)
    | (go_at_call 191; ((with_reducible refine (HMB2.out _ hb20).mono ?_)); rintro e w3 ⟨v2, l2, D2, rfl, hl2, hat2, hv2, hb23, hD2, hf2⟩; obtain ⟨a8, n8, c8, rfl⟩ := hat2.slice; have hb3 : Below w0.heap.size w0.drew w3 := hb2d.trans (hb23.mono hb20.size); have hb30 := HD0.out _ hb3; have hbox3 := HBY.out _ _ _ hb23 hb20 hboxd)
    | (go_at_call 192; ((with_reducible refine (join_prop ((HM0.out.below hb20).below (below_alloc (Below.refl _ _) _)) (HSP.out _ hb2d hboxd) H01 hb23 hat2 hl2 hD2 hf2 hfs).mono ?_)); rintro e w6 ⟨v, l, D, rfl, hp⟩; have hb6 := HB3.out _ _ _ hb2d hp.2.2.1)
    | (go_at_call 192; ((with_reducible refine (join_propA (HM0.out.below hb30) (HSP.out _ hb3 hbox3) H01 hat2 hl2 hD2 hf2 hfs).mono ?_)); rintro e w6 ⟨v, l, D, rfl, hp⟩; have hb6 := HB3.out _ _ _ hb3 hp.2.2.1)
    | fail "none")
  all_goals
    have HPP := Lib.hid (show SlotsPost M base ([kidQ 1 P sz Q] ++ fs2) w (.returned v) w6 from by
      first
        | exact SlotsPost.from (Below.trans HB0.out (Below.mono (below_alloc hb30 _) HB0.out.size)) ⟨v, l, D, rfl, hp⟩
        | exact SlotsPost.from (Below.trans HB0.out (Below.mono (below_alloc hb20 _) HB0.out.size)) ⟨v, l, D, rfl, hp⟩)
    go_wp2
    go_ret
    exact HPP.out

theorem MaybePost.from {M : Nat} {base : Bool} {fs : List SlotQ} {w W : World} {e : Ending} {w' : World} (hb : Below w.heap.size w W) (h : MaybePost M base fs W e w') : MaybePost M base fs w e w' := by
  obtain ⟨v, l, D, h1, h2, h3, h4, h5, h6, h7⟩ := h
  exact ⟨v, l, D, h1, h2, h3, fun k hk => Nat.le_trans hb.size (h4 k hk), hb.trans (h5.mono hb.size), h6, h7⟩

set_option maxHeartbeats 4000000 in
set_option maxRecDepth 100000 in
theorem arraySlots (M : Nat) (base : Bool) (N : Nat) (t m : ByteArray) (u : Int) (kid : Tr) (a : Option Addr) (c : Nat) (fs : List SlotQ) (w : World) (hN : N ≤ w.heap.size)
    (hv : NodeIn w (· < N) (.mk 47 t m u [kid]) (nodeU 47 t m u a 1 c))
    (hmb : ∀ W a' l' c', Below w.heap.size w W → NodeIn W (· < N) kid (nodeU kid.kind kid.text kid.more kid.num a' l' c') → Calls Tryz.prog 191 #[.int .i64 1, nodeU kid.kind kid.text kid.more kid.num a' l' c'] W (MaybePost M base fs W)) :
    Calls Tryz.prog 127 #[.agg #[.int .i64 47, .string t, .string m, .int .u64 u, .slice a 1 c]] w (MaybePost M base fs w) := by
  obtain ⟨b, o, rfl, hbN, hkid⟩ := hv.kidsAt (by simp)
  have hb0 := (Below.refl w.heap.size w).alloc (Nat.le_refl _) (.cells #[.int .i64 47, .string t, .string m, .int .u64 u, .slice (some ⟨b, o, none⟩) 1 c] 25)
  obtain ⟨a', c', hn0, d0, d1, d2, d3, d4⟩ := hkid _ (Keep.of_below hb0 hN) 0 (by simp)
  simp only [List.getElem_cons_zero, Nat.zero_mul, Nat.add_zero] at hn0 d0 d1 d2 d3 d4
  have hM := hmb _ a' kid.kids.length c' hb0 hn0
  unfold nodeU at hM
  have HM := Lib.hid hM
  have HB0 := Lib.hid hb0
  clear hv hkid hn0 hb0 hM hmb
  generalize kid.kind = kk at *
  generalize kid.text = tt at *
  generalize kid.more = mm at *
  generalize kid.num = nn at *
  generalize kid.kids.length = ll at *
  go_enter Tryz.func127, Tryz.ntmps127
  go_wp2_with (go_at_call 191; with_reducible refine HM.out.mono ?_)
  rintro e w2 ⟨v, l, D, rfl, hp⟩
  have HP := Lib.hid (MaybePost.from HB0.out ⟨v, l, D, rfl, hp⟩)
  clear hp
  go_wp2
  go_ret
  exact HP.out

theorem join_param {M u : Nat} {base : Bool} {out : List UInt8} {a1 a2 : Option Addr} {n1 c1 n2 c2 : Nat} {l1 l2 : List (SlotQ × Value)} {D1 D2 : Nat → Prop} {fs1 fs2 : List SlotQ} {w2 w3 w4 : World}
    (hm2 : Mk M base out w2) (hat1 : ListAt w2 (.slice a1 n1 c1) l1) (hl1 : l1.map Prod.fst = fs1) (hD1 : ∀ r, D1 r → r < w2.heap.size ∧ MkOther M r w2) (hf1 : ∀ p ∈ l1, FnD M base D1 w2 p.2 p.1.s p.1.sz)
    (hb23 : Below w2.heap.size w2 w3) (hat2 : ListAt w3 (.slice a2 n2 c2) l2) (hl2 : l2.map Prod.fst = fs2) (hD2 : ∀ r, D2 r → r < w3.heap.size ∧ MkOther M r w3) (hf2 : ∀ p ∈ l2, FnD M base D2 w3 p.2 p.1.s p.1.sz) (hb34 : Below w3.heap.size w3 w4) (hfs : fs1.length + fs2.length ≤ 40) :
    Calls Tryz.prog 192 #[.slice (some ⟨w4.heap.size + 1, 0, none⟩) 3 3] ((w4.alloc (.cells #[.int .i64 4, .int .i64 1, .int .u64 u, .nilFunc] 267)).alloc (.cells #[.slice a1 n1 c1, .slice a2 n2 c2, .slice (some ⟨w4.heap.size, 0, none⟩) 1 1] 262)) (SlotsPost M base (fs1 ++ fs2 ++ [numQ 4 1 u]) w2) := by
  have hb35 := hb34.alloc hb34.size (.cells #[.int .i64 4, .int .i64 1, .int .u64 u, .nilFunc] 267)
  have hr5 := heap_alloc_new w4 (.cells #[.int .i64 4, .int .i64 1, .int .u64 u, .nilFunc] 267)
  have hs : (w4.alloc (.cells #[.int .i64 4, .int .i64 1, .int .u64 u, .nilFunc] 267)).heap.size = w4.heap.size + 1 := alloc_size _ _
  rw [← hs]
  have hM3 := (hm2.below hb23).lt
  refine join_three (l4 := [(numQ 4 1 u, .nilFunc)]) (D4 := fun _ => False) hm2 hat1 hl1 hD1 hf1 (hb23.trans (hb35.mono hb23.size)) (hat2.below hb35) hl2 (fun r hr => ⟨Nat.lt_of_lt_of_le (hD2 r hr).1 hb35.size, (hD2 r hr).2.below hM3 hb35⟩) (fun p hp => FnD.below (hf2 p hp) (fun r hr => (hD2 r hr).1) hb35) (.inr ⟨w4.heap.size, 1, rfl, by simp, fun j x hx => ?_⟩) rfl (fun r hr => hr.elim) (fun p hp => ?_) (by simp; omega)
  · rw [show (⟨w4.heap.size, 0, none⟩ : Addr).add j = ⟨w4.heap.size, j, none⟩ by unfold Addr.add; split <;> simp_all, Lib.cell_of_heap hr5]
    simpa [slotCells, numQ] using hx
  · rw [List.mem_singleton] at hp
    rw [hp]
    exact fun W _ => num_fnOk 4 1 u

set_option maxHeartbeats 8000000 in
set_option maxRecDepth 100000 in
theorem paramSlots (M : Nat) (base : Bool) (out : List UInt8) (N : Nat) (t m : ByteArray) (u : Nat) (k1 k2 : Tr) (a : Option Addr) (c : Nat) (fs1 fs2 : List SlotQ) (hfs : fs1.length + fs2.length ≤ 40) (w : World) (h : Mk M base out w) (hN : N ≤ w.heap.size) (ho : ∀ r, r < N → MkOther M r w)
    (hv : NodeIn w (· < N) (.mk 52 t m u [k1, k2]) (nodeU 52 t m u a 2 c))
    (hmb : ∀ W a' l' c', Below w.heap.size w W → NodeIn W (· < N) k1 (nodeU k1.kind k1.text k1.more k1.num a' l' c') → Calls Tryz.prog 194 #[.int .i64 1, nodeU k1.kind k1.text k1.more k1.num a' l' c'] W (MaybePost M base fs1 W))
    (hmb2 : ∀ W a' l' c', Below w.heap.size w W → NodeIn W (· < N) k2 (nodeU k2.kind k2.text k2.more k2.num a' l' c') → Calls Tryz.prog 191 #[.int .i64 2, nodeU k2.kind k2.text k2.more k2.num a' l' c'] W (MaybePost M base fs2 W)) :
    Calls Tryz.prog 127 #[.agg #[.int .i64 52, .string t, .string m, .int .u64 u, .slice a 2 c]] w (SlotsPost M base (fs1 ++ fs2 ++ [numQ 4 1 u]) w) := by
  obtain ⟨b, o, rfl, hbN, hkid⟩ := hv.kidsAt (by simp)
  have hb0 := (Below.refl w.heap.size w).alloc (Nat.le_refl _) (.cells #[.int .i64 52, .string t, .string m, .int .u64 u, .slice (some ⟨b, o, none⟩) 2 c] 25)
  have hrow0 := heap_alloc_new w (.cells #[.int .i64 52, .string t, .string m, .int .u64 u, .slice (some ⟨b, o, none⟩) 2 c] 25)
  obtain ⟨w0, hw0⟩ : ∃ w0, w0 = w.alloc (.cells #[.int .i64 52, .string t, .string m, .int .u64 u, .slice (some ⟨b, o, none⟩) 2 c] 25) := ⟨_, rfl⟩
  rw [← hw0] at hb0 hrow0
  obtain ⟨a1, c1, hn1, d0, d1, d2, d3, d4⟩ := hkid w0 (Keep.of_below hb0 hN) 0 (by simp)
  obtain ⟨a2, c2, hn2, e0, e1, e2, e3, e4⟩ := hkid w0 (Keep.of_below hb0 hN) 1 (by simp)
  simp only [List.getElem_cons_zero, List.getElem_cons_succ, Nat.zero_mul, Nat.add_zero, Nat.one_mul] at hn1 d0 d1 d2 d3 d4 hn2 e0 e1 e2 e3 e4
  have hMB := hmb w0.drew a1 k1.kids.length c1 hb0.drew (NodeIn.keep (w := w0) (w' := w0.drew) (B := (· < N)) (fun _ _ => rfl) hn1)
  unfold nodeU at hMB
  have HMB := Lib.hid hMB
  have hMB2 : ∀ W, Below w0.heap.size w0 W → Calls Tryz.prog 191 #[.int .i64 2, nodeU k2.kind k2.text k2.more k2.num a2 k2.kids.length c2] W (MaybePost M base fs2 W) := fun W hb => hmb2 W a2 k2.kids.length c2 (hb0.trans (hb.mono hb0.size)) (hn2.keep (Keep.of_below hb (Nat.le_trans hN hb0.size)))
  unfold nodeU at hMB2
  have HMB2 := Lib.hid hMB2
  have HM0 := Lib.hid (h.below hb0)
  have HO := Lib.hid (fun r hr => (ho r hr).below h.lt hb0)
  have HD0 : Hid (∀ w2, Below w0.drew.heap.size w0.drew w2 → Below w0.heap.size w0 w2) := Lib.hid fun w2 h => (Below.refl w0.heap.size w0).drew.trans h
  have HD1 : Hid (∀ w2, Below w0.drew.heap.size w0.drew w2 → Below w0.heap.size w0.drew w2) := Lib.hid fun w2 h => h
  have HB0 := Lib.hid hb0
  have hN0 : N ≤ w0.heap.size := Nat.le_trans hN hb0.size
  have hbl : b < w0.heap.size := Nat.lt_of_lt_of_le hbN hN0
  have f4 : w0.cell? ⟨w.heap.size, 4, none⟩ = some (.slice (some ⟨b, o, none⟩) 2 c) := by rw [Lib.cell_of_heap hrow0]; rfl
  have f3 : w0.cell? ⟨w.heap.size, 3, none⟩ = some (.int .u64 u) := by rw [Lib.cell_of_heap hrow0]; rfl
  have hxl := (Array.getElem?_eq_some_iff.1 hrow0).1
  have HROW := Lib.hid hrow0
  have f0 : w0.cell? ⟨w.heap.size, 0, none⟩ = some (.int .i64 52) := by rw [Lib.cell_of_heap hrow0]; rfl
  clear h ho hv hkid hn1 hn2 hb0 hrow0 hMB hmb hMB2 hmb2
  generalize k1.kind = kk at *
  generalize k1.text = tt at *
  generalize k1.more = mm at *
  generalize k1.num = nn at *
  generalize k1.kids.length = ll at *
  generalize k2.kind = kk2 at *
  generalize k2.text = tt2 at *
  generalize k2.more = mm2 at *
  generalize k2.num = nn2 at *
  generalize k2.kids.length = ll2 at *
  have HW0 := Lib.hid hw0
  go_enter Tryz.func127, Tryz.ntmps127
  go_upto_region 16 with fail
  rw [← HW0.out]
  clear hw0 HW0
  have HS : Hid (∀ w', Below w0.heap.size w0.drew w' → w'.cell? ⟨w.heap.size, 3, none⟩ = some (.int .u64 u) ∧ w'.cell? ⟨w.heap.size, 4, none⟩ = some (.slice (some ⟨b, o, none⟩) 2 c) ∧ (w'.cell? ⟨b, o, none⟩ = some (.int .i64 kk) ∧ w'.cell? ⟨b, o + 1, none⟩ = some (.string tt) ∧ w'.cell? ⟨b, o + 2, none⟩ = some (.string mm) ∧ w'.cell? ⟨b, o + 3, none⟩ = some (.int .u64 nn) ∧ w'.cell? ⟨b, o + 4, none⟩ = some (.slice a1 ll c1)) ∧
      (w'.cell? ⟨b, o + 5, none⟩ = some (.int .i64 kk2) ∧ w'.cell? ⟨b, o + 5 + 1, none⟩ = some (.string tt2) ∧ w'.cell? ⟨b, o + 5 + 2, none⟩ = some (.string mm2) ∧ w'.cell? ⟨b, o + 5 + 3, none⟩ = some (.int .u64 nn2) ∧ w'.cell? ⟨b, o + 5 + 4, none⟩ = some (.slice a2 ll2 c2))) := Lib.hid fun w' hb => by
    have hc : ∀ r i, r < w0.heap.size → w'.cell? ⟨r, i, none⟩ = w0.cell? ⟨r, i, none⟩ := fun r i hr => hb.cell (p := ⟨r, i, none⟩) hr
    refine ⟨(hc _ _ hxl).trans f3, (hc _ _ hxl).trans f4, ⟨(hc _ _ hbl).trans d0, (hc _ _ hbl).trans d1, (hc _ _ hbl).trans d2, (hc _ _ hbl).trans d3, (hc _ _ hbl).trans d4⟩, (hc _ _ hbl).trans e0, (hc _ _ hbl).trans e1, (hc _ _ hbl).trans e2, (hc _ _ hbl).trans e3, (hc _ _ hbl).trans e4⟩
  go_region_held3 (fun w' => w'.cell? ⟨w.heap.size, 3, none⟩ = some (.int .u64 u) ∧ w'.cell? ⟨w.heap.size, 4, none⟩ = some (.slice (some ⟨b, o, none⟩) 2 c) ∧ (w'.cell? ⟨b, o, none⟩ = some (.int .i64 kk) ∧ w'.cell? ⟨b, o + 1, none⟩ = some (.string tt) ∧ w'.cell? ⟨b, o + 2, none⟩ = some (.string mm) ∧ w'.cell? ⟨b, o + 3, none⟩ = some (.int .u64 nn) ∧ w'.cell? ⟨b, o + 4, none⟩ = some (.slice a1 ll c1)) ∧
      (w'.cell? ⟨b, o + 5, none⟩ = some (.int .i64 kk2) ∧ w'.cell? ⟨b, o + 5 + 1, none⟩ = some (.string tt2) ∧ w'.cell? ⟨b, o + 5 + 2, none⟩ = some (.string mm2) ∧ w'.cell? ⟨b, o + 5 + 3, none⟩ = some (.int .u64 nn2) ∧ w'.cell? ⟨b, o + 5 + 4, none⟩ = some (.slice a2 ll2 c2))) (first | exact HS.out _ (Below.refl _ _) | exact HS.out _ hb2d | exact HS.out _ hb3 | exact HS.out _ hb4 | exact HS.out _ hb6 | go_keep) (first
    | (go_at_call 194; ((with_reducible refine HMB.out.mono ?_)); rintro e w2 ⟨v1, l1, D1, rfl, hl1, hat1, hv1, hb2, hD1, hf1⟩; obtain ⟨a9, n9, c9, rfl⟩ := hat1.slice; have hb20 := HD0.out _ hb2; have hb2d := HD1.out _ hb2)
    | (go_at_call 191; ((with_reducible refine (HMB2.out _ hb20).mono ?_)); rintro e w3 ⟨v2, l2, D2, rfl, hl2, hat2, hv2, hb23, hD2, hf2⟩; obtain ⟨a8, n8, c8, rfl⟩ := hat2.slice; have hb3 : Below w0.heap.size w0.drew w3 := hb2d.trans (hb23.mono hb20.size))
    | (go_at_call 132; ((with_reducible refine (number_any _ _ _ _).mono ?_)); rintro e w4 ⟨rfl, hb34⟩; have hb4 : Below w0.heap.size w0.drew w4 := hb3.trans (hb34.mono hb3.size))
    | (go_at_call 192; ((with_reducible refine (join_param (HM0.out.below hb20) hat1 hl1 hD1 hf1 hb23 hat2 hl2 hD2 hf2 hb34 hfs).mono ?_)); rintro e w6 ⟨v, l, D, rfl, hp⟩; have hb6 : Below w0.heap.size w0.drew w6 := hb2d.trans ((hp.2.2.1).mono hb20.size))
    | fail "none")
  all_goals
    have HPP := Lib.hid (SlotsPost.from (HB0.out.trans (hb20.mono HB0.out.size)) ⟨v, l, D, rfl, hp⟩)
    go_wp2
    go_ret
    exact HPP.out

set_option maxHeartbeats 8000000 in
set_option maxRecDepth 100000 in
theorem dictSlots (M : Nat) (base : Bool) (out : List UInt8) (N : Nat) (t m : ByteArray) (u : Int) (k1 k2 : Tr) (a : Option Addr) (c : Nat) (fs1 fs2 : List SlotQ) (hfs : fs1.length + fs2.length ≤ 50) (w : World) (h : Mk M base out w) (hN : N ≤ w.heap.size) (ho : ∀ r, r < N → MkOther M r w)
    (hv : NodeIn w (· < N) (.mk 48 t m u [k1, k2]) (nodeU 48 t m u a 2 c))
    (hmb : ∀ W a' l' c', Below w.heap.size w W → NodeIn W (· < N) k1 (nodeU k1.kind k1.text k1.more k1.num a' l' c') → Calls Tryz.prog 191 #[.int .i64 1, nodeU k1.kind k1.text k1.more k1.num a' l' c'] W (MaybePost M base fs1 W))
    (hmb2 : ∀ W a' l' c', Below w.heap.size w W → NodeIn W (· < N) k2 (nodeU k2.kind k2.text k2.more k2.num a' l' c') → Calls Tryz.prog 191 #[.int .i64 3, nodeU k2.kind k2.text k2.more k2.num a' l' c'] W (MaybePost M base fs2 W)) :
    Calls Tryz.prog 127 #[.agg #[.int .i64 48, .string t, .string m, .int .u64 u, .slice a 2 c]] w (SlotsPost M base (fs1 ++ fs2) w) := by
  obtain ⟨b, o, rfl, hbN, hkid⟩ := hv.kidsAt (by simp)
  have hb0 := (Below.refl w.heap.size w).alloc (Nat.le_refl _) (.cells #[.int .i64 48, .string t, .string m, .int .u64 u, .slice (some ⟨b, o, none⟩) 2 c] 25)
  have hrow0 := heap_alloc_new w (.cells #[.int .i64 48, .string t, .string m, .int .u64 u, .slice (some ⟨b, o, none⟩) 2 c] 25)
  obtain ⟨w0, hw0⟩ : ∃ w0, w0 = w.alloc (.cells #[.int .i64 48, .string t, .string m, .int .u64 u, .slice (some ⟨b, o, none⟩) 2 c] 25) := ⟨_, rfl⟩
  rw [← hw0] at hb0 hrow0
  obtain ⟨a1, c1, hn1, d0, d1, d2, d3, d4⟩ := hkid w0 (Keep.of_below hb0 hN) 0 (by simp)
  obtain ⟨a2, c2, hn2, e0, e1, e2, e3, e4⟩ := hkid w0 (Keep.of_below hb0 hN) 1 (by simp)
  simp only [List.getElem_cons_zero, List.getElem_cons_succ, Nat.zero_mul, Nat.add_zero, Nat.one_mul] at hn1 d0 d1 d2 d3 d4 hn2 e0 e1 e2 e3 e4
  have hMB := hmb w0.drew a1 k1.kids.length c1 hb0.drew (NodeIn.keep (w := w0) (w' := w0.drew) (B := (· < N)) (fun _ _ => rfl) hn1)
  unfold nodeU at hMB
  have HMB := Lib.hid hMB
  have hMB2 : ∀ W, Below w0.heap.size w0 W → Calls Tryz.prog 191 #[.int .i64 3, nodeU k2.kind k2.text k2.more k2.num a2 k2.kids.length c2] W (MaybePost M base fs2 W) := fun W hb => hmb2 W a2 k2.kids.length c2 (hb0.trans (hb.mono hb0.size)) (hn2.keep (Keep.of_below hb (Nat.le_trans hN hb0.size)))
  unfold nodeU at hMB2
  have HMB2 := Lib.hid hMB2
  have HM0 := Lib.hid (h.below hb0)
  have HO := Lib.hid (fun r hr => (ho r hr).below h.lt hb0)
  have HD0 : Hid (∀ w2, Below w0.drew.heap.size w0.drew w2 → Below w0.heap.size w0 w2) := Lib.hid fun w2 h => (Below.refl w0.heap.size w0).drew.trans h
  have HD1 : Hid (∀ w2, Below w0.drew.heap.size w0.drew w2 → Below w0.heap.size w0.drew w2) := Lib.hid fun w2 h => h
  have HB0 := Lib.hid hb0
  have hN0 : N ≤ w0.heap.size := Nat.le_trans hN hb0.size
  have hbl : b < w0.heap.size := Nat.lt_of_lt_of_le hbN hN0
  have f4 : w0.cell? ⟨w.heap.size, 4, none⟩ = some (.slice (some ⟨b, o, none⟩) 2 c) := by rw [Lib.cell_of_heap hrow0]; rfl
  have hxl := (Array.getElem?_eq_some_iff.1 hrow0).1
  have HROW := Lib.hid hrow0
  have f0 : w0.cell? ⟨w.heap.size, 0, none⟩ = some (.int .i64 48) := by rw [Lib.cell_of_heap hrow0]; rfl
  clear h ho hv hkid hn1 hn2 hb0 hrow0 hMB hmb hMB2 hmb2
  generalize k1.kind = kk at *
  generalize k1.text = tt at *
  generalize k1.more = mm at *
  generalize k1.num = nn at *
  generalize k1.kids.length = ll at *
  generalize k2.kind = kk2 at *
  generalize k2.text = tt2 at *
  generalize k2.more = mm2 at *
  generalize k2.num = nn2 at *
  generalize k2.kids.length = ll2 at *
  have HW0 := Lib.hid hw0
  go_enter Tryz.func127, Tryz.ntmps127
  go_upto_region 8 with fail
  rw [← HW0.out]
  clear hw0 HW0
  have HS : Hid (∀ w', Below w0.heap.size w0.drew w' → w'.cell? ⟨w.heap.size, 4, none⟩ = some (.slice (some ⟨b, o, none⟩) 2 c) ∧ (w'.cell? ⟨b, o, none⟩ = some (.int .i64 kk) ∧ w'.cell? ⟨b, o + 1, none⟩ = some (.string tt) ∧ w'.cell? ⟨b, o + 2, none⟩ = some (.string mm) ∧ w'.cell? ⟨b, o + 3, none⟩ = some (.int .u64 nn) ∧ w'.cell? ⟨b, o + 4, none⟩ = some (.slice a1 ll c1)) ∧
      (w'.cell? ⟨b, o + 5, none⟩ = some (.int .i64 kk2) ∧ w'.cell? ⟨b, o + 5 + 1, none⟩ = some (.string tt2) ∧ w'.cell? ⟨b, o + 5 + 2, none⟩ = some (.string mm2) ∧ w'.cell? ⟨b, o + 5 + 3, none⟩ = some (.int .u64 nn2) ∧ w'.cell? ⟨b, o + 5 + 4, none⟩ = some (.slice a2 ll2 c2))) := Lib.hid fun w' hb => by
    have hc : ∀ r i, r < w0.heap.size → w'.cell? ⟨r, i, none⟩ = w0.cell? ⟨r, i, none⟩ := fun r i hr => hb.cell (p := ⟨r, i, none⟩) hr
    refine ⟨(hc _ _ hxl).trans f4, ⟨(hc _ _ hbl).trans d0, (hc _ _ hbl).trans d1, (hc _ _ hbl).trans d2, (hc _ _ hbl).trans d3, (hc _ _ hbl).trans d4⟩, (hc _ _ hbl).trans e0, (hc _ _ hbl).trans e1, (hc _ _ hbl).trans e2, (hc _ _ hbl).trans e3, (hc _ _ hbl).trans e4⟩
  go_region_held3 (fun w' => w'.cell? ⟨w.heap.size, 4, none⟩ = some (.slice (some ⟨b, o, none⟩) 2 c) ∧ (w'.cell? ⟨b, o, none⟩ = some (.int .i64 kk) ∧ w'.cell? ⟨b, o + 1, none⟩ = some (.string tt) ∧ w'.cell? ⟨b, o + 2, none⟩ = some (.string mm) ∧ w'.cell? ⟨b, o + 3, none⟩ = some (.int .u64 nn) ∧ w'.cell? ⟨b, o + 4, none⟩ = some (.slice a1 ll c1)) ∧
      (w'.cell? ⟨b, o + 5, none⟩ = some (.int .i64 kk2) ∧ w'.cell? ⟨b, o + 5 + 1, none⟩ = some (.string tt2) ∧ w'.cell? ⟨b, o + 5 + 2, none⟩ = some (.string mm2) ∧ w'.cell? ⟨b, o + 5 + 3, none⟩ = some (.int .u64 nn2) ∧ w'.cell? ⟨b, o + 5 + 4, none⟩ = some (.slice a2 ll2 c2))) (first | exact HS.out _ (Below.refl _ _) | exact HS.out _ hb2d | exact HS.out _ hb3 | exact HS.out _ hb6 | go_keep) (first
    | (go_at_call 191; ((with_reducible refine HMB.out.mono ?_)); rintro e w2 ⟨v1, l1, D1, rfl, hl1, hat1, hv1, hb2, hD1, hf1⟩; obtain ⟨a9, n9, c9, rfl⟩ := hat1.slice; have hb20 := HD0.out _ hb2; have hb2d := HD1.out _ hb2)
    | (go_at_call 191; ((with_reducible refine (HMB2.out _ hb20).mono ?_)); rintro e w3 ⟨v2, l2, D2, rfl, hl2, hat2, hv2, hb23, hD2, hf2⟩; obtain ⟨a8, n8, c8, rfl⟩ := hat2.slice; have hb3 : Below w0.heap.size w0.drew w3 := hb2d.trans (hb23.mono hb20.size))
    | (go_at_call 192; ((with_reducible refine (join_two (HM0.out.below hb20) hat1 hl1 hD1 hf1 hb23 hat2 hl2 hD2 hf2 hfs).mono ?_)); rintro e w6 ⟨v, l, D, rfl, hp⟩; have hb6 : Below w0.heap.size w0.drew w6 := hb2d.trans ((hp.2.2.1).mono hb20.size)))
  all_goals
    have HPP := Lib.hid (SlotsPost.from (HB0.out.trans (hb20.mono HB0.out.size)) ⟨v, l, D, rfl, hp⟩)
    go_wp2
    go_ret
    exact HPP.out

end Go.Proofs.YtgceklahjdbipaaGreatDoor
