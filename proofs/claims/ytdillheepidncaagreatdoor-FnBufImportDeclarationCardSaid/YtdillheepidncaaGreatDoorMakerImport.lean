/- The maker's slots of an import: an identifier or none, and a text. -/
import Derived.Test.YtdillheepidncaaGreatDoorMakerJoin
namespace Go.Proofs.YtdillheepidncaaGreatDoor
open Go Go.RowKit
set_option linter.unusedVariables false
set_option linter.unusedSimpArgs false

theorem FnD.below {M : Nat} {base : Bool} {D : Nat → Prop} {w w' : World} {f : Value} {s : SlotP} {sz : Nat} (h : FnD M base D w f s sz) (hD : ∀ r, D r → r < w.heap.size) (hb : Below w.heap.size w w') : FnD M base D w' f s sz :=
  fun W hW => h W fun r hr => ⟨(hW r hr).1.trans (hb.block r (hD r hr)), (hW r hr).2⟩

theorem FnD.mono {M : Nat} {base : Bool} {D D' : Nat → Prop} {w : World} {f : Value} {s : SlotP} {sz : Nat} (h : FnD M base D w f s sz) (hD : ∀ r, D r → D' r) : FnD M base D' w f s sz :=
  fun W hW => h W fun r hr => hW r (hD r hr)

theorem ListAt.slice {w : World} {v : Value} {l : List (SlotQ × Value)} (h : ListAt w v l) : ∃ a n c, v = .slice a n c := by
  rcases h with ⟨rfl, _⟩ | ⟨g, c, rfl, _⟩
  · exact ⟨_, _, _, rfl⟩
  · exact ⟨_, _, _, rfl⟩

/-- Slots of a node, or none. -/
def MaybePost (M : Nat) (base : Bool) (fs : List SlotQ) (w : World) (e : Ending) (w' : World) : Prop :=
  ∃ (v : Value) (l : List (SlotQ × Value)) (D : Nat → Prop), e = .returned v ∧ l.map Prod.fst = fs ∧ ListAt w' v l ∧ (∀ k, v.ownBlock = some k → w.heap.size ≤ k) ∧ Below w.heap.size w w' ∧ (∀ r, D r → r < w'.heap.size ∧ MkOther M r w') ∧ ∀ p ∈ l, FnD M base D w' p.2 p.1.s p.1.sz

theorem SlotsPost.maybe {M : Nat} {base : Bool} {fs : List SlotQ} {w : World} {e : Ending} {w' : World} (h : SlotsPost M base fs w e w') (h0 : 0 < fs.length) : MaybePost M base fs w e w' := by
  obtain ⟨v, l, D, rfl, hl, hown, hb, hD, hf⟩ := h
  have hl0 : 0 < l.length := by
    have e := congrArg List.length hl
    rw [List.length_map] at e
    omega
  obtain ⟨g, c, rfl, h1, h2⟩ := hown.form hl0
  exact ⟨_, l, D, rfl, hl, .inr ⟨g, c, rfl, h2, hown.cells (g := g) rfl⟩, fun k hk => (hown.lt k hk).1, hb, fun r hr => ⟨(hD r hr).1, (hD r hr).2.1⟩, hf⟩

set_option maxHeartbeats 4000000 in
set_option maxRecDepth 100000 in
theorem maybeAt_some (M : Nat) (base : Bool) (out : List UInt8) (N i : Nat) (tr : Tr) (k : Int) (hk : k ≠ 0) (t m : ByteArray) (u : Int) (a : Option Addr) (n c : Nat) (P : List UInt8 → List UInt8 × Nat) (sz : Nat) (Q : List UInt8 → Nat → Prop) (w : World) (h : Mk M base out w) (hN : N ≤ w.heap.size) (ho : ∀ r, r < N → MkOther M r w)
    (hw : NodeWrites M base N tr (nodeU k t m u a n c) P sz) (ht : NodeIn w (· < N) tr (nodeU k t m u a n c)) :
    Calls Tryz.prog 147 #[.int .i64 i, .agg #[.int .i64 k, .string t, .string m, .int .u64 u, .slice a n c]] w (SlotsPost M base [kidQ i P sz Q] w) := by
  have hb0 := (Below.refl w.heap.size w).alloc (Nat.le_refl _) (.cells #[.int .i64 k, .string t, .string m, .int .u64 u, .slice a n c] 25)
  have H := Lib.hid h
  have HO := Lib.hid ho
  have HW := Lib.hid hw
  have HT := Lib.hid ht
  have HB0 := Lib.hid hb0
  have hk0 : (k == 0) = false := beq_eq_false_iff_ne.2 hk
  clear h ho hw ht hb0 hk
  go_enter Tryz.func147, Tryz.ntmps147
  go_wp2_with (go_at_call 143; with_reducible refine (nodeAt_any i k t m u a n c _).mono ?_)
  rintro e w2 ⟨rfl, hbox, hb2⟩
  rw [alloc_size] at hbox
  have HPOST := Lib.hid (kid_slots (i := i) (B := w.heap.size + 1) (Q := Q) H.out hN HO.out HW.out HT.out HB0.out hb2 (by rw [alloc_size]) hbox)
  clear hbox hb2
  go_wp2
  go_ret
  exact HPOST.out

theorem maybeAt_none (M : Nat) (base : Bool) (i : Int) (t m : ByteArray) (u : Int) (a : Option Addr) (n c : Nat) (w : World) :
    Calls Tryz.prog 147 #[.int .i64 i, .agg #[.int .i64 0, .string t, .string m, .int .u64 u, .slice a n c]] w (MaybePost M base [] w) := by
  have HP : Hid (∀ w', Below w.heap.size w w' → MaybePost M base [] w (.returned (.slice none 0 0)) w') := Lib.hid fun w' h => ⟨_, [], fun _ => False, rfl, rfl, .inl ⟨rfl, rfl⟩, (fun k hk => by simp [Value.ownBlock] at hk), h, (fun r hr => hr.elim), fun p hp => by cases hp⟩
  go_enter Tryz.func147, Tryz.ntmps147
  go_wp2
  go_ret
  exact HP.out _ ((Below.refl _ w).alloc (Nat.le_refl _) _)

theorem import_join {M : Nat} {base : Bool} {N sz n9 c9 : Nat} {out : List UInt8} {a9 : Option Addr} {l1 : List (SlotQ × Value)} {D1 : Nat → Prop} {fs1 : List SlotQ} {tr : Tr} {k : Int} {t m : ByteArray} {u : Int} {a : Option Addr} {n c : Nat} {P : List UInt8 → List UInt8 × Nat} {Q : List UInt8 → Nat → Prop} {w2 w3 : World}
    (hm2 : Mk M base out w2) (hN : N ≤ w2.heap.size) (ho : ∀ r, r < N → MkOther M r w2) (hat1 : ListAt w2 (.slice a9 n9 c9) l1) (hl1 : l1.map Prod.fst = fs1) (hfs : fs1.length ≤ 50) (hD1 : ∀ r, D1 r → r < w2.heap.size ∧ MkOther M r w2) (hf1 : ∀ p ∈ l1, FnD M base D1 w2 p.2 p.1.s p.1.sz)
    (hb23 : Below w2.heap.size w2 w3) (hbox : w3.heap[w2.heap.size]? = some (.cells #[.int .i64 k, .string t, .string m, .int .u64 u, .slice a n c] 25 (0, 0))) (hw : NodeWrites M base N tr (nodeU k t m u a n c) P sz) (ht : NodeIn w2 (· < N) tr (nodeU k t m u a n c)) :
    Calls Tryz.prog 145 #[.slice (some ⟨w3.heap.size + 1, 0, none⟩) 2 2] ((w3.alloc (.cells #[.int .i64 2, .int .i64 4, .int .u64 0, .func (.func 169) #[] #[.pointer (some ⟨w2.heap.size, 0, none⟩)]] 253)).alloc (.cells #[.slice a9 n9 c9, .slice (some ⟨w3.heap.size, 0, none⟩) 1 1] 248)) (SlotsPost M base (fs1 ++ [kidQ 2 P sz Q]) w2) := by
  have hM := hm2.lt
  have hb4 := hb23.alloc hb23.size (.cells #[.int .i64 2, .int .i64 4, .int .u64 0, .func (.func 169) #[] #[.pointer (some ⟨w2.heap.size, 0, none⟩)]] 253)
  have hr4 := heap_alloc_new w3 (.cells #[.int .i64 2, .int .i64 4, .int .u64 0, .func (.func 169) #[] #[.pointer (some ⟨w2.heap.size, 0, none⟩)]] 253)
  have hs4 : (w3.alloc (.cells #[.int .i64 2, .int .i64 4, .int .u64 0, .func (.func 169) #[] #[.pointer (some ⟨w2.heap.size, 0, none⟩)]] 253)).heap.size = w3.heap.size + 1 := alloc_size _ _
  have hbl := (Array.getElem?_eq_some_iff.1 hbox).1
  have hx4 := (Below.heap_alloc w3 (.cells #[.int .i64 2, .int .i64 4, .int .u64 0, .func (.func 169) #[] #[.pointer (some ⟨w2.heap.size, 0, none⟩)]] 253) _ hbl).trans hbox
  generalize w3.alloc (.cells #[.int .i64 2, .int .i64 4, .int .u64 0, .func (.func 169) #[] #[.pointer (some ⟨w2.heap.size, 0, none⟩)]] 253) = w4 at *
  have hb5 := hb4.alloc hb4.size (.cells #[.slice a9 n9 c9, .slice (some ⟨w3.heap.size, 0, none⟩) 1 1] 248)
  have hr5 := heap_alloc_new w4 (.cells #[.slice a9 n9 c9, .slice (some ⟨w3.heap.size, 0, none⟩) 1 1] 248)
  have hs5 : (w4.alloc (.cells #[.slice a9 n9 c9, .slice (some ⟨w3.heap.size, 0, none⟩) 1 1] 248)).heap.size = w4.heap.size + 1 := alloc_size _ _
  have hk5 := (Below.heap_alloc w4 (.cells #[.slice a9 n9 c9, .slice (some ⟨w3.heap.size, 0, none⟩) 1 1] 248) _ (Array.getElem?_eq_some_iff.1 hr4).1).trans hr4
  have hx5 := (Below.heap_alloc w4 (.cells #[.slice a9 n9 c9, .slice (some ⟨w3.heap.size, 0, none⟩) 1 1] 248) _ (Array.getElem?_eq_some_iff.1 hx4).1).trans hx4
  rw [hs4] at hr5
  generalize w4.alloc (.cells #[.slice a9 n9 c9, .slice (some ⟨w3.heap.size, 0, none⟩) 1 1] 248) = w5 at *
  have hll : l1.length = fs1.length := by
    have e := congrArg List.length hl1
    rw [List.length_map] at e
    exact e
  have hfd2 : FnD M base (fun r => r < N ∨ r = w2.heap.size) w5 (.func (.func 169) #[] #[.pointer (some ⟨w2.heap.size, 0, none⟩)]) (kidQ 2 P sz Q).s (kidQ 2 P sz Q).sz := kid_FnD hw (Nat.le_trans hN hb5.size) (ht.keep (Keep.of_below hb5 hN)) hx5
  have hfo2 := hfd2 w5 fun r hr => ⟨rfl, by
    rcases hr with hr | rfl
    · exact (ho r hr).below hM hb5
    · exact MkAt.newer hm2 (Nat.le_refl _) (hb5.cell (p := ⟨M, 0, none⟩) hM)⟩
  have hone1 : ∀ u ∈ slotCells l1, u.oneCell' = true := slotCells_one fun p hp => hf1 p hp w2 fun r hr => ⟨rfl, (hD1 r hr).2⟩
  have hj := join_any [(.slice a9 n9 c9, l1), (.slice (some ⟨w3.heap.size, 0, none⟩) 1 1, [(kidQ 2 P sz Q, .func (.func 169) #[] #[.pointer (some ⟨w2.heap.size, 0, none⟩)])])] (w3.heap.size + 1) w5 hr5
    (fun p hp => by
      rcases List.mem_cons.1 hp with rfl | hp
      · exact hat1.below hb5
      · rw [List.mem_singleton] at hp
        rw [hp]
        refine .inr ⟨w3.heap.size, 1, rfl, by omega, fun j u hu => ?_⟩
        rw [show (⟨w3.heap.size, 0, none⟩ : Addr).add j = ⟨w3.heap.size, j, none⟩ by unfold Addr.add; split <;> simp_all, Lib.cell_of_heap hk5]
        simpa [slotCells, kidQ] using hu)
    (fun p hp => by
      rcases List.mem_cons.1 hp with rfl | hp
      · exact hone1
      · rw [List.mem_singleton] at hp
        rw [hp]
        exact slotCells_one (M := M) (base := base) (w := w5) fun q hq => by
          rw [List.mem_singleton] at hq
          rw [hq]
          exact hfo2)
    (by show 2 ≤ 100; decide) (by simp; omega)
  have hfl : [((Value.slice a9 n9 c9), l1), (.slice (some ⟨w3.heap.size, 0, none⟩) 1 1, [(kidQ 2 P sz Q, Value.func (.func 169) #[] #[.pointer (some ⟨w2.heap.size, 0, none⟩)])])].flatMap Prod.snd = l1 ++ [(kidQ 2 P sz Q, .func (.func 169) #[] #[.pointer (some ⟨w2.heap.size, 0, none⟩)])] := by simp
  rw [hfl] at hj
  refine hj.mono ?_
  rintro e w6 ⟨v, rfl, hown, hb6⟩
  have hb26 : Below w2.heap.size w2 w6 := hb5.trans (hb6.mono hb5.size)
  refine ⟨v, _, fun r => D1 r ∨ r < N ∨ r = w2.heap.size, rfl, by rw [List.map_append, hl1]; rfl, own_base hown hb5.size, hb26, fun r hr => ?_, fun p hp => ?_⟩
  · have hr2 : r < w5.heap.size ∧ MkOther M r w6 := by
      rcases hr with hr | hr | rfl
      · exact ⟨Nat.lt_of_lt_of_le (hD1 r hr).1 hb5.size, (hD1 r hr).2.below hM hb26⟩
      · exact ⟨Nat.lt_of_lt_of_le hr (Nat.le_trans hN hb5.size), (ho r hr).below hM hb26⟩
      · exact ⟨(Array.getElem?_eq_some_iff.1 hx5).1, MkAt.newer hm2 (Nat.le_refl _) (hb26.cell (p := ⟨M, 0, none⟩) hM)⟩
    refine ⟨Nat.lt_of_lt_of_le hr2.1 hb6.size, hr2.2, fun e => ?_⟩
    have h1 := (hown.lt r e).1
    omega
  · rcases List.mem_append.1 hp with h1 | h1
    · exact (FnD.below (hf1 p h1) (fun r hr => (hD1 r hr).1) hb26).mono fun r hr => .inl hr
    · rw [List.mem_singleton] at h1
      rw [h1]
      refine (FnD.below hfd2 (fun r hr => ?_) hb6).mono fun r hr => .inr hr
      rcases hr with hr | rfl
      · exact Nat.lt_of_lt_of_le hr (Nat.le_trans hN hb5.size)
      · exact (Array.getElem?_eq_some_iff.1 hx5).1

set_option maxHeartbeats 8000000 in
set_option maxRecDepth 100000 in
theorem importSlots (M : Nat) (base : Bool) (out : List UInt8) (N : Nat) (t m : ByteArray) (u : Int) (k1 k2 : Tr) (a : Option Addr) (c : Nat) (fs1 : List SlotQ) (hfs : fs1.length ≤ 50) (P : List UInt8 → List UInt8 × Nat) (sz : Nat) (Q : List UInt8 → Nat → Prop) (w : World) (h : Mk M base out w) (hN : N ≤ w.heap.size) (ho : ∀ r, r < N → MkOther M r w)
    (hv : NodeIn w (· < N) (.mk 5 t m u [k1, k2]) (nodeU 5 t m u a 2 c))
    (hmb : ∀ W a' l' c', Below w.heap.size w W → NodeIn W (· < N) k1 (nodeU k1.kind k1.text k1.more k1.num a' l' c') → Calls Tryz.prog 147 #[.int .i64 1, nodeU k1.kind k1.text k1.more k1.num a' l' c'] W (MaybePost M base fs1 W))
    (hw : ∀ v, NodeWrites M base N k2 v P sz) :
    Calls Tryz.prog 103 #[.agg #[.int .i64 5, .string t, .string m, .int .u64 u, .slice a 2 c]] w (SlotsPost M base (fs1 ++ [kidQ 2 P sz Q]) w) := by
  obtain ⟨b, o, rfl, hbN, hkid⟩ := hv.kidsAt (by simp)
  have hb0 := (Below.refl w.heap.size w).alloc (Nat.le_refl _) (.cells #[.int .i64 5, .string t, .string m, .int .u64 u, .slice (some ⟨b, o, none⟩) 2 c] 25)
  have hrow0 := heap_alloc_new w (.cells #[.int .i64 5, .string t, .string m, .int .u64 u, .slice (some ⟨b, o, none⟩) 2 c] 25)
  obtain ⟨w0, hw0⟩ : ∃ w0, w0 = w.alloc (.cells #[.int .i64 5, .string t, .string m, .int .u64 u, .slice (some ⟨b, o, none⟩) 2 c] 25) := ⟨_, rfl⟩
  rw [← hw0] at hb0 hrow0
  obtain ⟨a1, c1, hn1, d0, d1, d2, d3, d4⟩ := hkid w0 (Keep.of_below hb0 hN) 0 (by simp)
  obtain ⟨a2, c2, hn2, e0, e1, e2, e3, e4⟩ := hkid w0 (Keep.of_below hb0 hN) 1 (by simp)
  simp only [List.getElem_cons_zero, List.getElem_cons_succ, Nat.zero_mul, Nat.add_zero, Nat.one_mul] at hn1 d0 d1 d2 d3 d4 hn2 e0 e1 e2 e3 e4
  have hMB := hmb w0.drew a1 k1.kids.length c1 hb0.drew (NodeIn.keep (w := w0) (w' := w0.drew) (B := (· < N)) (fun _ _ => rfl) hn1)
  unfold nodeU at hMB
  have HMB := Lib.hid hMB
  have HM0 := Lib.hid (h.below hb0)
  have HO := Lib.hid (fun r hr => (ho r hr).below h.lt hb0)
  have HW := Lib.hid (hw (nodeU k2.kind k2.text k2.more k2.num a2 k2.kids.length c2))
  have HN2 := Lib.hid hn2
  have HD0 : Hid (∀ w2, Below w0.drew.heap.size w0.drew w2 → Below w0.heap.size w0 w2) := Lib.hid fun w2 h => (Below.refl w0.heap.size w0).drew.trans h
  have HD1 : Hid (∀ w2, Below w0.drew.heap.size w0.drew w2 → Below w0.heap.size w0.drew w2) := Lib.hid fun w2 h => h
  have HB0 := Lib.hid hb0
  have hN0 : N ≤ w0.heap.size := Nat.le_trans hN hb0.size
  have hbl : b < w0.heap.size := Nat.lt_of_lt_of_le hbN hN0
  have f4 : w0.cell? ⟨w.heap.size, 4, none⟩ = some (.slice (some ⟨b, o, none⟩) 2 c) := by rw [Lib.cell_of_heap hrow0]; rfl
  have hxl := (Array.getElem?_eq_some_iff.1 hrow0).1
  have HROW := Lib.hid hrow0
  have f0 : w0.cell? ⟨w.heap.size, 0, none⟩ = some (.int .i64 5) := by rw [Lib.cell_of_heap hrow0]; rfl
  clear h ho hw hv hkid hn1 hn2 hb0 hrow0 hMB hmb
  generalize k1.kind = kk at *
  generalize k1.text = tt at *
  generalize k1.more = mm at *
  generalize k1.num = nn at *
  generalize k1.kids.length = ll at *
  generalize k2.kind = kk2 at *
  generalize k2.text = tt2 at *
  generalize k2.more = mm2 at *
  generalize k2.num = nn2 at *
  generalize k2.kids.length = ll2 at *
  have HW0 := Lib.hid hw0
  go_enter Tryz.func103, Tryz.ntmps103
  go_upto_region 10 with fail
  rw [← HW0.out]
  clear hw0 HW0
  have HS : Hid (∀ w', Below w0.heap.size w0.drew w' → w'.cell? ⟨w.heap.size, 4, none⟩ = some (.slice (some ⟨b, o, none⟩) 2 c) ∧ (w'.cell? ⟨b, o, none⟩ = some (.int .i64 kk) ∧ w'.cell? ⟨b, o + 1, none⟩ = some (.string tt) ∧ w'.cell? ⟨b, o + 2, none⟩ = some (.string mm) ∧ w'.cell? ⟨b, o + 3, none⟩ = some (.int .u64 nn) ∧ w'.cell? ⟨b, o + 4, none⟩ = some (.slice a1 ll c1)) ∧
      (w'.cell? ⟨b, o + 5, none⟩ = some (.int .i64 kk2) ∧ w'.cell? ⟨b, o + 5 + 1, none⟩ = some (.string tt2) ∧ w'.cell? ⟨b, o + 5 + 2, none⟩ = some (.string mm2) ∧ w'.cell? ⟨b, o + 5 + 3, none⟩ = some (.int .u64 nn2) ∧ w'.cell? ⟨b, o + 5 + 4, none⟩ = some (.slice a2 ll2 c2))) := Lib.hid fun w' hb => by
    have hc : ∀ r i, r < w0.heap.size → w'.cell? ⟨r, i, none⟩ = w0.cell? ⟨r, i, none⟩ := fun r i hr => hb.cell (p := ⟨r, i, none⟩) hr
    refine ⟨(hc _ _ hxl).trans f4, ⟨(hc _ _ hbl).trans d0, (hc _ _ hbl).trans d1, (hc _ _ hbl).trans d2, (hc _ _ hbl).trans d3, (hc _ _ hbl).trans d4⟩, (hc _ _ hbl).trans e0, (hc _ _ hbl).trans e1, (hc _ _ hbl).trans e2, (hc _ _ hbl).trans e3, (hc _ _ hbl).trans e4⟩
  go_region_held3 (fun w' => w'.cell? ⟨w.heap.size, 4, none⟩ = some (.slice (some ⟨b, o, none⟩) 2 c) ∧ (w'.cell? ⟨b, o, none⟩ = some (.int .i64 kk) ∧ w'.cell? ⟨b, o + 1, none⟩ = some (.string tt) ∧ w'.cell? ⟨b, o + 2, none⟩ = some (.string mm) ∧ w'.cell? ⟨b, o + 3, none⟩ = some (.int .u64 nn) ∧ w'.cell? ⟨b, o + 4, none⟩ = some (.slice a1 ll c1)) ∧
      (w'.cell? ⟨b, o + 5, none⟩ = some (.int .i64 kk2) ∧ w'.cell? ⟨b, o + 5 + 1, none⟩ = some (.string tt2) ∧ w'.cell? ⟨b, o + 5 + 2, none⟩ = some (.string mm2) ∧ w'.cell? ⟨b, o + 5 + 3, none⟩ = some (.int .u64 nn2) ∧ w'.cell? ⟨b, o + 5 + 4, none⟩ = some (.slice a2 ll2 c2))) (first | exact HS.out _ (Below.refl _ _) | exact HS.out _ hb2d | exact HS.out _ hb3 | exact HS.out _ hb6 | go_keep) (first
    | (go_at_call 147; ((with_reducible refine HMB.out.mono ?_)); rintro e w2 ⟨v1, l1, D1, rfl, hl1, hat1, hv1, hb2, hD1, hf1⟩; obtain ⟨a9, n9, c9, rfl⟩ := hat1.slice; have hb20 := HD0.out _ hb2; have hb2d := HD1.out _ hb2)
    | (go_at_call 143; ((with_reducible refine (nodeAt_any 2 kk2 tt2 mm2 nn2 a2 ll2 c2 _).mono ?_)); rintro e w3 ⟨rfl, hbox, hb23⟩; have hb3 : Below w0.heap.size w0.drew w3 := hb2d.trans (hb23.mono hb20.size))
    | (go_at_call 145; ((with_reducible refine (import_join (Q := Q) (HM0.out.below hb20) (Nat.le_trans hN0 hb20.size) (fun r hr => (HO.out r hr).below HM0.out.lt hb20) hat1 hl1 hfs hD1 hf1 hb23 hbox HW.out (HN2.out.keep (Keep.of_below hb20 hN0))).mono ?_)); rintro e w6 ⟨v, l, D, rfl, hp⟩; have hb6 : Below w0.heap.size w0.drew w6 := hb2d.trans ((hp.2.2.1).mono hb20.size)))
  all_goals
    have HPP := Lib.hid (SlotsPost.from (HB0.out.trans (hb20.mono HB0.out.size)) ⟨v, l, D, rfl, hp⟩)
    go_wp2
    go_ret
    exact HPP.out

end Go.Proofs.YtdillheepidncaaGreatDoor
