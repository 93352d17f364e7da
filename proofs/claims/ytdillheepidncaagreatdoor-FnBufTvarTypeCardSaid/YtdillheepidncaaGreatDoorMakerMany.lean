/- The maker's node over any slots. -/
import Derived.Test.YtdillheepidncaaGreatDoorMakerTwo
namespace Go.Proofs.YtdillheepidncaaGreatDoor
open Go Go.RowKit
set_option linter.unusedVariables false
set_option linter.unusedSimpArgs false

/-- The cells of slots, each with what it refers to. -/
def slotCells (l : List (SlotQ × Value)) : List Value := l.flatMap fun p => [.int .i64 p.1.s.idx, .int .i64 p.1.s.width, .int .u64 p.1.s.num, p.2]

theorem slotCells_length (l : List (SlotQ × Value)) : (slotCells l).length = l.length * 4 := by
  induction l with
  | nil => rfl
  | cons p l ih =>
    unfold slotCells at ih ⊢
    rw [List.flatMap_cons, List.length_append, ih, List.length_cons]
    show 4 + l.length * 4 = (l.length + 1) * 4
    omega

theorem slotCells_append (a b : List (SlotQ × Value)) : slotCells (a ++ b) = slotCells a ++ slotCells b := by simp [slotCells]

theorem slotCells_at (l : List (SlotQ × Value)) (k j : Nat) (hk : k < l.length) (hj : j < 4) :
    (slotCells l)[k * 4 + j]? = [Value.int .i64 l[k].1.s.idx, .int .i64 l[k].1.s.width, .int .u64 l[k].1.s.num, l[k].2][j]? := by
  induction l generalizing k with
  | nil => exact absurd hk (Nat.not_lt_zero _)
  | cons p l ih =>
    unfold slotCells
    rw [List.flatMap_cons]
    cases k with
    | zero =>
      rw [List.getElem?_append_left (by show 0 * 4 + j < 4; omega), Nat.zero_mul, Nat.zero_add]
      rfl
    | succ k =>
      rw [List.getElem?_append_right (by show 4 ≤ (k + 1) * 4 + j; omega)]
      have h := ih k (by simpa using hk)
      unfold slotCells at h
      rw [show (k + 1) * 4 + j - [Value.int .i64 p.1.s.idx, .int .i64 p.1.s.width, .int .u64 p.1.s.num, p.2].length = k * 4 + j by show (k + 1) * 4 + j - 4 = k * 4 + j; omega, h]
      rfl

/-- What a slot refers to is written in every world in which the blocks that D takes stand as they do here. -/
def FnD (M : Nat) (base : Bool) (D : Nat → Prop) (w : World) (f : Value) (s : SlotP) (sz : Nat) : Prop := ∀ W, (∀ r, D r → W.heap[r]? = w.heap[r]? ∧ MkOther M r W) → FnOk M base W f s sz

/-- Slots in a row of the call's own; what they refer to lies elsewhere. -/
def SlotsPost (M : Nat) (base : Bool) (fs : List SlotQ) (w : World) (e : Ending) (w' : World) : Prop :=
  ∃ (v : Value) (l : List (SlotQ × Value)) (D : Nat → Prop), e = .returned v ∧ l.map Prod.fst = fs ∧ w'.ownsRow w.heap.size 253 4 v l.length (slotCells l) ∧ Below w.heap.size w w' ∧
    (∀ r, D r → r < w'.heap.size ∧ MkOther M r w' ∧ v.ownBlock ≠ some r) ∧ ∀ p ∈ l, FnD M base D w' p.2 p.1.s p.1.sz

theorem FnOk.one {M : Nat} {base : Bool} {w : World} {f : Value} {s : SlotP} {sz : Nat} (h : FnOk M base w f s sz) : f.oneCell' = true := by
  unfold FnOk at h
  split at h
  · rw [h]; rfl
  · obtain ⟨fid, caps, e, _⟩ := h
    rw [e]; rfl

theorem slotCells_one {M : Nat} {base : Bool} {w : World} {l : List (SlotQ × Value)} (h : ∀ p ∈ l, FnOk M base w p.2 p.1.s p.1.sz) : ∀ u ∈ slotCells l, u.oneCell' = true := by
  intro u hu
  unfold slotCells at hu
  obtain ⟨p, hp, hu⟩ := List.mem_flatMap.1 hu
  simp only [List.mem_cons, List.mem_nil_iff, or_false] at hu
  rcases hu with rfl | rfl | rfl | rfl
  · rfl
  · rfl
  · rfl
  · exact (h p hp).one

/-- A table over slots in a row. -/
theorem table_row (fs : List SlotQ) (places : List Nat) (size : Nat) (hg : TabGood fs places size) (M : Nat) (base : Bool) (out : List UInt8) (l : List (SlotQ × Value)) (hl : l.map Prod.fst = fs) (hl0 : 0 < l.length) (v : Value) (n0 : Nat) (w : World) (h : Mk M base out w)
    (hown : w.ownsRow n0 253 4 v l.length (slotCells l)) (hB : ∀ r, v.ownBlock = some r → MkOther M r w) (hfn : ∀ p ∈ l, FnOk M base w p.2 p.1.s p.1.sz)
    (hout : out.length + (12 + 2 * places.length + size + szSum fs) < 900000000) :
    Calls Tryz.prog 59 #[.pointer (some ⟨M, 0, none⟩), v] w (AtPost M base (tableB (fs.map SlotQ.s) out).1 (tableB (fs.map SlotQ.s) out).2 w) := by
  subst hl
  obtain ⟨g, cp, rfl, hg1, hg2⟩ := hown.form hl0
  have hcell := fun (j : Nat) (x : Value) (hx : (slotCells l)[j]? = some x) => (show w.cell? ⟨g, 0 + j, none⟩ = some x from by have := hown.cells (g := g) rfl j x hx; rwa [show (⟨g, 0, none⟩ : Addr).add j = ⟨g, 0 + j, none⟩ by unfold Addr.add; split <;> simp_all] at this)
  have hlen : (l.map Prod.fst).length = l.length := List.length_map ..
  have ht := table_any (l.map Prod.fst) places size hg.pl hg.most hg.few hg.s4 hg.s6 hg.ps hg.lo hg.fit hg.ap hg.ok hg.wid hg.num hg.len M base out g 0 cp (fun k => (l.getD k (baseQ, .nilFunc)).2) w h (hB g rfl) ⟨hg2, fun k hk => ?_⟩ (fun k hk => ?_) hout
  · rw [hlen] at ht
    exact ht
  · have hk2 : k < l.length := by simpa using hk
    have e1 : (List.map SlotQ.s (List.map Prod.fst l))[k] = l[k].1.s := by simp
    have e2 : l.getD k (baseQ, .nilFunc) = l[k] := by simp [List.getD, hk2]
    rw [e1]
    simp only [e2]
    refine ⟨?_, ?_, ?_, ?_⟩
    · exact hcell (k * 4) _ (slotCells_at l k 0 hk2 (by decide))
    · exact hcell (k * 4 + 1) _ (slotCells_at l k 1 hk2 (by decide))
    · exact hcell (k * 4 + 2) _ (slotCells_at l k 2 hk2 (by decide))
    · exact hcell (k * 4 + 3) _ (slotCells_at l k 3 hk2 (by decide))
  · have hk2 : k < l.length := by simpa using hk
    have e1 : (List.map Prod.fst l)[k] = l[k].1 := by simp
    have e2 : l.getD k (baseQ, .nilFunc) = l[k] := by simp [List.getD, hk2]
    rw [e1]
    simp only [e2]
    exact hfn _ (List.getElem_mem hk2)

set_option maxHeartbeats 4000000 in
set_option maxRecDepth 100000 in
theorem node_many (M : Nat) (out : List UInt8) (fs : List SlotQ) (h0 : 0 < fs.length) (places : List Nat) (size : Nat) (hg : TabGood fs places size) (k : Int) (t m : ByteArray) (u : Int) (kids : Value) (hkids : ∃ a n c, kids = .slice a n c) (w : World) (h : Mk M false out w)
    (hs : ∀ W, Mk M false out W → Below w.heap.size w W → Calls Tryz.prog 57 #[.pointer (some ⟨M, 0, none⟩), .agg #[.int .i64 k, .string t, .string m, .int .u64 u, kids]] W (SlotsPost M false fs W))
    (hout : out.length + (12 + 2 * places.length + size + szSum fs) < 900000000) :
    Calls Tryz.prog 20 #[.pointer (some ⟨M, 0, none⟩), .agg #[.int .i64 k, .string t, .string m, .int .u64 u, kids]] w (AtPost M false (tableB (fs.map SlotQ.s) out).1 (tableB (fs.map SlotQ.s) out).2 w) := by
  obtain ⟨a, n, c, rfl⟩ := hkids
  have hM := h.lt
  have hb0 := (Below.refl w.heap.size w).alloc (Nat.le_refl _) (.cells #[.int .i64 k, .string t, .string m, .int .u64 u, .slice a n c] 25)
  have HB0 := Lib.hid hb0
  have HS := Lib.hid (hs _ (h.below hb0) hb0)
  have H := Lib.hid h
  have HG := Lib.hid hg
  clear hs h hb0 hg
  go_enter Tryz.func20, Tryz.ntmps20
  go_wp2_with (go_at_call 57; with_reducible refine HS.out.mono ?_)
  rintro e w2 ⟨v, l, D, rfl, hl, hown, hb2, hD, hfd⟩
  have hf : ∀ p ∈ l, FnOk M false w2 p.2 p.1.s p.1.sz := fun p hp => hfd p hp w2 fun r hr => ⟨rfl, (hD r hr).2.1⟩
  clear hD hfd
  have hb12 : Below w.heap.size w w2 := HB0.out.trans (hb2.mono HB0.out.size)
  have hm2 : Mk M false out w2 := H.out.below hb12
  obtain ⟨_, _, _, c1, _⟩ := hm2.form
  have hl0 : 0 < l.length := by
    have e := congrArg List.length hl
    rw [List.length_map] at e
    omega
  have hob : ∀ r, v.ownBlock = some r → MkOther M r w2 := fun r hr => MkAt.newer (w' := w2) H.out (Nat.le_trans HB0.out.size (hown.lt r hr).1) (hb12.cell (p := ⟨M, 0, none⟩) hM)
  have hmv := moves_below hM hb12
  have HT : Hid (Calls Tryz.prog 59 #[.pointer (some ⟨M, 0, none⟩), v] w2 fun e w' => e = .returned (.int .i64 (tableB (fs.map SlotQ.s) out).2) ∧ Mk M false (tableB (fs.map SlotQ.s) out).1 w' ∧ Moves M w w') := Lib.hid (by
    refine (table_row fs places size HG.out M false out l hl hl0 v _ w2 hm2 hown hob hf hout).mono ?_
    rintro e w' ⟨h1, h2, h3⟩
    exact ⟨h1, h2, hmv.trans h3⟩)
  clear hown hb2 hf hb12 hm2 hob hmv
  go_wp2_with (go_at_call 59; with_reducible refine HT.out.mono ?_)
  rintro e w4 ⟨rfl, h1, h2⟩
  go_wp2
  go_ret
  exact ⟨rfl, h1, h2⟩

set_option maxHeartbeats 4000000 in
set_option maxRecDepth 100000 in
theorem node_many_base (M : Nat) (out : List UInt8) (fs : List SlotQ) (places : List Nat) (size : Nat) (hg : TabGood (fs ++ [baseQ]) places size) (k : Int) (hk40 : (k == 40) = false) (t m : ByteArray) (u : Int) (kids : Value) (hkids : ∃ a n c, kids = .slice a n c) (w : World) (h : Mk M true out w)
    (hs : ∀ W, Mk M true out W → Below w.heap.size w W → Calls Tryz.prog 57 #[.pointer (some ⟨M, 0, none⟩), .agg #[.int .i64 k, .string t, .string m, .int .u64 u, kids]] W (SlotsPost M true fs W))
    (hout : out.length + (12 + 2 * places.length + size + szSum (fs ++ [baseQ])) < 900000000) :
    Calls Tryz.prog 20 #[.pointer (some ⟨M, 0, none⟩), .agg #[.int .i64 k, .string t, .string m, .int .u64 u, kids]] w (AtPost M true (tableB ((fs ++ [baseQ]).map SlotQ.s) out).1 (tableB ((fs ++ [baseQ]).map SlotQ.s) out).2 w) := by
  obtain ⟨a, n, c, rfl⟩ := hkids
  have hM := h.lt
  have hb0 := (Below.refl w.heap.size w).alloc (Nat.le_refl _) (.cells #[.int .i64 k, .string t, .string m, .int .u64 u, .slice a n c] 25)
  have HB0 := Lib.hid hb0
  have HS := Lib.hid (hs _ (h.below hb0) hb0)
  have H := Lib.hid h
  have HG := Lib.hid hg
  have hfl : fs.length + 1 ≤ 100 := by have := hg.len; simpa using this
  clear hs h hb0 hg
  obtain ⟨TB, hTB⟩ : ∃ TB, TB = tableB ((fs ++ [baseQ]).map SlotQ.s) out := ⟨_, rfl⟩
  rw [← hTB]
  have HTB := Lib.hid hTB
  clear hTB
  go_enter Tryz.func20, Tryz.ntmps20
  go_wp2_with (go_at_call 57; with_reducible refine HS.out.mono ?_)
  rintro e w2 ⟨v, l, D, rfl, hl, hown, hb2, hD, hf⟩
  have HD := Lib.hid hD
  clear hD
  have hll : l.length = fs.length := by
    have e := congrArg List.length hl
    rw [List.length_map] at e
    exact e
  have hlm : l.length + 1 ≤ maxLen := by unfold maxLen; omega
  have hlb : (l.length + 1) * 32 ≤ 140737488355328 := by omega
  have hb12 : Below w.heap.size w w2 := HB0.out.trans (hb2.mono HB0.out.size)
  have hm2 : Mk M true out w2 := H.out.below hb12
  obtain ⟨_, _, _, c1, _⟩ := hm2.form
  obtain ⟨i0, hi0, hz0, hz1, hz2⟩ := info_parts slot_info
  have HOW := Lib.hid hown
  have HLM := Lib.hid hlm
  have HLB := Lib.hid hlb
  have HF := Lib.hid hf
  have HM2 := Lib.hid hm2
  have HB12 := Lib.hid hb12
  have HL := Lib.hid hl
  have hMl := hm2.lt
  have hbox : w2.cell? ⟨w.heap.size, 0, none⟩ = some (.int .i64 k) := (hb2.cell (p := ⟨w.heap.size, 0, none⟩) (by show w.heap.size < (w.alloc _).heap.size; rw [alloc_size]; omega)).trans (by rw [Lib.cell_of_heap (heap_alloc_new w _)]; rfl)
  clear hown hb2 hf hb12 hm2 hll hl hlm hlb
  go_wp2_with (at_builtin; refine wpList_append_own2 rfl _ _ 248 rfl (w.heap.size + 1) 253 i0 _ 4 32 Tryz.underlying248 hi0 hz0 hz1 hz2 rfl (by decide) v l.length (slotCells l) rfl ?own ⟨w2.heap.size, 0, none⟩ 1 1 [.int .i64 0, .int .i64 4, .int .u64 0, .func (.func 58) #[] #[]] rfl rfl ?c2 ?c3 HLM.out HLB.out ?c4 ?_)
  case own =>
    have h1 := HOW.out
    rw [alloc_size] at h1
    exact World.ownsRow.kept h1 (grownBy_below ((Below.refl _ w2).alloc (Nat.le_refl _) _)) (hown_or h1)
  case c2 => exact World.news_of_block (cs := #[.int .i64 0, .int .i64 4, .int .u64 0, .func (.func 58) #[] #[]]) (t := 253) (fr := (0, 0)) (heap_alloc_new w2 _)
  case c3 => intro x hx; simp at hx; rcases hx with rfl | rfl | rfl | rfl <;> rfl
  case c4 => exact Nat.le_trans (by have := HOW.out; have h2 := HB12.out.size; rw [alloc_size]; omega) (Nat.le_refl _)
  intro v' w5 hown hg5 hgb
  have hal := (Below.refl w2.heap.size w2).alloc (Nat.le_refl _) (.cells #[.int .i64 0, .int .i64 4, .int .u64 0, .func (.func 58) #[] #[]] 253)
  have hwk : ∀ r, v.ownBlock = some r → w.heap.size ≤ r := fun r hr => by
    have h1 := (HOW.out.lt r hr).1
    rw [alloc_size] at h1
    omega
  have hb5 : Below w.heap.size w w5 := (HB12.out.alloc HB12.out.size _).grown hg5 (HB12.out.alloc HB12.out.size _).size hwk
  have hm5 : Mk M true out w5 := H.out.below hb5
  have hMv : v.ownBlock ≠ some M := fun e => by have := hwk M e; omega
  have hob5 : ∀ r, v'.ownBlock = some r → MkOther M r w5 := fun r hr => MkAt.newer (w' := w5) H.out (by have := (hown.lt r hr).1; omega) (hb5.cell (p := ⟨M, 0, none⟩) hM)
  have hf5 : ∀ p ∈ l ++ [(baseQ, .func (.func 58) #[] #[])], FnOk M true w5 p.2 p.1.s p.1.sz := fun p hp => by
    rcases List.mem_append.1 hp with h1 | h1
    · refine HF.out p h1 w5 fun r hr => ?_
      obtain ⟨d1, d2, d3⟩ := HD.out r hr
      refine ⟨(hg5.block r (Nat.lt_of_lt_of_le d1 hal.size) (fun e => d3 e.symm)).trans (Below.heap_alloc _ _ _ d1), d2.1, fun x hx => d2.2 x ?_⟩
      rw [← hx]
      have e1 : (w2.alloc (.cells #[.int .i64 0, .int .i64 4, .int .u64 0, .func (.func 58) #[] #[]] 253)).heap[M]? = w2.heap[M]? := Below.heap_alloc _ _ _ hMl
      exact (World.cell?_of_block ((hg5.block M (Nat.lt_of_lt_of_le hMl hal.size) (fun e => hMv e.symm)).trans e1)).symm
    · rw [List.mem_singleton] at h1
      rw [h1]
      exact ⟨_, _, rfl, fun args W => Tryz.call58 args W, fun W o1 _ h1 h2 => base_ref M true o1 h2 W h1⟩
  have hl5 : (l ++ [(baseQ, Value.func (.func 58) #[] #[])]).map Prod.fst = fs ++ [baseQ] := by rw [List.map_append, HL.out]; rfl
  have hown5 : w5.ownsRow (w.heap.size + 1) 253 4 v' (l ++ [(baseQ, Value.func (.func 58) #[] #[])]).length (slotCells (l ++ [(baseQ, Value.func (.func 58) #[] #[])])) := by
    rw [slotCells_append, List.length_append]
    exact hown
  have hmv5 := moves_below hM hb5
  have HT : Hid (Calls Tryz.prog 59 #[.pointer (some ⟨M, 0, none⟩), v'] w5 fun e w' => e = .returned (.int .i64 TB.2) ∧ Mk M true TB.1 w' ∧ Moves M w w') := Lib.hid (by
    rw [HTB.out]
    refine (table_row (fs ++ [baseQ]) places size HG.out M true out _ hl5 (by simp) v' _ w5 hm5 hown5 hob5 hf5 hout).mono ?_
    rintro e w' ⟨h1, h2, h3⟩
    exact ⟨h1, h2, hmv5.trans h3⟩)
  clear hown hg5 hgb hal hb5 hm5 hob5 hf5 hl5 hown5 hmv5 hwk hMv
  go_wp2_with (go_at_call 59; with_reducible refine HT.out.mono ?_)
  rintro e w6 ⟨rfl, h1, h2⟩
  go_wp2
  go_ret
  exact ⟨rfl, h1, h2⟩

end Go.Proofs.YtdillheepidncaaGreatDoor
