/- impl: types out of buffers. -/
import Derived.Test.YtgceklahjdbipaaGreatDoorTyReads
import Derived.Test.YtgceklahjdbipaaGreatDoorKidEnd
namespace Go.Proofs.YtgceklahjdbipaaGreatDoor
open Go Go.RowKit
set_option linter.unusedVariables false
set_option linter.unusedSimpArgs false

/-- impl.node's answer, part by part. -/
def GivesX (k : Int) (t m : ByteArray) (u : Int) (ks : List Tr) (w : World) (e : Ending) (w' : World) : Prop :=
  ∃ a c, e = .returned (.agg #[.int .i64 k, .string t, .string m, .int .u64 u, .slice a ks.length c]) ∧ NodeIn w' (fun r => w.heap.size ≤ r ∧ r < w'.heap.size) (.mk k t m u ks) (nodeU k t m u a ks.length c) ∧ Below w.heap.size w w'

/-- A tree is returned, and true. -/
def TyRes (k : Int) (t m : ByteArray) (u : Int) (ks : List Tr) (w : World) (e : Ending) (w' : World) : Prop :=
  ∃ a c, e = .returned (.tuple #[.agg #[.int .i64 k, .string t, .string m, .int .u64 u, .slice a ks.length c], .bool true]) ∧ NodeIn w' (· < w'.heap.size) (.mk k t m u ks) (nodeU k t m u a ks.length c) ∧ Below w.heap.size w w'

set_option maxHeartbeats 4000000 in
set_option maxRecDepth 100000 in
theorem bufDictType_any (g L c q : Nat) (bs : List UInt8) (hr : rd bs 0 4 = q) (hq4 : q + 4 ≤ bs.length) (k : Int) (t m : ByteArray) (u : Int) (ks : List Tr) (hq : ∀ b g L c W, TabAt b g L c q bs W → Calls Tryz.prog 20 #[.agg #[.pointer none, .slice none 0 0, .slice none 0 0, .nilIface, .nilIface], .pointer (some ⟨b, 0, none⟩)] W (MadeP 38 (.mk k t m u ks) W)) (w : World) (h : RowAt g L c bs w) :
    Calls Tryz.prog 9 #[.slice (some ⟨g, 0, none⟩) L c] w (TyRes k t m u ks w) := by
  obtain ⟨i0, hi, hz0, hz1, hz2⟩ := byte_info
  have hb1 := (Below.refl w.heap.size w).alloc (Nat.le_refl _) (.cells #[.int .i64 0, .string ⟨#[]⟩, .string ⟨#[]⟩, .int .u64 0, .slice none 0 0] 25)
  have hb2 := hb1.alloc hb1.size (.cells #[.bool false] 4)
  have hb3 := hb2.alloc hb2.size (.cells #[] 5)
  have hs1 : (w.alloc (.cells #[.int .i64 0, .string ⟨#[]⟩, .string ⟨#[]⟩, .int .u64 0, .slice none 0 0] 25)).heap.size = w.heap.size + 1 := alloc_size _ _
  have hs2 : ((w.alloc (.cells #[.int .i64 0, .string ⟨#[]⟩, .string ⟨#[]⟩, .int .u64 0, .slice none 0 0] 25)).alloc (.cells #[.bool false] 4)).heap.size = w.heap.size + 1 + 1 := by rw [alloc_size, hs1]
  have hown0 := own_empty ((w.alloc (.cells #[.int .i64 0, .string ⟨#[]⟩, .string ⟨#[]⟩, .int .u64 0, .slice none 0 0] 25)).alloc (.cells #[.bool false] 4)) 5 w.heap.size hb2.size
  rw [hs2] at hown0
  have hn0 : (((w.alloc (.cells #[.int .i64 0, .string ⟨#[]⟩, .string ⟨#[]⟩, .int .u64 0, .slice none 0 0] 25)).alloc (.cells #[.bool false] 4)).alloc (.cells #[] 5)).heap[w.heap.size]? = _ :=
    (Below.heap_alloc _ _ _ (by rw [hs2]; omega)).trans ((Below.heap_alloc _ _ _ (by rw [hs1]; omega)).trans (heap_alloc_new w _))
  have hn1 : (((w.alloc (.cells #[.int .i64 0, .string ⟨#[]⟩, .string ⟨#[]⟩, .int .u64 0, .slice none 0 0] 25)).alloc (.cells #[.bool false] 4)).alloc (.cells #[] 5)).heap[w.heap.size + 1]? = some (.cells #[.bool false] 4 (0, 0)) := by
    rw [Below.heap_alloc _ _ _ (by rw [hs2]; omega), ← hs1]
    exact heap_alloc_new _ _
  have hnews : ∀ (j : Nat) u, (Lib.byteCells bs)[j]? = some u → (((w.alloc (.cells #[.int .i64 0, .string ⟨#[]⟩, .string ⟨#[]⟩, .int .u64 0, .slice none 0 0] 25)).alloc (.cells #[.bool false] 4)).alloc (.cells #[] 5)).cell? ((⟨g, 0, none⟩ : Addr).add j) = some u := fun j u hu => by
    have h1 := row_bytes h.row j u hu
    rw [show (⟨g, 0, none⟩ : Addr).add j = ⟨g, j, none⟩ by unfold Addr.add; split <;> simp_all] at h1 ⊢
    exact (hb3.cell (p := ⟨g, j, none⟩) h.gl).trans h1
  have hbig := h.big
  have hlen := h.len
  have hL0 : 0 < L := by omega
  have hL4 : 4 ≤ L := by omega
  have hqL : q ≤ L := by omega
  have hmx : 0 + L ≤ maxLen := by unfold maxLen; omega
  have hbl : (0 + L) * 1 ≤ 140737488355328 := by omega
  have HQ := Lib.hid hq
  have HB3 := Lib.hid hb3
  have HN0 := Lib.hid hn0
  have HN1 := Lib.hid hn1
  have HR := Lib.hid hr
  have HOW := Lib.hid hown0
  have HNW := Lib.hid hnews
  have HL := Lib.hid hlen
  clear hr hq hq4 h hb1 hb2 hb3 hs1 hs2 hn0 hn1 hown0 hnews hlen
  go_enter_defers Tryz.func9, Tryz.ntmps9
  go_wp2_with (at_builtin; refine wpList_append_own2 rfl _ _ 30 rfl w.heap.size 5 i0 _ 1 1 Tryz.underlying30 hi hz0 hz1 hz2 rfl (by decide) _ _ _ rfl HOW.out ⟨g, 0, none⟩ L c (Lib.byteCells bs) rfl ?c0 HNW.out (byteCells_one bs) hmx hbl ?c3 ?_)
  case c0 => rw [Lib.byteCells_length, HL.out, Nat.mul_one]
  case c3 => exact HB3.out.size
  intro v' w5 hown' hgrow _

  have hb5 := HB3.out.grown hgrow HB3.out.size (fun k e => (HOW.out.lt k e).1)
  have hn5 := (hgrow.block _ (Array.getElem?_eq_some_iff.1 HN0.out).1 (by intro e; have e2 : w.heap.size = w.heap.size + 1 + 1 := Option.some.inj e; omega)).trans HN0.out
  have hm5 := (hgrow.block _ (Array.getElem?_eq_some_iff.1 HN1.out).1 (by intro e; have e2 : w.heap.size + 1 = w.heap.size + 1 + 1 := Option.some.inj e; omega)).trans HN1.out
  obtain ⟨g5, c5, rfl, hg5, hc5, hlt5⟩ := row_form hown' (by omega)
  have hr5 : RowAt g5 L c5 bs w5 := ⟨bytes_row (hown'.cells (g := g5) rfl), HL.out, hc5, hbig, hlt5⟩
  have HG := Lib.hid (rootDictType g5 L c5 q bs HR.out hqL hL4 w5 hr5)
  have HB5 := Lib.hid hb5
  have HN5 := Lib.hid hn5
  have HM5 := Lib.hid hm5
  clear hown' hgrow hb5 hn5 hm5 hr5 HNW HOW HN0 HN1 HB3
  go_wp2_with fail
  ((with_reducible refine HG.out.mono ?_))
  rintro e w6 ⟨r6, rfl, hr6, ht6, hb6⟩
  have HF := Lib.hid (HQ.out r6 g5 L c5 w6 ht6)
  have HB6 := Lib.hid (HB5.out.trans (hb6.mono HB5.out.size))
  have HN6 := Lib.hid ((hb6.block _ (Array.getElem?_eq_some_iff.1 HN5.out).1).trans HN5.out)
  have HM6 := Lib.hid ((hb6.block _ (Array.getElem?_eq_some_iff.1 HM5.out).1).trans HM5.out)
  clear hb6 ht6 hr6
  go_wp2_with fail
  ((with_reducible refine HF.out.mono ?_))
  rintro e w7 ⟨r7, rfl, hr7, hg7, hb7⟩
  have HD : Hid (Calls Tryz.prog 19 #[.iface 38 (.pointer (some ⟨r7, 0, none⟩))] w7 (GivesX k t m u ks w7)) := Lib.hid (hg7.now (Below.refl _ _))
  have HB7 := Lib.hid (HB6.out.trans (hb7.mono HB6.out.size))
  have HN7 := Lib.hid ((hb7.block _ (Array.getElem?_eq_some_iff.1 HN6.out).1).trans HN6.out)
  have HM7 := Lib.hid ((hb7.block _ (Array.getElem?_eq_some_iff.1 HM6.out).1).trans HM6.out)
  clear hb7 hg7 hr7
  go_wp2_with fail
  ((with_reducible refine HD.out.mono ?_))
  rintro e w8 ⟨a8, c8, rfl, hk8, hb8⟩
  have hl0 := (Array.getElem?_eq_some_iff.1 HN7.out).1
  have hl1 := (Array.getElem?_eq_some_iff.1 HM7.out).1
  have HK8 : Hid (NodeIn w8 (fun r => w.heap.size + 1 < r ∧ r < w8.heap.size) (.mk k t m u ks) (nodeU k t m u a8 ks.length c8)) := Lib.hid (hk8.mono fun r hr => ⟨by omega, hr.2⟩)
  have HB8 := Lib.hid (HB7.out.trans (hb8.mono HB7.out.size))
  have hn8 : w8.heap[w.heap.size]? = some (.cells #[.int .i64 0, .string ⟨#[]⟩, .string ⟨#[]⟩, .int .u64 0, .slice none 0 0] 25 (0, 0)) := (hb8.block _ (Array.getElem?_eq_some_iff.1 HN7.out).1).trans HN7.out
  have hm8 : w8.heap[w.heap.size + 1]? = some (.cells #[.bool false] 4 (0, 0)) := (hb8.block _ (Array.getElem?_eq_some_iff.1 HM7.out).1).trans HM7.out
  have z0 : w8.cell? ⟨w.heap.size, 0, none⟩ = some (.int .i64 0) := by rw [Lib.cell_of_heap hn8]; rfl
  have z1 : w8.cell? ⟨w.heap.size, 1, none⟩ = some (.string ⟨#[]⟩) := by rw [Lib.cell_of_heap hn8]; rfl
  have z2 : w8.cell? ⟨w.heap.size, 2, none⟩ = some (.string ⟨#[]⟩) := by rw [Lib.cell_of_heap hn8]; rfl
  have z3 : w8.cell? ⟨w.heap.size, 3, none⟩ = some (.int .u64 0) := by rw [Lib.cell_of_heap hn8]; rfl
  have z4 : w8.cell? ⟨w.heap.size, 4, none⟩ = some (.slice none 0 0) := by rw [Lib.cell_of_heap hn8]; rfl
  have zz : w8.cell? ⟨w.heap.size + 1, 0, none⟩ = some (.bool false) := by rw [Lib.cell_of_heap hm8]; rfl
  have y0 := Lib.frozen_of_heap hn8 0
  have y1 := Lib.frozen_of_heap hn8 1
  have y2 := Lib.frozen_of_heap hn8 2
  have y3 := Lib.frozen_of_heap hn8 3
  have y4 := Lib.frozen_of_heap hn8 4
  have yy := Lib.frozen_of_heap hm8 0
  have HN8 := Lib.hid hn8
  have HM8 := Lib.hid hm8
  clear hb8 hn8 hm8 hk8 hl0 hl1
  go_wp2_with fail
  obtain ⟨u0, u1, u2⟩ := impl_end HB8.out HN8.out HM8.out (.int .i64 k) (.string t) (.string m) (.int .u64 u) (.slice a8 ks.length c8) (.bool true)
  have u4 : ((((((w8.setCell ⟨w.heap.size, 0, none⟩ (.int .i64 k)).setCell ⟨w.heap.size, 1, none⟩ (.string t)).setCell ⟨w.heap.size, 2, none⟩ (.string m)).setCell ⟨w.heap.size, 3, none⟩ (.int .u64 u)).setCell ⟨w.heap.size, 4, none⟩ (.slice a8 ks.length c8)).setCell ⟨w.heap.size + 1, 0, none⟩ (.bool true)).heap.size = w8.heap.size := by simp [World.setCell]
  have u3 : NodeIn ((((((w8.setCell ⟨w.heap.size, 0, none⟩ (.int .i64 k)).setCell ⟨w.heap.size, 1, none⟩ (.string t)).setCell ⟨w.heap.size, 2, none⟩ (.string m)).setCell ⟨w.heap.size, 3, none⟩ (.int .u64 u)).setCell ⟨w.heap.size, 4, none⟩ (.slice a8 ks.length c8)).setCell ⟨w.heap.size + 1, 0, none⟩ (.bool true)) (· < ((((((w8.setCell ⟨w.heap.size, 0, none⟩ (.int .i64 k)).setCell ⟨w.heap.size, 1, none⟩ (.string t)).setCell ⟨w.heap.size, 2, none⟩ (.string m)).setCell ⟨w.heap.size, 3, none⟩ (.int .u64 u)).setCell ⟨w.heap.size, 4, none⟩ (.slice a8 ks.length c8)).setCell ⟨w.heap.size + 1, 0, none⟩ (.bool true)).heap.size) (.mk k t m u ks) (nodeU k t m u a8 ks.length c8) := by
    rw [u4]
    refine NodeIn.mono (B := fun r => w.heap.size + 1 < r ∧ r < w8.heap.size) (fun r hr => hr.2) (NodeIn.keep (w := w8) (fun r hr => ?_) HK8.out)
    exact impl_end_other (by omega) (by omega) (.int .i64 k) (.string t) (.string m) (.int .u64 u) (.slice a8 ks.length c8) (.bool true)
  generalize ((((((w8.setCell ⟨w.heap.size, 0, none⟩ (.int .i64 k)).setCell ⟨w.heap.size, 1, none⟩ (.string t)).setCell ⟨w.heap.size, 2, none⟩ (.string m)).setCell ⟨w.heap.size, 3, none⟩ (.int .u64 u)).setCell ⟨w.heap.size, 4, none⟩ (.slice a8 ks.length c8)).setCell ⟨w.heap.size + 1, 0, none⟩ (.bool true)) = F at *
  have hpost : TyRes k t m u ks w (.returned (.tuple #[.agg #[.int .i64 k, .string t, .string m, .int .u64 u, .slice a8 ks.length c8], .bool true])) F := ⟨a8, c8, rfl, u3, u2⟩
  have HU2 := Lib.hid hpost
  clear hpost u3 u4
  refine leaves_cons (f := 18) (args := #[.pointer (some ⟨w.heap.size, 0, none⟩), .pointer (some ⟨w.heap.size + 1, 0, none⟩)]) (by simp) (by simp [go_sem]) ?_
  refine (noNode_idle (some ⟨w.heap.size, 0, none⟩) (some ⟨w.heap.size + 1, 0, none⟩) F).mono ?_
  rintro e u' w'' ⟨rfl, rfl, rfl⟩
  have q0 : w''.cell? ⟨w.heap.size, 0, none⟩ = some (.int .i64 k) := by rw [Lib.cell_of_heap u0]; rfl
  have q1 : w''.cell? ⟨w.heap.size, 1, none⟩ = some (.string t) := by rw [Lib.cell_of_heap u0]; rfl
  have q2 : w''.cell? ⟨w.heap.size, 2, none⟩ = some (.string m) := by rw [Lib.cell_of_heap u0]; rfl
  have q3 : w''.cell? ⟨w.heap.size, 3, none⟩ = some (.int .u64 u) := by rw [Lib.cell_of_heap u0]; rfl
  have q4 : w''.cell? ⟨w.heap.size, 4, none⟩ = some (.slice a8 ks.length c8) := by rw [Lib.cell_of_heap u0]; rfl
  have q5 : w''.cell? ⟨w.heap.size + 1, 0, none⟩ = some (.bool true) := by rw [Lib.cell_of_heap u1]; rfl
  clear u0 u1 u2
  generalize TyRes k t m u ks w = PP at HU2
  simp [Leaves, settle, results, Tryz.results9, go_sem, q0, q1, q2, q3, q4, q5]
  exact HU2.out


set_option maxHeartbeats 4000000 in
set_option maxRecDepth 100000 in
theorem bufParameterType_any (g L c q : Nat) (bs : List UInt8) (hr : rd bs 0 4 = q) (hq4 : q + 4 ≤ bs.length) (k : Int) (t m : ByteArray) (u : Int) (ks : List Tr) (hq : ∀ b g L c W, TabAt b g L c q bs W → Calls Tryz.prog 25 #[.agg #[.pointer none, .slice none 0 0, .slice none 0 0, .pointer none, .nilIface, .string ⟨#[]⟩], .pointer (some ⟨b, 0, none⟩)] W (MadeP 59 (.mk k t m u ks) W)) (w : World) (h : RowAt g L c bs w) :
    Calls Tryz.prog 12 #[.slice (some ⟨g, 0, none⟩) L c] w (TyRes k t m u ks w) := by
  obtain ⟨i0, hi, hz0, hz1, hz2⟩ := byte_info
  have hb1 := (Below.refl w.heap.size w).alloc (Nat.le_refl _) (.cells #[.int .i64 0, .string ⟨#[]⟩, .string ⟨#[]⟩, .int .u64 0, .slice none 0 0] 25)
  have hb2 := hb1.alloc hb1.size (.cells #[.bool false] 4)
  have hb3 := hb2.alloc hb2.size (.cells #[] 5)
  have hs1 : (w.alloc (.cells #[.int .i64 0, .string ⟨#[]⟩, .string ⟨#[]⟩, .int .u64 0, .slice none 0 0] 25)).heap.size = w.heap.size + 1 := alloc_size _ _
  have hs2 : ((w.alloc (.cells #[.int .i64 0, .string ⟨#[]⟩, .string ⟨#[]⟩, .int .u64 0, .slice none 0 0] 25)).alloc (.cells #[.bool false] 4)).heap.size = w.heap.size + 1 + 1 := by rw [alloc_size, hs1]
  have hown0 := own_empty ((w.alloc (.cells #[.int .i64 0, .string ⟨#[]⟩, .string ⟨#[]⟩, .int .u64 0, .slice none 0 0] 25)).alloc (.cells #[.bool false] 4)) 5 w.heap.size hb2.size
  rw [hs2] at hown0
  have hn0 : (((w.alloc (.cells #[.int .i64 0, .string ⟨#[]⟩, .string ⟨#[]⟩, .int .u64 0, .slice none 0 0] 25)).alloc (.cells #[.bool false] 4)).alloc (.cells #[] 5)).heap[w.heap.size]? = _ :=
    (Below.heap_alloc _ _ _ (by rw [hs2]; omega)).trans ((Below.heap_alloc _ _ _ (by rw [hs1]; omega)).trans (heap_alloc_new w _))
  have hn1 : (((w.alloc (.cells #[.int .i64 0, .string ⟨#[]⟩, .string ⟨#[]⟩, .int .u64 0, .slice none 0 0] 25)).alloc (.cells #[.bool false] 4)).alloc (.cells #[] 5)).heap[w.heap.size + 1]? = some (.cells #[.bool false] 4 (0, 0)) := by
    rw [Below.heap_alloc _ _ _ (by rw [hs2]; omega), ← hs1]
    exact heap_alloc_new _ _
  have hnews : ∀ (j : Nat) u, (Lib.byteCells bs)[j]? = some u → (((w.alloc (.cells #[.int .i64 0, .string ⟨#[]⟩, .string ⟨#[]⟩, .int .u64 0, .slice none 0 0] 25)).alloc (.cells #[.bool false] 4)).alloc (.cells #[] 5)).cell? ((⟨g, 0, none⟩ : Addr).add j) = some u := fun j u hu => by
    have h1 := row_bytes h.row j u hu
    rw [show (⟨g, 0, none⟩ : Addr).add j = ⟨g, j, none⟩ by unfold Addr.add; split <;> simp_all] at h1 ⊢
    exact (hb3.cell (p := ⟨g, j, none⟩) h.gl).trans h1
  have hbig := h.big
  have hlen := h.len
  have hL0 : 0 < L := by omega
  have hL4 : 4 ≤ L := by omega
  have hqL : q ≤ L := by omega
  have hmx : 0 + L ≤ maxLen := by unfold maxLen; omega
  have hbl : (0 + L) * 1 ≤ 140737488355328 := by omega
  have HQ := Lib.hid hq
  have HB3 := Lib.hid hb3
  have HN0 := Lib.hid hn0
  have HN1 := Lib.hid hn1
  have HR := Lib.hid hr
  have HOW := Lib.hid hown0
  have HNW := Lib.hid hnews
  have HL := Lib.hid hlen
  clear hr hq hq4 h hb1 hb2 hb3 hs1 hs2 hn0 hn1 hown0 hnews hlen
  go_enter_defers Tryz.func12, Tryz.ntmps12
  go_wp2_with (at_builtin; refine wpList_append_own2 rfl _ _ 30 rfl w.heap.size 5 i0 _ 1 1 Tryz.underlying30 hi hz0 hz1 hz2 rfl (by decide) _ _ _ rfl HOW.out ⟨g, 0, none⟩ L c (Lib.byteCells bs) rfl ?c0 HNW.out (byteCells_one bs) hmx hbl ?c3 ?_)
  case c0 => rw [Lib.byteCells_length, HL.out, Nat.mul_one]
  case c3 => exact HB3.out.size
  intro v' w5 hown' hgrow _

  have hb5 := HB3.out.grown hgrow HB3.out.size (fun k e => (HOW.out.lt k e).1)
  have hn5 := (hgrow.block _ (Array.getElem?_eq_some_iff.1 HN0.out).1 (by intro e; have e2 : w.heap.size = w.heap.size + 1 + 1 := Option.some.inj e; omega)).trans HN0.out
  have hm5 := (hgrow.block _ (Array.getElem?_eq_some_iff.1 HN1.out).1 (by intro e; have e2 : w.heap.size + 1 = w.heap.size + 1 + 1 := Option.some.inj e; omega)).trans HN1.out
  obtain ⟨g5, c5, rfl, hg5, hc5, hlt5⟩ := row_form hown' (by omega)
  have hr5 : RowAt g5 L c5 bs w5 := ⟨bytes_row (hown'.cells (g := g5) rfl), HL.out, hc5, hbig, hlt5⟩
  have HG := Lib.hid (rootParameterType g5 L c5 q bs HR.out hqL hL4 w5 hr5)
  have HB5 := Lib.hid hb5
  have HN5 := Lib.hid hn5
  have HM5 := Lib.hid hm5
  clear hown' hgrow hb5 hn5 hm5 hr5 HNW HOW HN0 HN1 HB3
  go_wp2_with fail
  ((with_reducible refine HG.out.mono ?_))
  rintro e w6 ⟨r6, rfl, hr6, ht6, hb6⟩
  have HF := Lib.hid (HQ.out r6 g5 L c5 w6 ht6)
  have HB6 := Lib.hid (HB5.out.trans (hb6.mono HB5.out.size))
  have HN6 := Lib.hid ((hb6.block _ (Array.getElem?_eq_some_iff.1 HN5.out).1).trans HN5.out)
  have HM6 := Lib.hid ((hb6.block _ (Array.getElem?_eq_some_iff.1 HM5.out).1).trans HM5.out)
  clear hb6 ht6 hr6
  go_wp2_with fail
  ((with_reducible refine HF.out.mono ?_))
  rintro e w7 ⟨r7, rfl, hr7, hg7, hb7⟩
  have HD : Hid (Calls Tryz.prog 19 #[.iface 59 (.pointer (some ⟨r7, 0, none⟩))] w7 (GivesX k t m u ks w7)) := Lib.hid (hg7.now (Below.refl _ _))
  have HB7 := Lib.hid (HB6.out.trans (hb7.mono HB6.out.size))
  have HN7 := Lib.hid ((hb7.block _ (Array.getElem?_eq_some_iff.1 HN6.out).1).trans HN6.out)
  have HM7 := Lib.hid ((hb7.block _ (Array.getElem?_eq_some_iff.1 HM6.out).1).trans HM6.out)
  clear hb7 hg7 hr7
  go_wp2_with fail
  ((with_reducible refine HD.out.mono ?_))
  rintro e w8 ⟨a8, c8, rfl, hk8, hb8⟩
  have hl0 := (Array.getElem?_eq_some_iff.1 HN7.out).1
  have hl1 := (Array.getElem?_eq_some_iff.1 HM7.out).1
  have HK8 : Hid (NodeIn w8 (fun r => w.heap.size + 1 < r ∧ r < w8.heap.size) (.mk k t m u ks) (nodeU k t m u a8 ks.length c8)) := Lib.hid (hk8.mono fun r hr => ⟨by omega, hr.2⟩)
  have HB8 := Lib.hid (HB7.out.trans (hb8.mono HB7.out.size))
  have hn8 : w8.heap[w.heap.size]? = some (.cells #[.int .i64 0, .string ⟨#[]⟩, .string ⟨#[]⟩, .int .u64 0, .slice none 0 0] 25 (0, 0)) := (hb8.block _ (Array.getElem?_eq_some_iff.1 HN7.out).1).trans HN7.out
  have hm8 : w8.heap[w.heap.size + 1]? = some (.cells #[.bool false] 4 (0, 0)) := (hb8.block _ (Array.getElem?_eq_some_iff.1 HM7.out).1).trans HM7.out
  have z0 : w8.cell? ⟨w.heap.size, 0, none⟩ = some (.int .i64 0) := by rw [Lib.cell_of_heap hn8]; rfl
  have z1 : w8.cell? ⟨w.heap.size, 1, none⟩ = some (.string ⟨#[]⟩) := by rw [Lib.cell_of_heap hn8]; rfl
  have z2 : w8.cell? ⟨w.heap.size, 2, none⟩ = some (.string ⟨#[]⟩) := by rw [Lib.cell_of_heap hn8]; rfl
  have z3 : w8.cell? ⟨w.heap.size, 3, none⟩ = some (.int .u64 0) := by rw [Lib.cell_of_heap hn8]; rfl
  have z4 : w8.cell? ⟨w.heap.size, 4, none⟩ = some (.slice none 0 0) := by rw [Lib.cell_of_heap hn8]; rfl
  have zz : w8.cell? ⟨w.heap.size + 1, 0, none⟩ = some (.bool false) := by rw [Lib.cell_of_heap hm8]; rfl
  have y0 := Lib.frozen_of_heap hn8 0
  have y1 := Lib.frozen_of_heap hn8 1
  have y2 := Lib.frozen_of_heap hn8 2
  have y3 := Lib.frozen_of_heap hn8 3
  have y4 := Lib.frozen_of_heap hn8 4
  have yy := Lib.frozen_of_heap hm8 0
  have HN8 := Lib.hid hn8
  have HM8 := Lib.hid hm8
  clear hb8 hn8 hm8 hk8 hl0 hl1
  go_wp2_with fail
  obtain ⟨u0, u1, u2⟩ := impl_end HB8.out HN8.out HM8.out (.int .i64 k) (.string t) (.string m) (.int .u64 u) (.slice a8 ks.length c8) (.bool true)
  have u4 : ((((((w8.setCell ⟨w.heap.size, 0, none⟩ (.int .i64 k)).setCell ⟨w.heap.size, 1, none⟩ (.string t)).setCell ⟨w.heap.size, 2, none⟩ (.string m)).setCell ⟨w.heap.size, 3, none⟩ (.int .u64 u)).setCell ⟨w.heap.size, 4, none⟩ (.slice a8 ks.length c8)).setCell ⟨w.heap.size + 1, 0, none⟩ (.bool true)).heap.size = w8.heap.size := by simp [World.setCell]
  have u3 : NodeIn ((((((w8.setCell ⟨w.heap.size, 0, none⟩ (.int .i64 k)).setCell ⟨w.heap.size, 1, none⟩ (.string t)).setCell ⟨w.heap.size, 2, none⟩ (.string m)).setCell ⟨w.heap.size, 3, none⟩ (.int .u64 u)).setCell ⟨w.heap.size, 4, none⟩ (.slice a8 ks.length c8)).setCell ⟨w.heap.size + 1, 0, none⟩ (.bool true)) (· < ((((((w8.setCell ⟨w.heap.size, 0, none⟩ (.int .i64 k)).setCell ⟨w.heap.size, 1, none⟩ (.string t)).setCell ⟨w.heap.size, 2, none⟩ (.string m)).setCell ⟨w.heap.size, 3, none⟩ (.int .u64 u)).setCell ⟨w.heap.size, 4, none⟩ (.slice a8 ks.length c8)).setCell ⟨w.heap.size + 1, 0, none⟩ (.bool true)).heap.size) (.mk k t m u ks) (nodeU k t m u a8 ks.length c8) := by
    rw [u4]
    refine NodeIn.mono (B := fun r => w.heap.size + 1 < r ∧ r < w8.heap.size) (fun r hr => hr.2) (NodeIn.keep (w := w8) (fun r hr => ?_) HK8.out)
    exact impl_end_other (by omega) (by omega) (.int .i64 k) (.string t) (.string m) (.int .u64 u) (.slice a8 ks.length c8) (.bool true)
  generalize ((((((w8.setCell ⟨w.heap.size, 0, none⟩ (.int .i64 k)).setCell ⟨w.heap.size, 1, none⟩ (.string t)).setCell ⟨w.heap.size, 2, none⟩ (.string m)).setCell ⟨w.heap.size, 3, none⟩ (.int .u64 u)).setCell ⟨w.heap.size, 4, none⟩ (.slice a8 ks.length c8)).setCell ⟨w.heap.size + 1, 0, none⟩ (.bool true)) = F at *
  have hpost : TyRes k t m u ks w (.returned (.tuple #[.agg #[.int .i64 k, .string t, .string m, .int .u64 u, .slice a8 ks.length c8], .bool true])) F := ⟨a8, c8, rfl, u3, u2⟩
  have HU2 := Lib.hid hpost
  clear hpost u3 u4
  refine leaves_cons (f := 18) (args := #[.pointer (some ⟨w.heap.size, 0, none⟩), .pointer (some ⟨w.heap.size + 1, 0, none⟩)]) (by simp) (by simp [go_sem]) ?_
  refine (noNode_idle (some ⟨w.heap.size, 0, none⟩) (some ⟨w.heap.size + 1, 0, none⟩) F).mono ?_
  rintro e u' w'' ⟨rfl, rfl, rfl⟩
  have q0 : w''.cell? ⟨w.heap.size, 0, none⟩ = some (.int .i64 k) := by rw [Lib.cell_of_heap u0]; rfl
  have q1 : w''.cell? ⟨w.heap.size, 1, none⟩ = some (.string t) := by rw [Lib.cell_of_heap u0]; rfl
  have q2 : w''.cell? ⟨w.heap.size, 2, none⟩ = some (.string m) := by rw [Lib.cell_of_heap u0]; rfl
  have q3 : w''.cell? ⟨w.heap.size, 3, none⟩ = some (.int .u64 u) := by rw [Lib.cell_of_heap u0]; rfl
  have q4 : w''.cell? ⟨w.heap.size, 4, none⟩ = some (.slice a8 ks.length c8) := by rw [Lib.cell_of_heap u0]; rfl
  have q5 : w''.cell? ⟨w.heap.size + 1, 0, none⟩ = some (.bool true) := by rw [Lib.cell_of_heap u1]; rfl
  clear u0 u1 u2
  generalize TyRes k t m u ks w = PP at HU2
  simp [Leaves, settle, results, Tryz.results12, go_sem, q0, q1, q2, q3, q4, q5]
  exact HU2.out


set_option maxHeartbeats 4000000 in
set_option maxRecDepth 100000 in
theorem bufPropertyType_any (g L c q : Nat) (bs : List UInt8) (hr : rd bs 0 4 = q) (hq4 : q + 4 ≤ bs.length) (k : Int) (t m : ByteArray) (u : Int) (ks : List Tr) (hq : ∀ b g L c W, TabAt b g L c q bs W → Calls Tryz.prog 27 #[.agg #[.pointer none, .slice none 0 0, .slice none 0 0, .pointer none, .nilIface], .pointer (some ⟨b, 0, none⟩)] W (MadeP 67 (.mk k t m u ks) W)) (w : World) (h : RowAt g L c bs w) :
    Calls Tryz.prog 13 #[.slice (some ⟨g, 0, none⟩) L c] w (TyRes k t m u ks w) := by
  obtain ⟨i0, hi, hz0, hz1, hz2⟩ := byte_info
  have hb1 := (Below.refl w.heap.size w).alloc (Nat.le_refl _) (.cells #[.int .i64 0, .string ⟨#[]⟩, .string ⟨#[]⟩, .int .u64 0, .slice none 0 0] 25)
  have hb2 := hb1.alloc hb1.size (.cells #[.bool false] 4)
  have hb3 := hb2.alloc hb2.size (.cells #[] 5)
  have hs1 : (w.alloc (.cells #[.int .i64 0, .string ⟨#[]⟩, .string ⟨#[]⟩, .int .u64 0, .slice none 0 0] 25)).heap.size = w.heap.size + 1 := alloc_size _ _
  have hs2 : ((w.alloc (.cells #[.int .i64 0, .string ⟨#[]⟩, .string ⟨#[]⟩, .int .u64 0, .slice none 0 0] 25)).alloc (.cells #[.bool false] 4)).heap.size = w.heap.size + 1 + 1 := by rw [alloc_size, hs1]
  have hown0 := own_empty ((w.alloc (.cells #[.int .i64 0, .string ⟨#[]⟩, .string ⟨#[]⟩, .int .u64 0, .slice none 0 0] 25)).alloc (.cells #[.bool false] 4)) 5 w.heap.size hb2.size
  rw [hs2] at hown0
  have hn0 : (((w.alloc (.cells #[.int .i64 0, .string ⟨#[]⟩, .string ⟨#[]⟩, .int .u64 0, .slice none 0 0] 25)).alloc (.cells #[.bool false] 4)).alloc (.cells #[] 5)).heap[w.heap.size]? = _ :=
    (Below.heap_alloc _ _ _ (by rw [hs2]; omega)).trans ((Below.heap_alloc _ _ _ (by rw [hs1]; omega)).trans (heap_alloc_new w _))
  have hn1 : (((w.alloc (.cells #[.int .i64 0, .string ⟨#[]⟩, .string ⟨#[]⟩, .int .u64 0, .slice none 0 0] 25)).alloc (.cells #[.bool false] 4)).alloc (.cells #[] 5)).heap[w.heap.size + 1]? = some (.cells #[.bool false] 4 (0, 0)) := by
    rw [Below.heap_alloc _ _ _ (by rw [hs2]; omega), ← hs1]
    exact heap_alloc_new _ _
  have hnews : ∀ (j : Nat) u, (Lib.byteCells bs)[j]? = some u → (((w.alloc (.cells #[.int .i64 0, .string ⟨#[]⟩, .string ⟨#[]⟩, .int .u64 0, .slice none 0 0] 25)).alloc (.cells #[.bool false] 4)).alloc (.cells #[] 5)).cell? ((⟨g, 0, none⟩ : Addr).add j) = some u := fun j u hu => by
    have h1 := row_bytes h.row j u hu
    rw [show (⟨g, 0, none⟩ : Addr).add j = ⟨g, j, none⟩ by unfold Addr.add; split <;> simp_all] at h1 ⊢
    exact (hb3.cell (p := ⟨g, j, none⟩) h.gl).trans h1
  have hbig := h.big
  have hlen := h.len
  have hL0 : 0 < L := by omega
  have hL4 : 4 ≤ L := by omega
  have hqL : q ≤ L := by omega
  have hmx : 0 + L ≤ maxLen := by unfold maxLen; omega
  have hbl : (0 + L) * 1 ≤ 140737488355328 := by omega
  have HQ := Lib.hid hq
  have HB3 := Lib.hid hb3
  have HN0 := Lib.hid hn0
  have HN1 := Lib.hid hn1
  have HR := Lib.hid hr
  have HOW := Lib.hid hown0
  have HNW := Lib.hid hnews
  have HL := Lib.hid hlen
  clear hr hq hq4 h hb1 hb2 hb3 hs1 hs2 hn0 hn1 hown0 hnews hlen
  go_enter_defers Tryz.func13, Tryz.ntmps13
  go_wp2_with (at_builtin; refine wpList_append_own2 rfl _ _ 30 rfl w.heap.size 5 i0 _ 1 1 Tryz.underlying30 hi hz0 hz1 hz2 rfl (by decide) _ _ _ rfl HOW.out ⟨g, 0, none⟩ L c (Lib.byteCells bs) rfl ?c0 HNW.out (byteCells_one bs) hmx hbl ?c3 ?_)
  case c0 => rw [Lib.byteCells_length, HL.out, Nat.mul_one]
  case c3 => exact HB3.out.size
  intro v' w5 hown' hgrow _

  have hb5 := HB3.out.grown hgrow HB3.out.size (fun k e => (HOW.out.lt k e).1)
  have hn5 := (hgrow.block _ (Array.getElem?_eq_some_iff.1 HN0.out).1 (by intro e; have e2 : w.heap.size = w.heap.size + 1 + 1 := Option.some.inj e; omega)).trans HN0.out
  have hm5 := (hgrow.block _ (Array.getElem?_eq_some_iff.1 HN1.out).1 (by intro e; have e2 : w.heap.size + 1 = w.heap.size + 1 + 1 := Option.some.inj e; omega)).trans HN1.out
  obtain ⟨g5, c5, rfl, hg5, hc5, hlt5⟩ := row_form hown' (by omega)
  have hr5 : RowAt g5 L c5 bs w5 := ⟨bytes_row (hown'.cells (g := g5) rfl), HL.out, hc5, hbig, hlt5⟩
  have HG := Lib.hid (rootPropertyType g5 L c5 q bs HR.out hqL hL4 w5 hr5)
  have HB5 := Lib.hid hb5
  have HN5 := Lib.hid hn5
  have HM5 := Lib.hid hm5
  clear hown' hgrow hb5 hn5 hm5 hr5 HNW HOW HN0 HN1 HB3
  go_wp2_with fail
  ((with_reducible refine HG.out.mono ?_))
  rintro e w6 ⟨r6, rfl, hr6, ht6, hb6⟩
  have HF := Lib.hid (HQ.out r6 g5 L c5 w6 ht6)
  have HB6 := Lib.hid (HB5.out.trans (hb6.mono HB5.out.size))
  have HN6 := Lib.hid ((hb6.block _ (Array.getElem?_eq_some_iff.1 HN5.out).1).trans HN5.out)
  have HM6 := Lib.hid ((hb6.block _ (Array.getElem?_eq_some_iff.1 HM5.out).1).trans HM5.out)
  clear hb6 ht6 hr6
  go_wp2_with fail
  ((with_reducible refine HF.out.mono ?_))
  rintro e w7 ⟨r7, rfl, hr7, hg7, hb7⟩
  have HD : Hid (Calls Tryz.prog 19 #[.iface 67 (.pointer (some ⟨r7, 0, none⟩))] w7 (GivesX k t m u ks w7)) := Lib.hid (hg7.now (Below.refl _ _))
  have HB7 := Lib.hid (HB6.out.trans (hb7.mono HB6.out.size))
  have HN7 := Lib.hid ((hb7.block _ (Array.getElem?_eq_some_iff.1 HN6.out).1).trans HN6.out)
  have HM7 := Lib.hid ((hb7.block _ (Array.getElem?_eq_some_iff.1 HM6.out).1).trans HM6.out)
  clear hb7 hg7 hr7
  go_wp2_with fail
  ((with_reducible refine HD.out.mono ?_))
  rintro e w8 ⟨a8, c8, rfl, hk8, hb8⟩
  have hl0 := (Array.getElem?_eq_some_iff.1 HN7.out).1
  have hl1 := (Array.getElem?_eq_some_iff.1 HM7.out).1
  have HK8 : Hid (NodeIn w8 (fun r => w.heap.size + 1 < r ∧ r < w8.heap.size) (.mk k t m u ks) (nodeU k t m u a8 ks.length c8)) := Lib.hid (hk8.mono fun r hr => ⟨by omega, hr.2⟩)
  have HB8 := Lib.hid (HB7.out.trans (hb8.mono HB7.out.size))
  have hn8 : w8.heap[w.heap.size]? = some (.cells #[.int .i64 0, .string ⟨#[]⟩, .string ⟨#[]⟩, .int .u64 0, .slice none 0 0] 25 (0, 0)) := (hb8.block _ (Array.getElem?_eq_some_iff.1 HN7.out).1).trans HN7.out
  have hm8 : w8.heap[w.heap.size + 1]? = some (.cells #[.bool false] 4 (0, 0)) := (hb8.block _ (Array.getElem?_eq_some_iff.1 HM7.out).1).trans HM7.out
  have z0 : w8.cell? ⟨w.heap.size, 0, none⟩ = some (.int .i64 0) := by rw [Lib.cell_of_heap hn8]; rfl
  have z1 : w8.cell? ⟨w.heap.size, 1, none⟩ = some (.string ⟨#[]⟩) := by rw [Lib.cell_of_heap hn8]; rfl
  have z2 : w8.cell? ⟨w.heap.size, 2, none⟩ = some (.string ⟨#[]⟩) := by rw [Lib.cell_of_heap hn8]; rfl
  have z3 : w8.cell? ⟨w.heap.size, 3, none⟩ = some (.int .u64 0) := by rw [Lib.cell_of_heap hn8]; rfl
  have z4 : w8.cell? ⟨w.heap.size, 4, none⟩ = some (.slice none 0 0) := by rw [Lib.cell_of_heap hn8]; rfl
  have zz : w8.cell? ⟨w.heap.size + 1, 0, none⟩ = some (.bool false) := by rw [Lib.cell_of_heap hm8]; rfl
  have y0 := Lib.frozen_of_heap hn8 0
  have y1 := Lib.frozen_of_heap hn8 1
  have y2 := Lib.frozen_of_heap hn8 2
  have y3 := Lib.frozen_of_heap hn8 3
  have y4 := Lib.frozen_of_heap hn8 4
  have yy := Lib.frozen_of_heap hm8 0
  have HN8 := Lib.hid hn8
  have HM8 := Lib.hid hm8
  clear hb8 hn8 hm8 hk8 hl0 hl1
  go_wp2_with fail
  obtain ⟨u0, u1, u2⟩ := impl_end HB8.out HN8.out HM8.out (.int .i64 k) (.string t) (.string m) (.int .u64 u) (.slice a8 ks.length c8) (.bool true)
  have u4 : ((((((w8.setCell ⟨w.heap.size, 0, none⟩ (.int .i64 k)).setCell ⟨w.heap.size, 1, none⟩ (.string t)).setCell ⟨w.heap.size, 2, none⟩ (.string m)).setCell ⟨w.heap.size, 3, none⟩ (.int .u64 u)).setCell ⟨w.heap.size, 4, none⟩ (.slice a8 ks.length c8)).setCell ⟨w.heap.size + 1, 0, none⟩ (.bool true)).heap.size = w8.heap.size := by simp [World.setCell]
  have u3 : NodeIn ((((((w8.setCell ⟨w.heap.size, 0, none⟩ (.int .i64 k)).setCell ⟨w.heap.size, 1, none⟩ (.string t)).setCell ⟨w.heap.size, 2, none⟩ (.string m)).setCell ⟨w.heap.size, 3, none⟩ (.int .u64 u)).setCell ⟨w.heap.size, 4, none⟩ (.slice a8 ks.length c8)).setCell ⟨w.heap.size + 1, 0, none⟩ (.bool true)) (· < ((((((w8.setCell ⟨w.heap.size, 0, none⟩ (.int .i64 k)).setCell ⟨w.heap.size, 1, none⟩ (.string t)).setCell ⟨w.heap.size, 2, none⟩ (.string m)).setCell ⟨w.heap.size, 3, none⟩ (.int .u64 u)).setCell ⟨w.heap.size, 4, none⟩ (.slice a8 ks.length c8)).setCell ⟨w.heap.size + 1, 0, none⟩ (.bool true)).heap.size) (.mk k t m u ks) (nodeU k t m u a8 ks.length c8) := by
    rw [u4]
    refine NodeIn.mono (B := fun r => w.heap.size + 1 < r ∧ r < w8.heap.size) (fun r hr => hr.2) (NodeIn.keep (w := w8) (fun r hr => ?_) HK8.out)
    exact impl_end_other (by omega) (by omega) (.int .i64 k) (.string t) (.string m) (.int .u64 u) (.slice a8 ks.length c8) (.bool true)
  generalize ((((((w8.setCell ⟨w.heap.size, 0, none⟩ (.int .i64 k)).setCell ⟨w.heap.size, 1, none⟩ (.string t)).setCell ⟨w.heap.size, 2, none⟩ (.string m)).setCell ⟨w.heap.size, 3, none⟩ (.int .u64 u)).setCell ⟨w.heap.size, 4, none⟩ (.slice a8 ks.length c8)).setCell ⟨w.heap.size + 1, 0, none⟩ (.bool true)) = F at *
  have hpost : TyRes k t m u ks w (.returned (.tuple #[.agg #[.int .i64 k, .string t, .string m, .int .u64 u, .slice a8 ks.length c8], .bool true])) F := ⟨a8, c8, rfl, u3, u2⟩
  have HU2 := Lib.hid hpost
  clear hpost u3 u4
  refine leaves_cons (f := 18) (args := #[.pointer (some ⟨w.heap.size, 0, none⟩), .pointer (some ⟨w.heap.size + 1, 0, none⟩)]) (by simp) (by simp [go_sem]) ?_
  refine (noNode_idle (some ⟨w.heap.size, 0, none⟩) (some ⟨w.heap.size + 1, 0, none⟩) F).mono ?_
  rintro e u' w'' ⟨rfl, rfl, rfl⟩
  have q0 : w''.cell? ⟨w.heap.size, 0, none⟩ = some (.int .i64 k) := by rw [Lib.cell_of_heap u0]; rfl
  have q1 : w''.cell? ⟨w.heap.size, 1, none⟩ = some (.string t) := by rw [Lib.cell_of_heap u0]; rfl
  have q2 : w''.cell? ⟨w.heap.size, 2, none⟩ = some (.string m) := by rw [Lib.cell_of_heap u0]; rfl
  have q3 : w''.cell? ⟨w.heap.size, 3, none⟩ = some (.int .u64 u) := by rw [Lib.cell_of_heap u0]; rfl
  have q4 : w''.cell? ⟨w.heap.size, 4, none⟩ = some (.slice a8 ks.length c8) := by rw [Lib.cell_of_heap u0]; rfl
  have q5 : w''.cell? ⟨w.heap.size + 1, 0, none⟩ = some (.bool true) := by rw [Lib.cell_of_heap u1]; rfl
  clear u0 u1 u2
  generalize TyRes k t m u ks w = PP at HU2
  simp [Leaves, settle, results, Tryz.results13, go_sem, q0, q1, q2, q3, q4, q5]
  exact HU2.out


set_option maxHeartbeats 4000000 in
set_option maxRecDepth 100000 in
theorem bufTypeExpression_any (g L c q : Nat) (bs : List UInt8) (hr : rd bs 0 4 = q) (hq4 : q + 4 ≤ bs.length) (k : Int) (t m : ByteArray) (u : Int) (ks : List Tr) (hq : ∀ b g L c W, TabAt b g L c q bs W → Calls Tryz.prog 29 #[.agg #[.pointer none, .slice none 0 0, .slice none 0 0, .nilIface, .slice none 0 0], .pointer (some ⟨b, 0, none⟩)] W (MadeP 73 (.mk k t m u ks) W)) (w : World) (h : RowAt g L c bs w) :
    Calls Tryz.prog 14 #[.slice (some ⟨g, 0, none⟩) L c] w (TyRes k t m u ks w) := by
  obtain ⟨i0, hi, hz0, hz1, hz2⟩ := byte_info
  have hb1 := (Below.refl w.heap.size w).alloc (Nat.le_refl _) (.cells #[.int .i64 0, .string ⟨#[]⟩, .string ⟨#[]⟩, .int .u64 0, .slice none 0 0] 25)
  have hb2 := hb1.alloc hb1.size (.cells #[.bool false] 4)
  have hb3 := hb2.alloc hb2.size (.cells #[] 5)
  have hs1 : (w.alloc (.cells #[.int .i64 0, .string ⟨#[]⟩, .string ⟨#[]⟩, .int .u64 0, .slice none 0 0] 25)).heap.size = w.heap.size + 1 := alloc_size _ _
  have hs2 : ((w.alloc (.cells #[.int .i64 0, .string ⟨#[]⟩, .string ⟨#[]⟩, .int .u64 0, .slice none 0 0] 25)).alloc (.cells #[.bool false] 4)).heap.size = w.heap.size + 1 + 1 := by rw [alloc_size, hs1]
  have hown0 := own_empty ((w.alloc (.cells #[.int .i64 0, .string ⟨#[]⟩, .string ⟨#[]⟩, .int .u64 0, .slice none 0 0] 25)).alloc (.cells #[.bool false] 4)) 5 w.heap.size hb2.size
  rw [hs2] at hown0
  have hn0 : (((w.alloc (.cells #[.int .i64 0, .string ⟨#[]⟩, .string ⟨#[]⟩, .int .u64 0, .slice none 0 0] 25)).alloc (.cells #[.bool false] 4)).alloc (.cells #[] 5)).heap[w.heap.size]? = _ :=
    (Below.heap_alloc _ _ _ (by rw [hs2]; omega)).trans ((Below.heap_alloc _ _ _ (by rw [hs1]; omega)).trans (heap_alloc_new w _))
  have hn1 : (((w.alloc (.cells #[.int .i64 0, .string ⟨#[]⟩, .string ⟨#[]⟩, .int .u64 0, .slice none 0 0] 25)).alloc (.cells #[.bool false] 4)).alloc (.cells #[] 5)).heap[w.heap.size + 1]? = some (.cells #[.bool false] 4 (0, 0)) := by
    rw [Below.heap_alloc _ _ _ (by rw [hs2]; omega), ← hs1]
    exact heap_alloc_new _ _
  have hnews : ∀ (j : Nat) u, (Lib.byteCells bs)[j]? = some u → (((w.alloc (.cells #[.int .i64 0, .string ⟨#[]⟩, .string ⟨#[]⟩, .int .u64 0, .slice none 0 0] 25)).alloc (.cells #[.bool false] 4)).alloc (.cells #[] 5)).cell? ((⟨g, 0, none⟩ : Addr).add j) = some u := fun j u hu => by
    have h1 := row_bytes h.row j u hu
    rw [show (⟨g, 0, none⟩ : Addr).add j = ⟨g, j, none⟩ by unfold Addr.add; split <;> simp_all] at h1 ⊢
    exact (hb3.cell (p := ⟨g, j, none⟩) h.gl).trans h1
  have hbig := h.big
  have hlen := h.len
  have hL0 : 0 < L := by omega
  have hL4 : 4 ≤ L := by omega
  have hqL : q ≤ L := by omega
  have hmx : 0 + L ≤ maxLen := by unfold maxLen; omega
  have hbl : (0 + L) * 1 ≤ 140737488355328 := by omega
  have HQ := Lib.hid hq
  have HB3 := Lib.hid hb3
  have HN0 := Lib.hid hn0
  have HN1 := Lib.hid hn1
  have HR := Lib.hid hr
  have HOW := Lib.hid hown0
  have HNW := Lib.hid hnews
  have HL := Lib.hid hlen
  clear hr hq hq4 h hb1 hb2 hb3 hs1 hs2 hn0 hn1 hown0 hnews hlen
  go_enter_defers Tryz.func14, Tryz.ntmps14
  go_wp2_with (at_builtin; refine wpList_append_own2 rfl _ _ 30 rfl w.heap.size 5 i0 _ 1 1 Tryz.underlying30 hi hz0 hz1 hz2 rfl (by decide) _ _ _ rfl HOW.out ⟨g, 0, none⟩ L c (Lib.byteCells bs) rfl ?c0 HNW.out (byteCells_one bs) hmx hbl ?c3 ?_)
  case c0 => rw [Lib.byteCells_length, HL.out, Nat.mul_one]
  case c3 => exact HB3.out.size
  intro v' w5 hown' hgrow _

  have hb5 := HB3.out.grown hgrow HB3.out.size (fun k e => (HOW.out.lt k e).1)
  have hn5 := (hgrow.block _ (Array.getElem?_eq_some_iff.1 HN0.out).1 (by intro e; have e2 : w.heap.size = w.heap.size + 1 + 1 := Option.some.inj e; omega)).trans HN0.out
  have hm5 := (hgrow.block _ (Array.getElem?_eq_some_iff.1 HN1.out).1 (by intro e; have e2 : w.heap.size + 1 = w.heap.size + 1 + 1 := Option.some.inj e; omega)).trans HN1.out
  obtain ⟨g5, c5, rfl, hg5, hc5, hlt5⟩ := row_form hown' (by omega)
  have hr5 : RowAt g5 L c5 bs w5 := ⟨bytes_row (hown'.cells (g := g5) rfl), HL.out, hc5, hbig, hlt5⟩
  have HG := Lib.hid (rootTypeExpression g5 L c5 q bs HR.out hqL hL4 w5 hr5)
  have HB5 := Lib.hid hb5
  have HN5 := Lib.hid hn5
  have HM5 := Lib.hid hm5
  clear hown' hgrow hb5 hn5 hm5 hr5 HNW HOW HN0 HN1 HB3
  go_wp2_with fail
  ((with_reducible refine HG.out.mono ?_))
  rintro e w6 ⟨r6, rfl, hr6, ht6, hb6⟩
  have HF := Lib.hid (HQ.out r6 g5 L c5 w6 ht6)
  have HB6 := Lib.hid (HB5.out.trans (hb6.mono HB5.out.size))
  have HN6 := Lib.hid ((hb6.block _ (Array.getElem?_eq_some_iff.1 HN5.out).1).trans HN5.out)
  have HM6 := Lib.hid ((hb6.block _ (Array.getElem?_eq_some_iff.1 HM5.out).1).trans HM5.out)
  clear hb6 ht6 hr6
  go_wp2_with fail
  ((with_reducible refine HF.out.mono ?_))
  rintro e w7 ⟨r7, rfl, hr7, hg7, hb7⟩
  have HD : Hid (Calls Tryz.prog 19 #[.iface 73 (.pointer (some ⟨r7, 0, none⟩))] w7 (GivesX k t m u ks w7)) := Lib.hid (hg7.now (Below.refl _ _))
  have HB7 := Lib.hid (HB6.out.trans (hb7.mono HB6.out.size))
  have HN7 := Lib.hid ((hb7.block _ (Array.getElem?_eq_some_iff.1 HN6.out).1).trans HN6.out)
  have HM7 := Lib.hid ((hb7.block _ (Array.getElem?_eq_some_iff.1 HM6.out).1).trans HM6.out)
  clear hb7 hg7 hr7
  go_wp2_with fail
  ((with_reducible refine HD.out.mono ?_))
  rintro e w8 ⟨a8, c8, rfl, hk8, hb8⟩
  have hl0 := (Array.getElem?_eq_some_iff.1 HN7.out).1
  have hl1 := (Array.getElem?_eq_some_iff.1 HM7.out).1
  have HK8 : Hid (NodeIn w8 (fun r => w.heap.size + 1 < r ∧ r < w8.heap.size) (.mk k t m u ks) (nodeU k t m u a8 ks.length c8)) := Lib.hid (hk8.mono fun r hr => ⟨by omega, hr.2⟩)
  have HB8 := Lib.hid (HB7.out.trans (hb8.mono HB7.out.size))
  have hn8 : w8.heap[w.heap.size]? = some (.cells #[.int .i64 0, .string ⟨#[]⟩, .string ⟨#[]⟩, .int .u64 0, .slice none 0 0] 25 (0, 0)) := (hb8.block _ (Array.getElem?_eq_some_iff.1 HN7.out).1).trans HN7.out
  have hm8 : w8.heap[w.heap.size + 1]? = some (.cells #[.bool false] 4 (0, 0)) := (hb8.block _ (Array.getElem?_eq_some_iff.1 HM7.out).1).trans HM7.out
  have z0 : w8.cell? ⟨w.heap.size, 0, none⟩ = some (.int .i64 0) := by rw [Lib.cell_of_heap hn8]; rfl
  have z1 : w8.cell? ⟨w.heap.size, 1, none⟩ = some (.string ⟨#[]⟩) := by rw [Lib.cell_of_heap hn8]; rfl
  have z2 : w8.cell? ⟨w.heap.size, 2, none⟩ = some (.string ⟨#[]⟩) := by rw [Lib.cell_of_heap hn8]; rfl
  have z3 : w8.cell? ⟨w.heap.size, 3, none⟩ = some (.int .u64 0) := by rw [Lib.cell_of_heap hn8]; rfl
  have z4 : w8.cell? ⟨w.heap.size, 4, none⟩ = some (.slice none 0 0) := by rw [Lib.cell_of_heap hn8]; rfl
  have zz : w8.cell? ⟨w.heap.size + 1, 0, none⟩ = some (.bool false) := by rw [Lib.cell_of_heap hm8]; rfl
  have y0 := Lib.frozen_of_heap hn8 0
  have y1 := Lib.frozen_of_heap hn8 1
  have y2 := Lib.frozen_of_heap hn8 2
  have y3 := Lib.frozen_of_heap hn8 3
  have y4 := Lib.frozen_of_heap hn8 4
  have yy := Lib.frozen_of_heap hm8 0
  have HN8 := Lib.hid hn8
  have HM8 := Lib.hid hm8
  clear hb8 hn8 hm8 hk8 hl0 hl1
  go_wp2_with fail
  obtain ⟨u0, u1, u2⟩ := impl_end HB8.out HN8.out HM8.out (.int .i64 k) (.string t) (.string m) (.int .u64 u) (.slice a8 ks.length c8) (.bool true)
  have u4 : ((((((w8.setCell ⟨w.heap.size, 0, none⟩ (.int .i64 k)).setCell ⟨w.heap.size, 1, none⟩ (.string t)).setCell ⟨w.heap.size, 2, none⟩ (.string m)).setCell ⟨w.heap.size, 3, none⟩ (.int .u64 u)).setCell ⟨w.heap.size, 4, none⟩ (.slice a8 ks.length c8)).setCell ⟨w.heap.size + 1, 0, none⟩ (.bool true)).heap.size = w8.heap.size := by simp [World.setCell]
  have u3 : NodeIn ((((((w8.setCell ⟨w.heap.size, 0, none⟩ (.int .i64 k)).setCell ⟨w.heap.size, 1, none⟩ (.string t)).setCell ⟨w.heap.size, 2, none⟩ (.string m)).setCell ⟨w.heap.size, 3, none⟩ (.int .u64 u)).setCell ⟨w.heap.size, 4, none⟩ (.slice a8 ks.length c8)).setCell ⟨w.heap.size + 1, 0, none⟩ (.bool true)) (· < ((((((w8.setCell ⟨w.heap.size, 0, none⟩ (.int .i64 k)).setCell ⟨w.heap.size, 1, none⟩ (.string t)).setCell ⟨w.heap.size, 2, none⟩ (.string m)).setCell ⟨w.heap.size, 3, none⟩ (.int .u64 u)).setCell ⟨w.heap.size, 4, none⟩ (.slice a8 ks.length c8)).setCell ⟨w.heap.size + 1, 0, none⟩ (.bool true)).heap.size) (.mk k t m u ks) (nodeU k t m u a8 ks.length c8) := by
    rw [u4]
    refine NodeIn.mono (B := fun r => w.heap.size + 1 < r ∧ r < w8.heap.size) (fun r hr => hr.2) (NodeIn.keep (w := w8) (fun r hr => ?_) HK8.out)
    exact impl_end_other (by omega) (by omega) (.int .i64 k) (.string t) (.string m) (.int .u64 u) (.slice a8 ks.length c8) (.bool true)
  generalize ((((((w8.setCell ⟨w.heap.size, 0, none⟩ (.int .i64 k)).setCell ⟨w.heap.size, 1, none⟩ (.string t)).setCell ⟨w.heap.size, 2, none⟩ (.string m)).setCell ⟨w.heap.size, 3, none⟩ (.int .u64 u)).setCell ⟨w.heap.size, 4, none⟩ (.slice a8 ks.length c8)).setCell ⟨w.heap.size + 1, 0, none⟩ (.bool true)) = F at *
  have hpost : TyRes k t m u ks w (.returned (.tuple #[.agg #[.int .i64 k, .string t, .string m, .int .u64 u, .slice a8 ks.length c8], .bool true])) F := ⟨a8, c8, rfl, u3, u2⟩
  have HU2 := Lib.hid hpost
  clear hpost u3 u4
  refine leaves_cons (f := 18) (args := #[.pointer (some ⟨w.heap.size, 0, none⟩), .pointer (some ⟨w.heap.size + 1, 0, none⟩)]) (by simp) (by simp [go_sem]) ?_
  refine (noNode_idle (some ⟨w.heap.size, 0, none⟩) (some ⟨w.heap.size + 1, 0, none⟩) F).mono ?_
  rintro e u' w'' ⟨rfl, rfl, rfl⟩
  have q0 : w''.cell? ⟨w.heap.size, 0, none⟩ = some (.int .i64 k) := by rw [Lib.cell_of_heap u0]; rfl
  have q1 : w''.cell? ⟨w.heap.size, 1, none⟩ = some (.string t) := by rw [Lib.cell_of_heap u0]; rfl
  have q2 : w''.cell? ⟨w.heap.size, 2, none⟩ = some (.string m) := by rw [Lib.cell_of_heap u0]; rfl
  have q3 : w''.cell? ⟨w.heap.size, 3, none⟩ = some (.int .u64 u) := by rw [Lib.cell_of_heap u0]; rfl
  have q4 : w''.cell? ⟨w.heap.size, 4, none⟩ = some (.slice a8 ks.length c8) := by rw [Lib.cell_of_heap u0]; rfl
  have q5 : w''.cell? ⟨w.heap.size + 1, 0, none⟩ = some (.bool true) := by rw [Lib.cell_of_heap u1]; rfl
  clear u0 u1 u2
  generalize TyRes k t m u ks w = PP at HU2
  simp [Leaves, settle, results, Tryz.results14, go_sem, q0, q1, q2, q3, q4, q5]
  exact HU2.out


end Go.Proofs.YtgceklahjdbipaaGreatDoor
