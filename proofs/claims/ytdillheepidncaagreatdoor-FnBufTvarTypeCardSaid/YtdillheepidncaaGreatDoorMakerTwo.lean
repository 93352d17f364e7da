/- The maker's node of one slot, with what all nodes have. -/
import Derived.Test.YtdillheepidncaaGreatDoorMakerOne
import Derived.ArgAppend
namespace Go.Proofs.YtdillheepidncaaGreatDoor
open Go Go.RowKit
set_option linter.unusedVariables false
set_option linter.unusedSimpArgs false

theorem FnOk.go {M : Nat} {base : Bool} {w w' : World} {f : Value} {s : SlotP} {sz : Nat} (h : FnOk M base w f s sz) (hm : Moves M w w') : FnOk M base w' f s sz := by
  unfold FnOk at h ⊢
  split at h
  · exact h
  · obtain ⟨fid, caps, e, hc, hcall⟩ := h
    exact ⟨fid, caps, e, hc, fun W out h1 h2 h3 => hcall W out (hm.trans h1) h2 h3⟩

theorem slot_info : (Tryz.prog.info? 253).map (fun i => (i.zero, i.size, i.bytes)) = some (some (.agg #[.int .i64 0, .int .i64 0, .int .u64 0, .nilFunc]), 4, 32) := by kernel_rfl

set_option maxHeartbeats 4000000 in
set_option maxRecDepth 100000 in
theorem node_base (M : Nat) (out : List UInt8) (q : SlotQ) (places : List Nat) (size : Nat) (hg : TabGood [q, baseQ] places size) (k : Int) (hk40 : (k == 40) = false) (t m : ByteArray) (u : Int) (kids : Value) (hkids : ∃ a n c, kids = .slice a n c) (w : World) (h : Mk M true out w)
    (hs : ∀ W, Mk M true out W → Calls Tryz.prog 57 #[.pointer (some ⟨M, 0, none⟩), .agg #[.int .i64 k, .string t, .string m, .int .u64 u, kids]] W (OneSlot M true q W))
    (hout : out.length + (12 + 2 * places.length + size + szSum [q, baseQ]) < 900000000) :
    Calls Tryz.prog 20 #[.pointer (some ⟨M, 0, none⟩), .agg #[.int .i64 k, .string t, .string m, .int .u64 u, kids]] w (AtPost M true (tableB [q.s, baseQ.s] out).1 (tableB [q.s, baseQ.s] out).2 w) := by
  obtain ⟨a, n, c, rfl⟩ := hkids
  have hM := h.lt
  have hb0 := (Below.refl w.heap.size w).alloc (Nat.le_refl _) (.cells #[.int .i64 k, .string t, .string m, .int .u64 u, .slice a n c] 25)
  have HB0 := Lib.hid hb0
  have HS := Lib.hid (hs _ (h.below hb0))
  have H := Lib.hid h
  have HG := Lib.hid hg
  clear hs h hb0 hg
  go_enter Tryz.func20, Tryz.ntmps20
  go_wp2_with (go_at_call 57; with_reducible refine HS.out.mono ?_)
  rintro e w2 ⟨B, f, rfl, hrow, hB, hb2, hf⟩
  have hb12 : Below w.heap.size w w2 := HB0.out.trans (hb2.mono HB0.out.size)
  have hm2 : Mk M true out w2 := H.out.below hb12
  obtain ⟨_, _, _, c1, _⟩ := hm2.form
  have hob : MkOther M B w2 := MkAt.newer (w' := w2) H.out (Nat.le_trans HB0.out.size hB) (hb12.cell (p := ⟨M, 0, none⟩) hM)
  obtain ⟨i0, hi0, hz0, hz1, hz2⟩ := info_parts slot_info
  have hf1 : f.oneCell' = true := by
    unfold FnOk at hf
    split at hf
    · rw [hf]; rfl
    · obtain ⟨fid, caps, e, _⟩ := hf
      rw [e]; rfl
  have HOB := Lib.hid hob
  have HROW := Lib.hid hrow
  have HF := Lib.hid hf
  have HM2 := Lib.hid hm2
  have HB12 := Lib.hid hb12
  have hMl := hm2.lt
  have hbox : w2.cell? ⟨w.heap.size, 0, none⟩ = some (.int .i64 k) := (hb2.cell (p := ⟨w.heap.size, 0, none⟩) (by show w.heap.size < (w.alloc _).heap.size; rw [alloc_size]; omega)).trans (by rw [Lib.cell_of_heap (heap_alloc_new w _)]; rfl)
  clear hrow hB hb2 hf hb12 hm2 hob
  go_wp2_with (at_builtin; refine wpList_append_grows _ rfl _ _ 248 rfl 253 i0 _ 4 32 Tryz.underlying248 hi0 hz0 hz1 hz2 rfl (by decide) (some ⟨B, 0, none⟩) 1 1 [.int .i64 q.s.idx, .int .i64 q.s.width, .int .u64 q.s.num, f] rfl (by simp) rfl ?c1 ⟨w2.heap.size, 0, none⟩ 1 1 [.int .i64 0, .int .i64 4, .int .u64 0, .func (.func 58) #[] #[]] rfl rfl ?c2 ?c3 (by decide) (by decide) (by decide) ?_)
  case c1 =>
    intro b hb j x hx
    cases hb
    exact World.news_of_block (cs := #[.int .i64 q.s.idx, .int .i64 q.s.width, .int .u64 q.s.num, f]) (t := 253) (fr := (0, 0)) ((Below.heap_alloc w2 _ _ (Array.getElem?_eq_some_iff.1 HROW.out).1).trans HROW.out) j x hx
  case c2 => exact World.news_of_block (cs := #[.int .i64 0, .int .i64 4, .int .u64 0, .func (.func 58) #[] #[]]) (t := 253) (fr := (0, 0)) (heap_alloc_new w2 _)
  case c3 => intro x hx; simp at hx; rcases hx with rfl | rfl | rfl | rfl <;> rfl
  intro v' w5 hown hg5
  have hal := (Below.refl w2.heap.size w2).alloc (Nat.le_refl _) (.cells #[.int .i64 0, .int .i64 4, .int .u64 0, .func (.func 58) #[] #[]] 253)
  have hb5 : Below w2.heap.size w2 w5 := hal.grown hg5 hal.size (by simp)
  obtain ⟨g, cp, rfl, hg1, hg2⟩ := hown.form (by decide)
  have hg1' : w2.heap.size ≤ g := by omega
  have hm5 : Mk M true out w5 := HM2.out.below hb5
  have hob5 : MkOther M g w5 := MkAt.newer (w' := w5) HM2.out hg1' (hb5.cell (p := ⟨M, 0, none⟩) hMl)
  have hmv5 := (moves_below hM HB12.out).trans (moves_below hMl hb5)
  have hf5 := HF.out.go (moves_below hMl hb5)
  have hcell := fun (j : Nat) (x : Value) (hx : ([.int .i64 q.s.idx, .int .i64 q.s.width, .int .u64 q.s.num, f] ++ [.int .i64 0, .int .i64 4, .int .u64 0, .func (.func 58) #[] #[]] : List Value)[j]? = some x) => (show w5.cell? ⟨g, 0 + j, none⟩ = some x from by have := hown.cells (g := g) rfl j x hx; rwa [show (⟨g, 0, none⟩ : Addr).add j = ⟨g, 0 + j, none⟩ by unfold Addr.add; split <;> simp_all] at this)
  have HT : Hid (Calls Tryz.prog 59 #[.pointer (some ⟨M, 0, none⟩), .slice (some ⟨g, 0, none⟩) (1 + 1) cp] w5 fun e w' => e = .returned (.int .i64 (tableB [q.s, baseQ.s] out).2) ∧ Mk M true (tableB [q.s, baseQ.s] out).1 w' ∧ Moves M w w') := Lib.hid (by
    have gg := HG.out
    refine (table_any [q, baseQ] places size gg.pl gg.most gg.few gg.s4 gg.s6 gg.ps gg.lo gg.fit gg.ap gg.ok gg.wid gg.num gg.len M true out g 0 cp (fun k => if k = 0 then f else .func (.func 58) #[] #[]) _ hm5 hob5 ⟨hg2, fun k hk => ?_⟩ (fun k hk => ?_) hout).mono ?_
    · have hk2 : k < 2 := hk
      match k, hk2 with
      | 0, _ => exact ⟨hcell 0 _ rfl, hcell 1 _ rfl, hcell 2 _ rfl, hcell 3 _ rfl⟩
      | 1, _ => exact ⟨hcell 4 _ rfl, hcell 5 _ rfl, hcell 6 _ rfl, hcell 7 _ rfl⟩
    · have hk2 : k < 2 := hk
      match k, hk2 with
      | 0, _ => exact hf5
      | 1, _ => exact ⟨_, _, rfl, fun args W => Tryz.call58 args W, fun W o1 _ h1 h2 => base_ref M true o1 h2 W h1⟩
    · rintro e w' ⟨h1, h2, h3⟩
      exact ⟨h1, h2, hmv5.trans h3⟩)
  clear hown hg5 hal hb5 hg1 hg2 hg1' hm5 hob5 hmv5 hf5 hcell
  go_wp2_with (go_at_call 59; with_reducible refine HT.out.mono ?_)
  rintro e w6 ⟨rfl, h1, h2⟩
  go_wp2
  go_ret
  exact ⟨rfl, h1, h2⟩

end Go.Proofs.YtdillheepidncaaGreatDoor
