/- The maker's node of one slot. -/
import Derived.Test.YtdillheepidncaaGreatDoorMakerGood
namespace Go.Proofs.YtdillheepidncaaGreatDoor
open Go Go.RowKit
set_option linter.unusedVariables false
set_option linter.unusedSimpArgs false

set_option maxHeartbeats 4000000 in
set_option maxRecDepth 100000 in
theorem node_plain (M : Nat) (out : List UInt8) (q : SlotQ) (places : List Nat) (size : Nat) (hg : TabGood [q] places size) (k : Int) (t m : ByteArray) (u : Int) (kids : Value) (hkids : ∃ a n c, kids = .slice a n c) (w : World) (h : Mk M false out w)
    (hs : ∀ W, Mk M false out W → Calls Tryz.prog 57 #[.pointer (some ⟨M, 0, none⟩), .agg #[.int .i64 k, .string t, .string m, .int .u64 u, kids]] W (OneSlot M false q W))
    (hout : out.length + (12 + 2 * places.length + size + szSum [q]) < 900000000) :
    Calls Tryz.prog 20 #[.pointer (some ⟨M, 0, none⟩), .agg #[.int .i64 k, .string t, .string m, .int .u64 u, kids]] w (AtPost M false (tableB [q.s] out).1 (tableB [q.s] out).2 w) := by
  obtain ⟨a, n, c, rfl⟩ := hkids
  have hM := h.lt
  have hb0 := (Below.refl w.heap.size w).alloc (Nat.le_refl _) (.cells #[.int .i64 k, .string t, .string m, .int .u64 u, .slice a n c] 25)
  have HB0 := Lib.hid hb0
  have HS := Lib.hid (hs _ (h.below hb0))
  have H := Lib.hid h
  have HG := Lib.hid hg
  clear hs h hb0 hg
  go_enter Tryz.func20, Tryz.ntmps20
  go_wp2_with (go_at_call 57; with_reducible refine HS.out.mono ?_)
  rintro e w2 ⟨B, f, rfl, hrow, hB, hb2, hf⟩
  have hb12 : Below w.heap.size w w2 := HB0.out.trans (hb2.mono HB0.out.size)
  have hm2 : Mk M false out w2 := H.out.below hb12
  obtain ⟨_, _, _, c1, _⟩ := hm2.form
  have hob : MkOther M B w2 := MkAt.newer (w' := w2) H.out (Nat.le_trans HB0.out.size hB) (hb12.cell (p := ⟨M, 0, none⟩) hM)
  have hmv := moves_below hM hb12
  have HT : Hid (Calls Tryz.prog 59 #[.pointer (some ⟨M, 0, none⟩), .slice (some ⟨B, 0, none⟩) 1 1] w2 fun e w' => e = .returned (.int .i64 (tableB [q.s] out).2) ∧ Mk M false (tableB [q.s] out).1 w' ∧ Moves M w w') := Lib.hid (by
    have g := HG.out
    refine (table_any [q] places size g.pl g.most g.few g.s4 g.s6 g.ps g.lo g.fit g.ap g.ok g.wid g.num g.len M false out B 0 1 (fun _ => f) _ hm2 hob ⟨(Array.getElem?_eq_some_iff.1 hrow).1, fun k hk => ?_⟩ (fun k hk => ?_) hout).mono ?_
    · have hk2 : k < 1 := hk
      match k, hk2 with
      | 0, _ => refine ⟨?_, ?_, ?_, ?_⟩ <;> (rw [Lib.cell_of_heap hrow]; rfl)
    · have hk2 : k < 1 := hk
      match k, hk2 with
      | 0, _ => exact hf
    · rintro e w' ⟨h1, h2, h3⟩
      exact ⟨h1, h2, hmv.trans h3⟩)
  clear hrow hB hb2 hf hb12 hm2 hob hmv
  go_wp2_with (go_at_call 59; with_reducible refine HT.out.mono ?_)
  rintro e w4 ⟨rfl, h1, h2⟩
  go_wp2
  go_ret
  exact ⟨rfl, h1, h2⟩

end Go.Proofs.YtdillheepidncaaGreatDoor
