/- spec.Same: a tree is the same as itself, wherever it lies. -/
import Derived.Test.YtdillheepidncaaGreatDoorClass
import Derived.Test.YtdillheepidncaaGreatDoorFields
namespace Go.Proofs.YtdillheepidncaaGreatDoor
open Go Go.RowKit
set_option linter.unusedVariables false

theorem NodeIn.drew {w : World} {B : Nat → Prop} {t : Tr} {v : Value} (h : NodeIn w B t v) : NodeIn w.drew B t v := NodeIn.keep (w := w) (w' := w.drew) (B := B) (fun _ _ => rfl) h
theorem below_cell {w w' : World} (hb : Below w.heap.size w w') {a : Addr} {v : Value} (h : w.cell? a = some v) : w'.cell? a = some v := (hb.cell (p := a) (cell_lt h)).trans h

def SamePost (w : World) (e : Ending) (w' : World) : Prop := e = .returned (.bool true) ∧ Below w.heap.size w w'

set_option maxHeartbeats 4000000 in
set_option maxRecDepth 100000 in
theorem same_refl (t : Tr) : ∀ (v1 v2 : Value) (N : Nat) (w : World), NodeIn w (· < N) t v1 → NodeIn w (· < N) t v2 → N ≤ w.heap.size →
    Calls Tryz.prog 10 #[v1, v2] w (SamePost w) := by
  induction t using Tr.ind with
  | h k x m n ks ih =>
    intro v1 v2 N w hv1 hv2 hN
    obtain ⟨k', x', m', n', ks', a1, c1, heq, rfl⟩ := hv1.form
    cases heq
    obtain ⟨k', x', m', n', ks', a2, c2, heq, rfl⟩ := hv2.form
    cases heq
    obtain ⟨_, hl, _⟩ := hv1.len
    have HK1 := Lib.hid hv1.kidsAt
    have HK2 := Lib.hid hv2.kidsAt
    have HI := Lib.hid ih
    have hb0 : Below w.heap.size w ((w.alloc (.cells #[.int .i64 k, .string x, .string m, .int .u64 n, .slice a1 ks.length c1] 25)).alloc (.cells #[.int .i64 k, .string x, .string m, .int .u64 n, .slice a2 ks.length c2] 25)) := ((Below.refl _ w).alloc (Nat.le_refl _) _).alloc (by simp) _
    have hx1 : BoxAt w.heap.size k x m n a1 ks.length c1 ((w.alloc (.cells #[.int .i64 k, .string x, .string m, .int .u64 n, .slice a1 ks.length c1] 25)).alloc (.cells #[.int .i64 k, .string x, .string m, .int .u64 n, .slice a2 ks.length c2] 25)) := (Below.heap_alloc _ _ _ (by simp)).trans (heap_alloc_new w _)
    have hx2 : BoxAt (w.heap.size + 1) k x m n a2 ks.length c2 ((w.alloc (.cells #[.int .i64 k, .string x, .string m, .int .u64 n, .slice a1 ks.length c1] 25)).alloc (.cells #[.int .i64 k, .string x, .string m, .int .u64 n, .slice a2 ks.length c2] 25)) := row_two _ _ _
    have HB0 := Lib.hid hb0
    have HX1 := Lib.hid hx1
    have HX2 := Lib.hid hx2
    unfold nodeU
    clear hv1 hv2 ih hb0 hx1 hx2
    go_enter Tryz.func10, Tryz.ntmps10
    go_wp2
    go_loopw [44] (fun i wr => ∃ j : Nat, i = .int .i64 j ∧ j ≤ ks.length ∧ BoxAt w.heap.size k x m n a1 ks.length c1 wr ∧ BoxAt (w.heap.size + 1) k x m n a2 ks.length c2 wr ∧ Below w.heap.size w wr) (fun i _ => ks.length - (intOf i).toNat)
    case atStart => exact ⟨0, rfl, Nat.zero_le _, HX1.out, HX2.out, HB0.out⟩
    case round =>
      obtain ⟨j, rfl, hj, hx1, hx2, hb⟩ := hrel
      have HB := Lib.hid hb
      have HY1 := Lib.hid hx1
      have HY2 := Lib.hid hx2
      obtain ⟨_, _, _, _, p4⟩ := hx1.five
      obtain ⟨_, _, _, _, q4⟩ := hx2.five
      clear hb hx1 hx2
      by_cases hlt : j < ks.length
      · obtain ⟨b1, o1, rfl, _, hkid1⟩ := HK1.out (by omega)
        obtain ⟨b2, o2, rfl, _, hkid2⟩ := HK2.out (by omega)
        obtain ⟨e1, g1, hin1, d0, d1, d2, d3, d4⟩ := hkid1 wr (Keep.of_below HB.out hN) j hlt
        obtain ⟨e2, g2, hin2, f0, f1, f2, f3, f4⟩ := hkid2 wr (Keep.of_below HB.out hN) j hlt
        have hih := HI.out ks[j] (List.getElem_mem hlt) _ _ N wr.drew hin1.drew hin2.drew (Nat.le_trans hN HB.out.size)
        clear hkid1 hkid2 hin1 hin2
        generalize ks[j] = q at *
        unfold nodeU at hih
        have HIH := Lib.hid hih
        clear hih
        have hi1 : (j : Int) < ks.length := by omega
        have hi0 : (0 : Int) ≤ j := by omega
        go_wp2_with fail
        go_region_held3 (fun w' => w'.cell? ⟨w.heap.size, 4, none⟩ = some (.slice (some ⟨b1, o1, none⟩) ks.length c1) ∧ w'.cell? ⟨w.heap.size + 1, 4, none⟩ = some (.slice (some ⟨b2, o2, none⟩) ks.length c2) ∧ w'.cell? ⟨b1, o1 + j * 5, none⟩ = some (.int .i64 q.kind) ∧ w'.cell? ⟨b1, o1 + j * 5 + 1, none⟩ = some (.string q.text) ∧ w'.cell? ⟨b1, o1 + j * 5 + 2, none⟩ = some (.string q.more) ∧ w'.cell? ⟨b1, o1 + j * 5 + 3, none⟩ = some (.int .u64 q.num) ∧ w'.cell? ⟨b1, o1 + j * 5 + 4, none⟩ = some (.slice e1 q.kids.length g1) ∧ w'.cell? ⟨b2, o2 + j * 5, none⟩ = some (.int .i64 q.kind) ∧ w'.cell? ⟨b2, o2 + j * 5 + 1, none⟩ = some (.string q.text) ∧ w'.cell? ⟨b2, o2 + j * 5 + 2, none⟩ = some (.string q.more) ∧ w'.cell? ⟨b2, o2 + j * 5 + 3, none⟩ = some (.int .u64 q.num) ∧ w'.cell? ⟨b2, o2 + j * 5 + 4, none⟩ = some (.slice e2 q.kids.length g2)) (first | go_keep | (exact ⟨below_cell hbc p4, below_cell hbc q4, below_cell hbc d0, below_cell hbc d1, below_cell hbc d2, below_cell hbc d3, below_cell hbc d4, below_cell hbc f0, below_cell hbc f1, below_cell hbc f2, below_cell hbc f3, below_cell hbc f4⟩)) ((go_at_call 10; ((with_reducible refine HIH.out.mono ?_)); rintro e w4 ⟨rfl, hbc⟩))
        all_goals
          have HBC := Lib.hid ((Below.drew HB.out).trans (hbc.mono HB.out.size))
          have HZ1 : Hid (BoxAt w.heap.size k x m n (some ⟨b1, o1, none⟩) ks.length c1 w4) := Lib.hid ((hbc.block _ HY1.out.lt).trans HY1.out)
          have HZ2 : Hid (BoxAt (w.heap.size + 1) k x m n (some ⟨b2, o2, none⟩) ks.length c2 w4) := Lib.hid ((hbc.block _ HY2.out.lt).trans HY2.out)
          clear hbc d0 d1 d2 d3 d4 f0 f1 f2 f3 f4 p4 q4
          go_wp2
          go_roundw
          case rel => exact ⟨j + 1, by go_num, by omega, HZ1.out, HZ2.out, HBC.out⟩
          case measure => simp [intOf]; omega
      · go_wp2
        go_ret
        exact ⟨rfl, HB.out⟩

end Go.Proofs.YtdillheepidncaaGreatDoor
