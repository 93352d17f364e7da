/- spec.few: the nodes of a tree are taken away from how many are left. -/
import Derived.Test.YtdillheepidncaaGreatDoorTree
import Derived.WalkLawsBesides
import Derived.Outline
import Derived.BigCall
import Derived.LoopTactic
namespace Go.Proofs.YtdillheepidncaaGreatDoor
open Go Go.RowKit
set_option linter.unusedVariables false

/-- A block of one integer. -/
def IntAt (L : Nat) (x : Int) (w : World) : Prop := w.heap[L]? = some (.cells #[.int .i64 x] 3 (0, 0))

theorem IntAt.lt {L : Nat} {x : Int} {w : World} (h : IntAt L x w) : L < w.heap.size := (Array.getElem?_eq_some_iff.1 h).1
theorem IntAt.cell {L : Nat} {x : Int} {w : World} (h : IntAt L x w) : w.cell? ⟨L, 0, none⟩ = some (.int .i64 x) := by rw [Lib.cell_of_heap h]; rfl
theorem IntAt.fz {L : Nat} {x : Int} {w : World} (h : IntAt L x w) : w.frozen? ⟨L, 0, none⟩ = false := Lib.frozen_of_heap h 0
theorem IntAt.alloc {L : Nat} {x : Int} {w : World} (h : IntAt L x w) (o : Obj) : IntAt L x (w.alloc o) := (Below.heap_alloc w o L h.lt).trans h
theorem IntAt.put {L : Nat} {x : Int} {w : World} (h : IntAt L x w) (y : Int) : IntAt L y (w.setCell ⟨L, 0, none⟩ (.int .i64 y)) := by
  unfold IntAt at h ⊢
  simp [World.setCell, Array.getElem?_modify, h]

theorem NodeIn.grown {w w' : World} {N : Nat} {row : Option Nat} {t : Tr} {v : Value} (h : NodeIn w (· < N) t v) (hg : w.grownBy w' row) (hN : N ≤ w.heap.size) (hr : ∀ r, row = some r → N ≤ r) : NodeIn w' (· < N) t v :=
  h.keep fun b hb => hg.block b (Nat.lt_of_lt_of_le hb hN) (fun e => absurd hb (Nat.not_lt.2 (hr b e.symm)))

def FewPost (t : Tr) (x : Int) (L : Nat) (w : World) (e : Ending) (w' : World) : Prop :=
  ∃ (b : Bool) (y : Int), e = .returned (.bool b) ∧ IntAt L y w' ∧ y ≤ 400 ∧ (b = true → 0 ≤ y ∧ y = x - t.count) ∧ w.grownBy w' (some L)

theorem sum_take_succ (l : List Tr) (k : Nat) (h : k < l.length) : ((l.take (k + 1)).map Tr.count).sum = ((l.take k).map Tr.count).sum + l[k].count := by
  rw [List.take_succ_eq_append_getElem h, List.map_append, List.sum_append]
  simp

set_option maxHeartbeats 2000000 in
set_option maxRecDepth 100000 in
theorem few_any (t : Tr) : ∀ (v : Value) (x : Int) (L N : Nat) (w : World), NodeIn w (· < N) t v → N ≤ L → N ≤ w.heap.size → IntAt L x w → 0 ≤ x → x ≤ 400 →
    Calls Tryz.prog 27 #[v, .pointer (some ⟨L, 0, none⟩)] w (FewPost t x L w) := by
  induction t using Tr.ind with
  | h k t m n ks ih =>
    intro v x L N w hv hNL hNw hL hx0 hx1
    obtain ⟨a, c, rfl, _, _, _, _, hlen, hcap, hkids⟩ := hv.parts
    simp only [Tr.kind, Tr.text, Tr.more, Tr.num, Tr.kids] at hlen hcap hkids ⊢
    have hLlt := hL.lt
    have c0 := hL.cell
    have f0 := hL.fz
    have hL1 := fun y => (hL.put y).alloc (.cells #[.int .i64 k, .string t, .string m, .int .u64 n, .slice a ks.length c] 25)
    have hg1 : ∀ y, w.grownBy ((w.setCell ⟨L, 0, none⟩ (.int .i64 y)).alloc (.cells #[.int .i64 k, .string t, .string m, .int .u64 n, .slice a ks.length c] 25)) (some L) := fun y => Lib.grownBy_allocR (Lib.grownBy_setB (World.grownBy.refl w _) 0 _) _
    have hb1 : ∀ y, ((w.setCell ⟨L, 0, none⟩ (.int .i64 y)).alloc (.cells #[.int .i64 k, .string t, .string m, .int .u64 n, .slice a ks.length c] 25)).heap[w.heap.size]? = some (.cells #[.int .i64 k, .string t, .string m, .int .u64 n, .slice a ks.length c] 25 (0, 0)) :=
      fun y => by
        have := heap_alloc_new (w.setCell ⟨L, 0, none⟩ (.int .i64 y)) (.cells #[.int .i64 k, .string t, .string m, .int .u64 n, .slice a ks.length c] 25)
        simpa [World.setCell] using this
    have HL1 := Lib.hid hL1
    have HG1 := Lib.hid hg1
    have HB1 := Lib.hid hb1
    have HV := Lib.hid hv
    have HK := Lib.hid hkids
    have HI := Lib.hid ih
    have hcount := Lib.hid (Tr.count_mk k t m n ks)
    clear hL hL1 hg1 hb1 hv hkids ih
    unfold maxLen at hlen
    unfold nodeU
    go_enter Tryz.func27, Tryz.ntmps27
    by_cases hz : x = 0
    · subst hz
      go_wp2
      go_ret
      exact ⟨false, -1, rfl, HL1.out _, by omega, (fun h => by cases h), HG1.out _⟩
    · have hneg : ¬ x - 1 < 0 := by omega
      go_wp2
      go_loopw [5] (fun i wr => ∃ (j : Nat) (y : Int), i = .int .i64 j ∧ j ≤ ks.length ∧ IntAt L y wr ∧ 0 ≤ y ∧ y ≤ 400 ∧ y = x - 1 - ((ks.take j).map Tr.count).sum ∧ w.grownBy wr (some L) ∧ wr.heap[w.heap.size]? = some (.cells #[.int .i64 k, .string t, .string m, .int .u64 n, .slice a ks.length c] 25 (0, 0))) (fun i _ => ks.length - (intOf i).toNat)
      case atStart => exact ⟨0, x - 1, rfl, Nat.zero_le _, HL1.out _, by omega, by omega, by simp, HG1.out _, HB1.out _⟩
      case round =>
        obtain ⟨j, y, rfl, hj, hLy, hy0, hy1, hy2, hg, hb⟩ := hrel
        have b0 : wr.cell? ⟨w.heap.size, 4, none⟩ = some (.slice a ks.length c) := by rw [Lib.cell_of_heap hb]; rfl
        have HLY := Lib.hid hLy
        have HY2 := Lib.hid hy2
        have HG := Lib.hid hg
        have HB := Lib.hid hb
        clear hLy hy2 hg hb c0 f0
        by_cases hlt : j < ks.length
        · obtain ⟨b, o, f, rfl, hbN, hcells, hin⟩ := HK.out (by intro e; simp [e] at hlt)
          have hk1 := (hin j hlt).grown HG.out hNw (fun r e => by cases e; exact hNL)
          obtain ⟨a', c', hfe, _⟩ := hk1.parts
          have hc5 := (hcells j hlt).keep (HG.out.block b (Nat.lt_of_lt_of_le hbN hNw) (fun e => by cases e; omega))
          rw [hfe] at hc5
          obtain ⟨d0, d1, d2, d3, d4⟩ := hc5.five
          have hC := Lib.hid (HI.out _ (List.getElem_mem hlt) _ y L N wr hk1 hNL (Nat.le_trans hNw HG.out.size) HLY.out hy0 hy1)
          rw [hfe] at hC
          have HFE := Lib.hid hfe
          clear hk1 hfe hc5 hcells hin
          have htake := Lib.hid (sum_take_succ ks j hlt)
          generalize ks[j] = q at *
          unfold nodeU at hC
          go_wp2_with fail
          ((with_reducible refine hC.out.mono ?_))
          rintro e w2 ⟨bb, z, rfl, hz1, hz2, hz3, hg2⟩
          have hg3 := Lib.grownBy_trans HG.out hg2
          cases bb with
          | false =>
            go_wp2
            go_ret
            exact ⟨false, z, rfl, hz1, hz2, (fun h => by cases h), hg3⟩
          | true =>
            obtain ⟨hz4, hz5⟩ := hz3 rfl
            have hbk : w2.heap[w.heap.size]? = some (.cells #[.int .i64 k, .string t, .string m, .int .u64 n, .slice (some ⟨b, o, none⟩) ks.length c] 25 (0, 0)) :=
              (hg2.block _ (Array.getElem?_eq_some_iff.1 HB.out).1 (fun e => by cases e; omega)).trans HB.out
            have hsum : z = x - 1 - ((ks.take (j + 1)).map Tr.count).sum := by
              have h1 := HY2.out
              have h2 := htake.out
              omega
            have HS := Lib.hid hsum
            clear hsum hz3 hz5
            go_wp2
            go_roundw
            case rel => exact ⟨j + 1, z, by go_num, by omega, hz1, hz4, hz2, HS.out, hg3, hbk⟩
            case measure => simp [intOf]; omega
        · have hsum : x - 1 - ((ks.take j).map Tr.count).sum = x - (Tr.mk k t m n ks).count := by
            rw [hcount.out, List.take_of_length_le (by omega)]
            omega
          have HS := Lib.hid hsum
          clear hsum
          go_wp2
          go_ret
          exact ⟨true, y, rfl, HLY.out, hy1, (fun _ => ⟨hy0, HY2.out.trans HS.out⟩), HG.out⟩

end Go.Proofs.YtdillheepidncaaGreatDoor
