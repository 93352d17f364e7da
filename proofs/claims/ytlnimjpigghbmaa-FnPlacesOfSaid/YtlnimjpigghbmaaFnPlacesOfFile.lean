/- FnPlacesOf: the walks of NewFile, AddLine and fileOf: a file's lines are 0 and what was added, where the added ones rise. -/
import Derived.Test.YtlnimjpigghbmaaRows
import Derived.Test.YtlnimjpigghbmaaFnPlacesOfPure
import Derived.WalkLawsBesides
import Derived.Outline
import Derived.Deep.LoopGhost
import Derived.Laws.OwnMore
import Derived.Lib.BufferWrite
import Derived.Lib.Hide
import Derived.LoopN
import Derived.Laws.AppendOwn
namespace Go.Proofs.Ytlnimjpigghbmaa
open Go.RowKit Go.Proofs.YtlnimjpigghbmaaW.PrintWords Go.Proofs.YtlnimjpigghbmaaW.PrintLast
open PFnPlacesOf

theorem drawn_below {B : Nat} {w w' : World} (h : Below B w w') (n : Nat) : Below B w (w'.drewN n) := h.trans ⟨rfl, rfl, rfl, Nat.le_refl _, fun _ _ => rfl⟩

theorem info3 : (Try.prog.info? 3).map (fun i => (i.zero, i.size, i.bytes)) = some (some (.int .i64 0), 1, 8) := by kernel_rfl

/-- Block b is a file with these lines, all of the call's own blocks from B on. -/
def FileAt (B b : Nat) (xs : List Int) (w : World) : Prop :=
  B ≤ b ∧ ∃ g cap, w.heap[b]? = some (.cells #[.string ⟨#[97]⟩, .slice (some ⟨g, 0, none⟩) xs.length cap, .int .i64 1073741824] 67 (0, 0)) ∧
    w.ownsRow B 3 1 (.slice (some ⟨g, 0, none⟩) xs.length cap) xs.length (xs.map (Value.int .i64)) ∧ xs.length ≤ cap

theorem newFile_any (w : World) :
    Calls Try.prog 28 #[.string ⟨#[97]⟩, .int .i64 1073741824] w fun e w' => e = .returned (.pointer (some ⟨w.heap.size + 1, 0, none⟩)) ∧ FileAt w.heap.size (w.heap.size + 1) [0] w' ∧ Below w.heap.size w w' ∧ w.heap.size + 2 ≤ w'.heap.size := by
  go_enter Try.func28, Try.ntmps28
  go_wp2
  go_ret
  refine ⟨rfl, ⟨by omega, w.heap.size, 1, ?_, ?_, Nat.le_refl _⟩, ((Below.refl _ w).alloc (Nat.le_refl _) _).alloc (by simp) _, by simp⟩
  · have h := heap_alloc_new (w.alloc (.cells #[.int .i64 0] 3)) (.cells #[.string ⟨#[97]⟩, .slice (some ⟨w.heap.size, 0, none⟩) 1 1, .int .i64 1073741824] 67)
    rw [show (w.alloc (.cells #[.int .i64 0] 3)).heap.size = w.heap.size + 1 by simp] at h
    exact h
  · exact World.ownsRow.alloc (World.ownsRow_lit w #[.int .i64 0] 1 (Nat.le_refl _) (by decide) rfl) _

theorem addLine_any (B b : Nat) (xs : List Int) (x : Int) (w : World) (h : FileAt B b xs w) (hne : xs ≠ []) (hx : xs.getD (xs.length - 1) 0 < x) (hl : xs.length ≤ 1000) (hB : B ≤ w.heap.size) :
    Calls Try.prog 29 #[.pointer (some ⟨b, 0, none⟩), .int .i64 x] w fun e w' => e = .returned (.tuple #[]) ∧ FileAt B b (xs ++ [x]) w' ∧ Below B w w' := by
  obtain ⟨hBb, g, cap, hb, hown, hcap⟩ := h
  obtain ⟨i0, hi, hz0, hz1, hz2⟩ := info_parts info3
  have hpos : 0 < xs.length := List.length_pos_iff.mpr hne
  have c1 : w.cell? ⟨b, 1, none⟩ = some (.slice (some ⟨g, 0, none⟩) xs.length cap) := by rw [Lib.cell_of_heap hb]; rfl
  have f1 : w.frozen? ⟨b, 1, none⟩ = false := Lib.frozen_of_heap hb 1
  have cl : w.cell? ⟨g, xs.length - 1, none⟩ = some (.int .i64 (xs.getD (xs.length - 1) 0)) := by
    rw [hown.cellAt (xs.length - 1) (by omega)]
    have hlt : xs.length - 1 < xs.length := by omega
    simp [List.getD_eq_getElem?_getD, List.getElem?_eq_getElem hlt]
  obtain ⟨z, hz⟩ : ∃ z, z = xs.getD (xs.length - 1) 0 := ⟨_, rfl⟩
  rw [← hz] at cl hx
  clear hz
  have hx' : ¬ x ≤ z := by omega
  go_enter Try.func29, Try.ntmps29
  go_wp2
  refine wp_loop_rounds 1 ?_
  rw [rounds_succ]
  have hgb : g ≠ b := fun h => by
    subst h
    rcases hown.2 with ⟨h', _⟩ | ⟨g', cap', cur, h', _, hg, _⟩
    · cases h'
    · simp only [Value.slice.injEq, Option.some.injEq, Addr.mk.injEq, and_true, true_and] at h'
      obtain ⟨rfl, rfl⟩ := h'
      rw [hg] at hb
      cases hb
  have hbl : b < w.heap.size := by
    rcases Nat.lt_or_ge b w.heap.size with h | h
    · exact h
    · rw [Array.getElem?_eq_none h] at hb; cases hb
  have hown2 : (w.setCell ⟨b, 1, none⟩ (.slice (some ⟨g, 0, none⟩) xs.length cap)).ownsRow B 3 1 (.slice (some ⟨g, 0, none⟩) xs.length cap) xs.length (xs.map (Value.int .i64)) :=
    hown.kept (Lib.grownBy_setCell w b 1 _) (.inr (by simp [Value.ownBlock, hgb]))
  have HB := Lib.hid hb
  clear hb
  go_wp2_with (at_builtin; refine wpList_append_own _ rfl _ _ 30 rfl B 3 i0 (.int .i64 0) 1 8 Try.underlying30 hi hz0 hz1 hz2 rfl (by decide) _ _ _ rfl (hown2.alloc _) ⟨w.heap.size, 0, none⟩ 1 1 [.int .i64 x] rfl rfl ?c1 ?c2 ?c3 ?c4 ?c5 ?_)
  case c1 => intro j u hj; match j, hj with | 0, hj => simp at hj; subst hj; simp only [Addr.add, if_true]; rw [World.cell?_alloc_at _ _ _ _ (by simp)]; rfl
  case c2 => intro u hu; simp at hu; subst hu; rfl
  case c3 => unfold maxLen; omega
  case c4 => omega
  case c5 => simp; omega
  intro v' w1 hown1 hgrow _
  have hb := HB.out
  have hb1 : w1.heap[b]? = some (.cells #[.string ⟨#[97]⟩, .slice (some ⟨g, 0, none⟩) xs.length cap, .int .i64 1073741824] 67 (0, 0)) := by
    rw [hgrow.block b (by simp; omega) (by simp [Value.ownBlock]; omega), Below.heap_alloc _ _ _ (by simpa using hbl), heap_setCell_same w b 1 _ 67 _ hb]
    rfl
  obtain ⟨g', cap', rfl, hcap'⟩ : ∃ g' cap', v' = .slice (some ⟨g', 0, none⟩) (xs.length + 1) cap' ∧ xs.length + 1 ≤ cap' := by
    rcases hown1.2 with ⟨_, h⟩ | ⟨g', cap', cur, h', _, _, h'', _⟩
    · omega
    · exact ⟨g', cap', h', h''⟩
  have HB1 := Lib.hid hb1
  have f2 : w1.frozen? ⟨b, 1, none⟩ = false := Lib.frozen_of_heap hb1 1
  have c2 : w1.cell? ⟨b, 1, none⟩ = some (.slice (some ⟨g, 0, none⟩) xs.length cap) := by rw [Lib.cell_of_heap hb1]; rfl
  clear hb hb1
  go_wp2
  go_end0
  have hb1 := HB1.out
  have hg'b : g' ≠ b := fun h => by
    subst h
    rcases hown1.2 with ⟨h', _⟩ | ⟨g'', cap'', cur, h', _, hg, _⟩
    · cases h'
    · simp only [Value.slice.injEq, Option.some.injEq, Addr.mk.injEq, and_true, true_and] at h'
      obtain ⟨rfl, rfl⟩ := h'
      rw [hg] at hb1
      cases hb1
  have hbb : Below B w w1 := (((Below.refl B w).setCell (p := ⟨b, 1, none⟩) hBb _).alloc (by simpa using hB) _).grown hgrow (by simp; omega) (fun k hk => (hown.lt k hk).1)
  have e : (xs ++ [x]).length = xs.length + 1 := by simp
  refine ⟨rfl, ⟨hBb, g', cap', ?_, ?_, by omega⟩, hbb.setCell (p := ⟨b, 1, none⟩) hBb _⟩
  · rw [heap_setCell_same w1 b 1 _ 67 _ hb1, e]
    rfl
  · have h := hown1.kept (Lib.grownBy_setCell w1 b 1 (.slice (some ⟨g', 0, none⟩) (xs.length + 1) cap')) (.inr (by simp [Value.ownBlock, hg'b]))
    rw [e, List.map_append]
    exact h

/-- Block b is what a slice of integers reads. -/
def Ints (w : World) (b off : Nat) (ls : List Int) : Prop := b < w.heap.size ∧ ∀ j, j < ls.length → w.cell? ⟨b, off + j, none⟩ = some (.int .i64 (ls.getD j 0))

theorem Ints.below {w w' : World} {b off : Nat} {ls : List Int} (h : Ints w b off ls) (hb : Below w.heap.size w w') : Ints w' b off ls :=
  ⟨Nat.lt_of_lt_of_le h.1 hb.size, fun j hj => (hb.cell (p := ⟨b, off + j, none⟩) h.1).trans (h.2 j hj)⟩

theorem take_snoc_int (ls : List Int) (k : Nat) (h : k < ls.length) : ls.take (k + 1) = ls.take k ++ [ls.getD k 0] := by
  rw [List.take_succ_eq_append_getElem h]
  simp [List.getD_eq_getElem?_getD, List.getElem?_eq_getElem h]

theorem last_of_take (ls : List Int) (k : Nat) (h : k ≤ ls.length) : (0 :: ls.take k).getD ((0 :: ls.take k).length - 1) 0 = begins ls k := by
  have e : (0 :: ls.take k).length - 1 = k := by simp; omega
  rw [e, begins]
  cases k with
  | zero => rfl
  | succ k =>
    rw [if_neg (by omega)]
    simp [List.getD_eq_getElem?_getD]

set_option maxHeartbeats 1000000 in
/-- The lines that a file has behind 0, where there is one. -/
theorem fileOf_some (ls : List Int) (b off c : Nat) (w : World) (hA : Ints w b off ls) (h : Asc ls 0) (hl : ls.length ≤ 50) :
    Calls Try.prog 21 #[.slice (some ⟨b, off, none⟩) ls.length c] w fun e w' => ∃ bf, e = .returned (.pointer (some ⟨bf, 0, none⟩)) ∧ FileAt w.heap.size bf (0 :: ls) w' ∧ Below w.heap.size w w' := by
  go_enter Try.func21, Try.ntmps21
  go_wp2_with (go_at_call 28; refine (newFile_any _).mono ?_; rintro e w1 ⟨rfl, hf, hb, hs⟩)
  go_loopw [9] (fun i wr => ∃ k : Nat, k ≤ ls.length ∧ i = .int .i64 k ∧ FileAt w.heap.size (w.heap.size + 1) (0 :: ls.take k) wr ∧ Below w.heap.size w wr) (fun i _ => ls.length - (intOf i).toNat)
  case atStart => exact ⟨0, Nat.zero_le _, rfl, hf, hb⟩
  case round =>
    obtain ⟨k, hk, rfl, hfr, hbr⟩ := hrel
    by_cases hlt : k < ls.length
    · have hcell : wr.cell? ⟨b, off + k, none⟩ = some (.int .i64 (ls.getD k 0)) := (hA.below hbr).2 k hlt
      have hstep : (0 :: ls.take k).getD ((0 :: ls.take k).length - 1) 0 < ls.getD k 0 := by
        rw [last_of_take ls k hk]
        exact (h k hlt).1
      have hlen : (0 :: ls.take k).length ≤ 1000 := by simp; omega
      obtain ⟨x, hx⟩ : ∃ x, x = ls.getD k 0 := ⟨_, rfl⟩
      rw [← hx] at hcell hstep
      have HX := Lib.hid hx
      clear hx
      have HF := Lib.hid hfr
      clear hfr
      go_wp2_with (go_at_call 29; refine (addLine_any w.heap.size (w.heap.size + 1) (0 :: ls.take k) x wr HF.out (by simp) hstep hlen hbr.size).mono ?_; rintro e w2 ⟨rfl, hf2, hb2⟩)
      go_roundw
      case rel =>
        refine ⟨k + 1, by omega, by go_num, ?_, hbr.trans hb2⟩
        rw [take_snoc_int ls k hlt, ← HX.out]
        exact hf2
      case measure => simp [intOf]; omega
    · have hk' : k = ls.length := by omega
      rw [hk', List.take_length] at hfr
      clear hk'
      go_wp2
      go_ret
      exact ⟨_, rfl, hfr, hbr⟩

theorem fileOf_none (A : Option Addr) (c : Nat) (w : World) :
    Calls Try.prog 21 #[.slice A 0 c] w fun e w' => ∃ bf, e = .returned (.pointer (some ⟨bf, 0, none⟩)) ∧ FileAt w.heap.size bf [0] w' ∧ Below w.heap.size w w' := by
  go_enter Try.func21, Try.ntmps21
  go_wp2_with (go_at_call 28; refine (newFile_any _).mono ?_; rintro e w1 ⟨rfl, hf, hb, hs⟩)
  refine wp_loop_rounds 1 ?_
  rw [rounds_succ]
  go_wp2
  go_ret
  exact ⟨_, rfl, hf, hb⟩

end Go.Proofs.Ytlnimjpigghbmaa
