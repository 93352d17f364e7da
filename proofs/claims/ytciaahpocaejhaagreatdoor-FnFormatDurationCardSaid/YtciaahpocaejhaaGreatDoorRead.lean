/- spec's reader of expressions: what it does at a literal behind which nothing stands. -/
import Derived.Test.YtciaahpocaejhaaGreatDoorRows
import Derived.WalkKit
import Derived.Below
import Derived.WalkLawsBesides
import Derived.Outline
import Derived.BigCall
import Derived.Lib.Hide
import Derived.Lib.BufferOwn
import Derived.Deep.QuietTactic
import Derived.BigQuiet
namespace Go.Proofs.YtciaahpocaejhaaGreatDoor
open Go Go.RowKit

/-- Block b is a reader of the text s at place p, with a token, without failure, so deep. -/
def RdAt (b : Nat) (s : ByteArray) (p : Nat) (k : Int) (t : ByteArray) (d : Int) (w : World) : Prop :=
  w.heap[b]? = some (.cells #[.string s, .int .i64 p, .int .i64 k, .string t, .bool false, .int .i64 d] 63 (0, 0))

theorem RdAt.lt {b p : Nat} {s t : ByteArray} {k d : Int} {w : World} (h : RdAt b s p k t d w) : b < w.heap.size := (Array.getElem?_eq_some_iff.1 h).1
theorem RdAt.below {b p : Nat} {s t : ByteArray} {k d : Int} {w w' : World} (h : RdAt b s p k t d w) (hb : Below w.heap.size w w') : RdAt b s p k t d w' := (hb.block b h.lt).trans h
theorem RdAt.drew {b p : Nat} {s t : ByteArray} {k d : Int} {w : World} (h : RdAt b s p k t d w) : RdAt b s p k t d w.drew := h
theorem RdAt.alloc {b p : Nat} {s t : ByteArray} {k d : Int} {w : World} (h : RdAt b s p k t d w) (o : Obj) : RdAt b s p k t d (w.alloc o) := h.below ((Below.refl _ w).alloc (Nat.le_refl _) _)
theorem RdAt.c0 {b p : Nat} {s t : ByteArray} {k d : Int} {w : World} (h : RdAt b s p k t d w) : w.cell? ⟨b, 0, none⟩ = some (.string s) := by rw [Lib.cell_of_heap h]; rfl
theorem RdAt.c1 {b p : Nat} {s t : ByteArray} {k d : Int} {w : World} (h : RdAt b s p k t d w) : w.cell? ⟨b, 1, none⟩ = some (.int .i64 p) := by rw [Lib.cell_of_heap h]; rfl
theorem RdAt.c2 {b p : Nat} {s t : ByteArray} {k d : Int} {w : World} (h : RdAt b s p k t d w) : w.cell? ⟨b, 2, none⟩ = some (.int .i64 k) := by rw [Lib.cell_of_heap h]; rfl
theorem RdAt.c3 {b p : Nat} {s t : ByteArray} {k d : Int} {w : World} (h : RdAt b s p k t d w) : w.cell? ⟨b, 3, none⟩ = some (.string t) := by rw [Lib.cell_of_heap h]; rfl
theorem RdAt.c4 {b p : Nat} {s t : ByteArray} {k d : Int} {w : World} (h : RdAt b s p k t d w) : w.cell? ⟨b, 4, none⟩ = some (.bool false) := by rw [Lib.cell_of_heap h]; rfl
theorem RdAt.c5 {b p : Nat} {s t : ByteArray} {k d : Int} {w : World} (h : RdAt b s p k t d w) : w.cell? ⟨b, 5, none⟩ = some (.int .i64 d) := by rw [Lib.cell_of_heap h]; rfl
theorem RdAt.fz {b p : Nat} {s t : ByteArray} {k d : Int} {w : World} (h : RdAt b s p k t d w) (i : Nat) : w.frozen? ⟨b, i, none⟩ = false := Lib.frozen_of_heap h i

theorem row_set {w : World} {g : Nat} {cs : Array Value} {T : TypeId} {fz : Nat × Nat} (h : w.heap[g]? = some (.cells cs T fz)) (i : Nat) (v : Value) : (w.setCell ⟨g, i, none⟩ v).heap[g]? = some (.cells (cs.setIfInBounds i v) T fz) := by
  simp [World.setCell, Array.getElem?_modify, h]
theorem row_kept {w : World} {g : Nat} {o : Obj} (h : w.heap[g]? = some o) (b i : Nat) (v : Value) (hne : g ≠ b) : (w.setCell ⟨b, i, none⟩ v).heap[g]? = some o := by
  simp [World.setCell, Array.getElem?_modify, h, Ne.symm hne]

theorem grown_of_below {w w' : World} (hb : Below w.heap.size w w') (row : Option Nat) : w.grownBy w' row := ⟨hb.os, hb.tape, hb.output, hb.size, fun k hk _ => hb.block k hk⟩
theorem grownBy_new {a w : World} {row : Option Nat} (h : a.grownBy w row) {g : Nat} (hg : a.heap.size ≤ g) (i : Nat) (v : Value) : a.grownBy (w.setCell ⟨g, i, none⟩ v) row :=
  ⟨h.os, h.tape, h.output, by simpa [World.setCell] using h.size, fun k hk hne => (Below.heap_setCell _ _ _ _ (by show k ≠ g; omega)).trans (h.block k hk hne)⟩
theorem grownBy_drewN {a w : World} {row : Option Nat} (h : a.grownBy w row) (n : Nat) : a.grownBy (w.drewN n) row := ⟨h.os, h.tape, h.output, h.size, h.block⟩

set_option maxHeartbeats 1000000 in
theorem word_no (b p : Nat) (s t q : ByteArray) (k d : Int) (w : World) (h : RdAt b s p k t d w) (hk : k ≠ 1) :
    Calls Tryz.prog 45 #[.pointer (some ⟨b, 0, none⟩), .string q] w fun e w' => e = .returned (.bool false) ∧ w' = w := by
  have c2 := h.c2
  have hk' : (k == 1) = false := by simpa using hk
  clear h
  go_enter Tryz.func45, Tryz.ntmps45
  go_wp2
  go_ret
  exact ⟨rfl, rfl⟩

set_option maxHeartbeats 1000000 in
theorem mark_no (b p : Nat) (s t q : ByteArray) (k d : Int) (w : World) (h : RdAt b s p k t d w) (hk : k ≠ 9) :
    Calls Tryz.prog 95 #[.pointer (some ⟨b, 0, none⟩), .string q] w fun e w' => e = .returned (.bool false) ∧ w' = w := by
  have c2 := h.c2
  have hk' : (k == 9) = false := by simpa using hk
  clear h
  go_enter Tryz.func95, Tryz.ntmps95
  go_wp2
  go_ret
  exact ⟨rfl, rfl⟩

set_option maxHeartbeats 1000000 in
theorem level_no (b p : Nat) (s t : ByteArray) (k d : Int) (w : World) (h : RdAt b s p k t d w) (hk : k ≠ 1) (hk9 : k ≠ 9) :
    Calls Tryz.prog 73 #[.pointer (some ⟨b, 0, none⟩)] w fun e w' => e = .returned (.tuple #[.int .i64 (-1), .int .i64 0]) ∧ w' = w := by
  have c2 := h.c2
  have hk' : (k == 1) = false := by simpa using hk
  have hk9' : (k == 9) = false := by simpa using hk9
  clear h
  go_enter Tryz.func73, Tryz.ntmps73
  go_wp2
  refine bodyPost_ret (v := .tuple #[.int .i64 (-1), .int .i64 0]) (by simp [results, Tryz.results73, go_sem]) rfl ⟨rfl, rfl⟩

set_option maxHeartbeats 1000000 in
theorem node_any (k : Int) (t : ByteArray) (a : Option Addr) (n c : Nat) (w : World) :
    Calls Tryz.prog 47 #[.int .i64 k, .string t, .slice a n c] w fun e w' => e = .returned (.agg #[.int .i64 k, .string t, .string ⟨#[]⟩, .int .u64 0, .slice a n c]) ∧ Below w.heap.size w w' := by
  go_enter Tryz.func47, Tryz.ntmps47
  go_wp2
  refine bodyPost_ret (v := .agg #[.int .i64 k, .string t, .string ⟨#[]⟩, .int .u64 0, .slice a n c]) (by simp [results, Tryz.results47, go_sem]) rfl ⟨rfl, ?_⟩
  exact (Below.refl _ w).alloc (Nat.le_refl _) _

theorem below_drewN {B : Nat} {a w : World} (h : Below B a w) (n : Nat) : Below B a (w.drewN n) := h.trans ⟨rfl, rfl, rfl, Nat.le_refl _, fun _ _ => rfl⟩

set_option maxHeartbeats 1000000 in
theorem blank_end (b p : Nat) (s t : ByteArray) (k d : Int) (w : World) (h : RdAt b s p k t d w) (hp : s.size ≤ p) :
    Calls Tryz.prog 89 #[.pointer (some ⟨b, 0, none⟩)] w fun e w' => e = .returned (.tuple #[]) ∧ Below w.heap.size w w' := by
  have c0 := h.c0
  have c1 := h.c1
  have hlt : ¬ (p : Int) < s.size := by omega
  clear h
  go_enter Tryz.func89, Tryz.ntmps89
  go_wp2
  refine wp_loop_rounds 1 ?_
  rw [rounds_succ]
  go_wp2
  go_quiet (fail)
  go_wp2
  go_end0
  exact ⟨rfl, below_drewN (Below.refl _ w) _⟩

set_option maxHeartbeats 1000000 in
set_option maxRecDepth 100000 in
theorem next_end (b p : Nat) (s t : ByteArray) (k d : Int) (o : Bool) (w : World) (h : RdAt b s p k t d w) (hp : s.size ≤ p) :
    Calls Tryz.prog 70 #[.pointer (some ⟨b, 0, none⟩), .bool o] w fun e w' => e = .returned (.agg #[.int .i64 0, .string ⟨#[]⟩]) ∧ Below w.heap.size w w' := by
  have h1 := h.alloc (.cells #[.int .i64 0, .string ⟨#[]⟩] 61)
  have c0 := h1.c0
  have c1 := h1.c1
  have hB := Lib.hid (blank_end b p s t k d _ h1 hp)
  have hge : (s.size : Int) ≤ p := by omega
  have H1 := Lib.hid h1
  clear h h1
  go_enter Tryz.func70, Tryz.ntmps70
  go_wp2_with fail
  ((with_reducible refine hB.out.mono ?_))
  rintro e w1 ⟨rfl, hb1⟩
  have hk1 : w1.heap[w.heap.size]? = some (.cells #[.int .i64 0, .string ⟨#[]⟩] 61 (0, 0)) := (hb1.block _ (by simp)).trans (heap_alloc_new w _)
  have r0 : w1.cell? ⟨w.heap.size, 0, none⟩ = some (.int .i64 0) := by rw [Lib.cell_of_heap hk1]; rfl
  have r1 : w1.cell? ⟨w.heap.size, 1, none⟩ = some (.string ⟨#[]⟩) := by rw [Lib.cell_of_heap hk1]; rfl
  have rf0 : w1.frozen? ⟨w.heap.size, 0, none⟩ = false := Lib.frozen_of_heap hk1 0
  have rf1 : w1.frozen? ⟨w.heap.size, 1, none⟩ = false := Lib.frozen_of_heap hk1 1
  have c0' := (H1.out.below hb1).c0
  have c1' := (H1.out.below hb1).c1
  go_wp2
  go_quiet (fail)
  go_wp2
  refine bodyPost_ret (v := .agg #[.int .i64 0, .string ⟨#[]⟩]) (by simp [results, Tryz.results70, go_sem, r0, r1]) rfl ⟨rfl, ?_⟩
  have hb : Below w.heap.size w w1 := ((Below.refl _ w).alloc (Nat.le_refl _) _).trans (hb1.mono (by simp))
  exact ((below_drewN hb _).setCell (p := ⟨w.heap.size, 0, none⟩) (Nat.le_refl _) _).setCell (p := ⟨w.heap.size, 1, none⟩) (Nat.le_refl _) _

/-- A token is passed behind which nothing stands. -/
theorem RdAt.put {b p : Nat} {s t : ByteArray} {k d : Int} {w : World} (h : RdAt b s p k t d w) (k' : Int) (t' : ByteArray) : RdAt b s p k' t' d ((w.setCell ⟨b, 2, none⟩ (.int .i64 k')).setCell ⟨b, 3, none⟩ (.string t')) := by
  unfold RdAt at h ⊢
  simp [World.setCell, Array.getElem?_modify, h]

set_option maxHeartbeats 1000000 in
set_option maxRecDepth 100000 in
theorem step_end (b p : Nat) (s t : ByteArray) (k d : Int) (o : Bool) (w : World) (h : RdAt b s p k t d w) (hp : s.size ≤ p) :
    Calls Tryz.prog 42 #[.pointer (some ⟨b, 0, none⟩), .bool o] w fun e w' => e = .returned (.agg #[.int .i64 k, .string t]) ∧ RdAt b s p 0 ⟨#[]⟩ d w' ∧ w.grownBy w' (some b) := by
  have h1 := h.alloc (.cells #[.int .i64 0, .string ⟨#[]⟩] 61)
  have c2 := h1.c2
  have c3 := h1.c3
  have h2 := h1.alloc (.cells #[.int .i64 k, .string t] 61)
  have hB := Lib.hid (next_end b p s t k d o _ h2 hp)
  have H2 := Lib.hid h2
  have hlt := h.lt
  clear h h1 h2
  go_enter Tryz.func42, Tryz.ntmps42
  go_wp2_with fail
  ((with_reducible refine hB.out.mono ?_))
  rintro e w1 ⟨rfl, hb1⟩
  have h3 := H2.out.below hb1
  have d2 := h3.c2
  have d3 := h3.c3
  have df2 := h3.fz 2
  have df3 := h3.fz 3
  have hk0 : w1.heap[w.heap.size]? = some (.cells #[.int .i64 0, .string ⟨#[]⟩] 61 (0, 0)) := (hb1.block _ (by simp; omega)).trans (by rw [Below.heap_alloc _ _ _ (by simp)]; exact heap_alloc_new w _)
  have hk1 : w1.heap[w.heap.size + 1]? = some (.cells #[.int .i64 k, .string t] 61 (0, 0)) := (hb1.block _ (by simp)).trans (by
    have := heap_alloc_new (w.alloc (.cells #[.int .i64 0, .string ⟨#[]⟩] 61)) (.cells #[.int .i64 k, .string t] 61)
    rwa [show (w.alloc (.cells #[.int .i64 0, .string ⟨#[]⟩] 61)).heap.size = w.heap.size + 1 by simp] at this)
  have q0 : w1.cell? ⟨w.heap.size, 0, none⟩ = some (.int .i64 0) := by rw [Lib.cell_of_heap hk0]; rfl
  have q1 : w1.cell? ⟨w.heap.size, 1, none⟩ = some (.string ⟨#[]⟩) := by rw [Lib.cell_of_heap hk0]; rfl
  have qf0 : w1.frozen? ⟨w.heap.size, 0, none⟩ = false := Lib.frozen_of_heap hk0 0
  have qf1 : w1.frozen? ⟨w.heap.size, 1, none⟩ = false := Lib.frozen_of_heap hk0 1
  have p0 : w1.cell? ⟨w.heap.size + 1, 0, none⟩ = some (.int .i64 k) := by rw [Lib.cell_of_heap hk1]; rfl
  have p1 : w1.cell? ⟨w.heap.size + 1, 1, none⟩ = some (.string t) := by rw [Lib.cell_of_heap hk1]; rfl
  have H3 := Lib.hid h3
  clear h3
  go_wp2
  refine bodyPost_ret (v := .agg #[.int .i64 k, .string t]) (by simp [results, Tryz.results42, go_sem, q0, q1]) rfl ⟨rfl, ?_, ?_⟩
  · exact row_kept (row_kept (H3.out.put 0 ⟨#[]⟩) _ _ _ (by omega)) _ _ _ (by omega)
  · have hb : Below w.heap.size w w1 := (((Below.refl _ w).alloc (Nat.le_refl _) _).alloc (by simp) _).trans (hb1.mono (by simp; omega))
    exact grownBy_new (grownBy_new (Lib.grownBy_setB (Lib.grownBy_setB (grown_of_below hb (some b)) 2 _) 3 _) (Nat.le_refl _) _ _) (Nat.le_refl _) _ _

end Go.Proofs.YtciaahpocaejhaaGreatDoor
