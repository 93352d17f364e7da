/- spec's reader: a step over any token. -/
import Derived.Test.YtciaahpocaejhaaGreatDoorRead
namespace Go.Proofs.YtciaahpocaejhaaGreatDoor
open Go Go.RowKit

set_option maxHeartbeats 1000000 in
set_option maxRecDepth 100000 in
theorem step_gen (b p p' : Nat) (s t t' : ByteArray) (k k' d : Int) (o : Bool)
    (hN : ∀ w, RdAt b s p k t d w → Calls Tryz.prog 70 #[.pointer (some ⟨b, 0, none⟩), .bool o] w fun e w' => e = .returned (.agg #[.int .i64 k', .string t']) ∧ RdAt b s p' k t d w' ∧ w.grownBy w' (some b))
    (w : World) (h : RdAt b s p k t d w) :
    Calls Tryz.prog 42 #[.pointer (some ⟨b, 0, none⟩), .bool o] w fun e w' => e = .returned (.agg #[.int .i64 k, .string t]) ∧ RdAt b s p' k' t' d w' ∧ w.grownBy w' (some b) := by
  have h1 := h.alloc (.cells #[.int .i64 0, .string ⟨#[]⟩] 61)
  have c2 := h1.c2
  have c3 := h1.c3
  have h2 := h1.alloc (.cells #[.int .i64 k, .string t] 61)
  have hB := Lib.hid (hN _ h2)
  have H2 := Lib.hid h2
  have hlt := h.lt
  clear h h1 h2
  go_enter Tryz.func42, Tryz.ntmps42
  go_wp2_with fail
  ((with_reducible refine hB.out.mono ?_))
  rintro e w1 ⟨rfl, h3, g1⟩
  have d2 := h3.c2
  have d3 := h3.c3
  have df2 := h3.fz 2
  have df3 := h3.fz 3
  have hk0 : w1.heap[w.heap.size]? = some (.cells #[.int .i64 0, .string ⟨#[]⟩] 61 (0, 0)) := (g1.block _ (by simp; omega) (by intro e; cases e; omega)).trans (by rw [Below.heap_alloc _ _ _ (by simp)]; exact heap_alloc_new w _)
  have hk1 : w1.heap[w.heap.size + 1]? = some (.cells #[.int .i64 k, .string t] 61 (0, 0)) := (g1.block _ (by simp) (by intro e; cases e; omega)).trans (by
    have := heap_alloc_new (w.alloc (.cells #[.int .i64 0, .string ⟨#[]⟩] 61)) (.cells #[.int .i64 k, .string t] 61)
    rwa [show (w.alloc (.cells #[.int .i64 0, .string ⟨#[]⟩] 61)).heap.size = w.heap.size + 1 by simp] at this)
  have q0 : w1.cell? ⟨w.heap.size, 0, none⟩ = some (.int .i64 0) := by rw [Lib.cell_of_heap hk0]; rfl
  have q1 : w1.cell? ⟨w.heap.size, 1, none⟩ = some (.string ⟨#[]⟩) := by rw [Lib.cell_of_heap hk0]; rfl
  have qf0 : w1.frozen? ⟨w.heap.size, 0, none⟩ = false := Lib.frozen_of_heap hk0 0
  have qf1 : w1.frozen? ⟨w.heap.size, 1, none⟩ = false := Lib.frozen_of_heap hk0 1
  have p0 : w1.cell? ⟨w.heap.size + 1, 0, none⟩ = some (.int .i64 k) := by rw [Lib.cell_of_heap hk1]; rfl
  have p1 : w1.cell? ⟨w.heap.size + 1, 1, none⟩ = some (.string t) := by rw [Lib.cell_of_heap hk1]; rfl
  have H3 := Lib.hid h3
  clear h3
  go_wp2
  refine bodyPost_ret (v := .agg #[.int .i64 k, .string t]) (by simp [results, Tryz.results42, go_sem, q0, q1]) rfl ⟨rfl, ?_, ?_⟩
  · exact row_kept (row_kept (H3.out.put k' t') _ _ _ (by omega)) _ _ _ (by omega)
  · have hb : w.grownBy w1 (some b) := Lib.grownBy_trans (Lib.grownBy_allocR (World.grownBy_alloc w _ (some b)) _) g1
    exact grownBy_new (grownBy_new (Lib.grownBy_setB (Lib.grownBy_setB hb 2 _) 3 _) (Nat.le_refl _) _ _) (Nat.le_refl _) _ _

set_option maxHeartbeats 1000000 in
theorem read_gen (s t' : ByteArray) (p' : Nat) (k' : Int)
    (hN : ∀ b w, RdAt b s 0 0 ⟨#[]⟩ 0 w → Calls Tryz.prog 70 #[.pointer (some ⟨b, 0, none⟩), .bool true] w fun e w' => e = .returned (.agg #[.int .i64 k', .string t']) ∧ RdAt b s p' 0 ⟨#[]⟩ 0 w' ∧ w.grownBy w' (some b))
    (w : World) :
    Calls Tryz.prog 23 #[.string s] w fun e w' => ∃ b, e = .returned (.pointer (some ⟨b, 0, none⟩)) ∧ RdAt b s p' k' t' 0 w' ∧ w.heap.size ≤ b ∧ Below w.heap.size w w' := by
  have h0 : RdAt w.heap.size s 0 0 ⟨#[]⟩ 0 (w.alloc (.cells #[.string s, .int .i64 0, .int .i64 0, .string ⟨#[]⟩, .bool false, .int .i64 0] 63)) := heap_alloc_new w _
  have HS := Lib.hid (step_gen w.heap.size 0 p' s ⟨#[]⟩ t' 0 k' 0 true (hN w.heap.size) _ h0)
  clear h0 hN
  go_enter Tryz.func23, Tryz.ntmps23
  go_wp2_with fail
  ((with_reducible refine HS.out.mono ?_))
  rintro e w1 ⟨rfl, h1, g1⟩
  go_wp2
  go_ret
  exact ⟨_, rfl, h1, Nat.le_refl _, ((Below.refl _ w).alloc (Nat.le_refl _) _).grown g1 (by simp) (fun k e => by cases e; exact Nat.le_refl _)⟩

end Go.Proofs.YtciaahpocaejhaaGreatDoor
