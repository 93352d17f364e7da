/- spec.ReadExpression of a text that is one literal. -/
import Derived.Test.YtciaahpocaejhaaGreatDoorReadLit
import Derived.RegionTactic
import Derived.ChangeAlike
import Derived.BigRegion
namespace Go.Proofs.YtciaahpocaejhaaGreatDoor
open Go Go.RowKit

set_option maxHeartbeats 2000000 in
set_option maxRecDepth 100000 in
theorem readExpr_lit (s t : ByteArray) (p p' : Nat) (k : Int) (R : Value → World → World → Prop) (hR : Stays R) (w : World)
    (HR : ∀ w, Calls Tryz.prog 23 #[.string s] w fun e w' => ∃ b, e = .returned (.pointer (some ⟨b, 0, none⟩)) ∧ RdAt b s p k t 0 w' ∧ w.heap.size ≤ b ∧ Below w.heap.size w w')
    (HE : ∀ b w, RdAt b s p k t 0 w → Calls Tryz.prog 24 #[.pointer (some ⟨b, 0, none⟩)] w (LitPost b p' s 0 R w)) :
    Calls Tryz.prog 10 #[.string s] w fun e w' => ∃ v, e = .returned (.tuple #[v, .bool true]) ∧ R v w w' ∧ Below w.heap.size w w' := by
  have HRr := Lib.hid HR
  have HEe := Lib.hid HE
  clear HR HE
  go_enter Tryz.func10, Tryz.ntmps10
  go_wp2_with fail
  ((with_reducible refine (HRr.out _).mono ?_))
  rintro e w1 ⟨b, rfl, h1, hb, hB1⟩
  go_wp2_with fail
  ((with_reducible refine (HEe.out b _ h1).mono ?_))
  rintro e w2 ⟨kk, tt, n, a, l, c, rfl, h2, g2, r2⟩
  have hk0 : (w.alloc (.cells #[.int .i64 0, .string ⟨#[]⟩, .string ⟨#[]⟩, .int .u64 0, .slice none 0 0] 26)).heap[w.heap.size]? = some (.cells #[.int .i64 0, .string ⟨#[]⟩, .string ⟨#[]⟩, .int .u64 0, .slice none 0 0] 26 (0, 0)) := heap_alloc_new w _
  have hk1 := (hB1.block _ (by simp)).trans hk0
  have hbs : w.heap.size < b := by simp at hb; omega
  have k1 := (g2.block _ (Array.getElem?_eq_some_iff.1 hk1).1 (by intro e; cases e; omega)).trans hk1
  have hs3 : w.heap.size < w2.heap.size := (Array.getElem?_eq_some_iff.1 k1).1
  have H3 := h2.alloc (.cells #[.int .i64 kk, .string tt, .string ⟨#[]⟩, .int .u64 n, .slice a l c] 26)
  have k2 : (w2.alloc (.cells #[.int .i64 kk, .string tt, .string ⟨#[]⟩, .int .u64 n, .slice a l c] 26)).heap[w.heap.size]? = _ := (Below.heap_alloc _ _ _ hs3).trans k1
  have k3 : (w2.alloc (.cells #[.int .i64 kk, .string tt, .string ⟨#[]⟩, .int .u64 n, .slice a l c] 26)).heap[w2.heap.size]? = some (.cells #[.int .i64 kk, .string tt, .string ⟨#[]⟩, .int .u64 n, .slice a l c] 26 (0, 0)) := heap_alloc_new w2 _
  have hB2 : Below w.heap.size w w2 := (((Below.refl _ w).alloc (Nat.le_refl _) _).trans (hB1.mono (by simp))).grown g2 (by have := hB1.size; simp at this; omega) (fun k e => by cases e; omega)
  have hB3 := hB2.alloc (Nat.le_of_lt hs3) (.cells #[.int .i64 kk, .string tt, .string ⟨#[]⟩, .int .u64 n, .slice a l c] 26)
  have hR3 : ∀ k, w1.heap.size ≤ k → k < w2.heap.size → (w2.alloc (.cells #[.int .i64 kk, .string tt, .string ⟨#[]⟩, .int .u64 n, .slice a l c] 26)).heap[k]? = w2.heap[k]? := fun k _ h2 => Below.heap_alloc _ _ _ h2
  have hs1 : w.heap.size + 1 ≤ w1.heap.size := by have := hB1.size; simpa using this
  unfold nodeV
  go_wp2_with fail
  generalize w2.alloc (.cells #[.int .i64 kk, .string tt, .string ⟨#[]⟩, .int .u64 n, .slice a l c] 26) = F at H3 k2 k3 hB3 hR3 ⊢
  have e2 := H3.c2
  have e4 := H3.c4
  have q0 : F.cell? ⟨w2.heap.size, 0, none⟩ = some (.int .i64 kk) := by rw [Lib.cell_of_heap k3]; rfl
  have q1 : F.cell? ⟨w2.heap.size, 1, none⟩ = some (.string tt) := by rw [Lib.cell_of_heap k3]; rfl
  have q2 : F.cell? ⟨w2.heap.size, 2, none⟩ = some (.string ⟨#[]⟩) := by rw [Lib.cell_of_heap k3]; rfl
  have q3 : F.cell? ⟨w2.heap.size, 3, none⟩ = some (.int .u64 n) := by rw [Lib.cell_of_heap k3]; rfl
  have q4 : F.cell? ⟨w2.heap.size, 4, none⟩ = some (.slice a l c) := by rw [Lib.cell_of_heap k3]; rfl
  have z0 : F.cell? ⟨w.heap.size, 0, none⟩ = some (.int .i64 0) := by rw [Lib.cell_of_heap k2]; rfl
  have z1 : F.cell? ⟨w.heap.size, 1, none⟩ = some (.string ⟨#[]⟩) := by rw [Lib.cell_of_heap k2]; rfl
  have z2 : F.cell? ⟨w.heap.size, 2, none⟩ = some (.string ⟨#[]⟩) := by rw [Lib.cell_of_heap k2]; rfl
  have z3 : F.cell? ⟨w.heap.size, 3, none⟩ = some (.int .u64 0) := by rw [Lib.cell_of_heap k2]; rfl
  have z4 : F.cell? ⟨w.heap.size, 4, none⟩ = some (.slice none 0 0) := by rw [Lib.cell_of_heap k2]; rfl
  have y0 : F.frozen? ⟨w.heap.size, 0, none⟩ = false := Lib.frozen_of_heap k2 0
  have y1 : F.frozen? ⟨w.heap.size, 1, none⟩ = false := Lib.frozen_of_heap k2 1
  have y2 : F.frozen? ⟨w.heap.size, 2, none⟩ = false := Lib.frozen_of_heap k2 2
  have y3 : F.frozen? ⟨w.heap.size, 3, none⟩ = false := Lib.frozen_of_heap k2 3
  have y4 : F.frozen? ⟨w.heap.size, 4, none⟩ = false := Lib.frozen_of_heap k2 4
  have HK2 := Lib.hid k2
  have HB := Lib.hid hB3
  have HRR := Lib.hid hR3
  have HR2 := Lib.hid r2
  clear hk0 hk1 k1 k2 k3 H3 h1 h2 g2 r2 hB1 hB2 hB3 hR3 hb HRr HEe
  go_region
  have u2 : (((((F.setCell ⟨w.heap.size, 0, none⟩ (.int .i64 kk)).setCell ⟨w.heap.size, 1, none⟩ (.string tt)).setCell ⟨w.heap.size, 2, none⟩ (.string ⟨#[]⟩)).setCell ⟨w.heap.size, 3, none⟩ (.int .u64 n)).setCell ⟨w.heap.size, 4, none⟩ (.slice a l c)).drew.heap[w.heap.size]? = _ := five_row HK2.out (.int .i64 kk) (.string tt) (.string ⟨#[]⟩) (.int .u64 n) (.slice a l c)
  have u3 : Below w.heap.size w (((((F.setCell ⟨w.heap.size, 0, none⟩ (.int .i64 kk)).setCell ⟨w.heap.size, 1, none⟩ (.string tt)).setCell ⟨w.heap.size, 2, none⟩ (.string ⟨#[]⟩)).setCell ⟨w.heap.size, 3, none⟩ (.int .u64 n)).setCell ⟨w.heap.size, 4, none⟩ (.slice a l c)).drew := Below.drew (((((HB.out.setCell (p := ⟨w.heap.size, 0, none⟩) (Nat.le_refl _) _).setCell (p := ⟨w.heap.size, 1, none⟩) (Nat.le_refl _) _).setCell (p := ⟨w.heap.size, 2, none⟩) (Nat.le_refl _) _).setCell (p := ⟨w.heap.size, 3, none⟩) (Nat.le_refl _) _).setCell (p := ⟨w.heap.size, 4, none⟩) (Nat.le_refl _) _)
  have u4 : ∀ k, w1.heap.size ≤ k → k < w2.heap.size → (((((F.setCell ⟨w.heap.size, 0, none⟩ (.int .i64 kk)).setCell ⟨w.heap.size, 1, none⟩ (.string tt)).setCell ⟨w.heap.size, 2, none⟩ (.string ⟨#[]⟩)).setCell ⟨w.heap.size, 3, none⟩ (.int .u64 n)).setCell ⟨w.heap.size, 4, none⟩ (.slice a l c)).drew.heap[k]? = w2.heap[k]? := fun k h1 h2 => by
    have e := HRR.out k h1 h2
    rw [Array.getElem?_eq_getElem h2] at e ⊢
    exact five_kept e w.heap.size (.int .i64 kk) (.string tt) (.string ⟨#[]⟩) (.int .u64 n) (.slice a l c) (by omega)
  generalize (((((F.setCell ⟨w.heap.size, 0, none⟩ (.int .i64 kk)).setCell ⟨w.heap.size, 1, none⟩ (.string tt)).setCell ⟨w.heap.size, 2, none⟩ (.string ⟨#[]⟩)).setCell ⟨w.heap.size, 3, none⟩ (.int .u64 n)).setCell ⟨w.heap.size, 4, none⟩ (.slice a l c)).drew = G at u2 u3 u4 ⊢
  have p0 : G.cell? ⟨w.heap.size, 0, none⟩ = some (.int .i64 kk) := by rw [Lib.cell_of_heap u2]; rfl
  have p1 : G.cell? ⟨w.heap.size, 1, none⟩ = some (.string tt) := by rw [Lib.cell_of_heap u2]; rfl
  have p2 : G.cell? ⟨w.heap.size, 2, none⟩ = some (.string ⟨#[]⟩) := by rw [Lib.cell_of_heap u2]; rfl
  have p3 : G.cell? ⟨w.heap.size, 3, none⟩ = some (.int .u64 n) := by rw [Lib.cell_of_heap u2]; rfl
  have p4 : G.cell? ⟨w.heap.size, 4, none⟩ = some (.slice a l c) := by rw [Lib.cell_of_heap u2]; rfl
  clear z0 z1 z2 z3 z4 q0 q1 q2 q3 q4 y0 y1 y2 y3 y4 e2 e4
  go_wp2
  refine bodyPost_ret (v := .tuple #[nodeV kk tt n a l c, .bool true]) (by simp [nodeV, results, Tryz.results10, go_sem, p0, p1, p2, p3, p4]) rfl ⟨nodeV kk tt n a l c, rfl, hR _ w w1 w2 G HR2.out (by omega) u4, u3⟩

end Go.Proofs.YtciaahpocaejhaaGreatDoor
