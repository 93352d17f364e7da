/- impl: what all readings of buffers share: the deferred call, the copy of the bytes, the results. -/
import Derived.Test.YtdillheepidncaaGreatDoorFromLeaf
import Derived.Test.YtdillheepidncaaGreatDoorNodeLeaf
import Derived.Test.YtdillheepidncaaGreatDoorMakerAll
import Derived.Defers
import Derived.Recover
namespace Go.Proofs.YtdillheepidncaaGreatDoor
open Go Go.RowKit
set_option linter.unusedVariables false
set_option linter.unusedSimpArgs false

theorem noNode_idle (p q : Option Addr) (w : World) :
    CallsD Tryz.prog 16 #[.pointer p, .pointer q] .returning w fun e u' w' => e = .returned (.tuple #[]) ∧ u' = .returning ∧ w' = w := by
  refine callsD_of_wpS Tryz.func16 rfl fun c₀ cs hu => ?_
  apply wpS_seq
  apply wpS_region
  simp [wpOpsS, go_sem, recoverD, hu, Tryz.ntmps16, Exit.thenS]
  refine wpS_cond (t := false) (by simp [Act.eval, Array.replicate]) ?_
  simp only [Bool.false_eq_true, if_false]
  refine wpS_of_wp (wp_skip ?_)
  cases c₀
  simp_all [bodyPostS, results, Tryz.results16]

theorem row_bytes {w : World} {g : Nat} {bs : List UInt8} (h : RowIn w g bs) : BytesIn w ⟨g, 0, none⟩ bs := fun j u hu => by
  unfold Lib.byteCells at hu
  rw [List.getElem?_map] at hu
  obtain ⟨x, hx, rfl⟩ := Option.map_eq_some_iff.1 hu
  obtain ⟨hj, hx2⟩ := List.getElem?_eq_some_iff.1 hx
  have h1 := h j hj
  rw [show (⟨g, 0, none⟩ : Addr).add j = ⟨g, j, none⟩ by unfold Addr.add; split <;> simp_all, h1]
  unfold gB
  simp [List.getD, hx]

theorem bytes_row {w : World} {g : Nat} {bs : List UInt8} (h : BytesIn w ⟨g, 0, none⟩ bs) : RowIn w g bs := fun i hi => by
  have h1 := h i (.int .u8 ((gB bs i).toNat : Int)) (by unfold Lib.byteCells gB; simp [List.getD, hi])
  rwa [show (⟨g, 0, none⟩ : Addr).add i = ⟨g, 0 + i, none⟩ by unfold Addr.add; split <;> simp_all, Nat.zero_add] at h1

theorem row_form {w : World} {base : Nat} {e : TypeId} {v : Value} {n : Nat} {xs : List Value} (h : w.ownsRow base e 1 v n xs) (hn : 0 < n) : ∃ g c, v = .slice (some ⟨g, 0, none⟩) n c ∧ base ≤ g ∧ n ≤ c ∧ g < w.heap.size := by
  rcases h.2 with ⟨rfl, h0⟩ | ⟨g, cap, cur, rfl, hb, hg, hnc, _⟩
  · omega
  · exact ⟨g, cap, rfl, hb, hnc, (Array.getElem?_eq_some_iff.1 hg).1⟩

theorem impl_end {w w8 : World} {x0 x1 x2 x3 x4 x5 : Value} {T T2 : TypeId} (hb : Below w.heap.size w w8) (hn : w8.heap[w.heap.size]? = some (.cells #[x0, x1, x2, x3, x4] T (0, 0))) (hm : w8.heap[w.heap.size + 1]? = some (.cells #[x5] T2 (0, 0))) (v0 v1 v2 v3 v4 v5 : Value) :
    ((((((w8.setCell ⟨w.heap.size, 0, none⟩ v0).setCell ⟨w.heap.size, 1, none⟩ v1).setCell ⟨w.heap.size, 2, none⟩ v2).setCell ⟨w.heap.size, 3, none⟩ v3).setCell ⟨w.heap.size, 4, none⟩ v4).setCell ⟨w.heap.size + 1, 0, none⟩ v5).heap[w.heap.size]? = some (.cells #[v0, v1, v2, v3, v4] T (0, 0)) ∧
    ((((((w8.setCell ⟨w.heap.size, 0, none⟩ v0).setCell ⟨w.heap.size, 1, none⟩ v1).setCell ⟨w.heap.size, 2, none⟩ v2).setCell ⟨w.heap.size, 3, none⟩ v3).setCell ⟨w.heap.size, 4, none⟩ v4).setCell ⟨w.heap.size + 1, 0, none⟩ v5).heap[w.heap.size + 1]? = some (.cells #[v5] T2 (0, 0)) ∧
    Below w.heap.size w ((((((w8.setCell ⟨w.heap.size, 0, none⟩ v0).setCell ⟨w.heap.size, 1, none⟩ v1).setCell ⟨w.heap.size, 2, none⟩ v2).setCell ⟨w.heap.size, 3, none⟩ v3).setCell ⟨w.heap.size, 4, none⟩ v4).setCell ⟨w.heap.size + 1, 0, none⟩ v5) := by
  refine ⟨?_, ?_, ?_⟩
  · exact (Below.heap_setCell _ _ _ _ (by show w.heap.size ≠ w.heap.size + 1; omega)).trans (row_setG (row_setG (row_setG (row_setG (row_setG hn 0 v0) 1 v1) 2 v2) 3 v3) 4 v4)
  · refine row_setG (cur := #[x5]) ?_ 0 v5
    rw [Below.heap_setCell _ _ _ _ (by show w.heap.size + 1 ≠ w.heap.size; omega), Below.heap_setCell _ _ _ _ (by show w.heap.size + 1 ≠ w.heap.size; omega), Below.heap_setCell _ _ _ _ (by show w.heap.size + 1 ≠ w.heap.size; omega), Below.heap_setCell _ _ _ _ (by show w.heap.size + 1 ≠ w.heap.size; omega), Below.heap_setCell _ _ _ _ (by show w.heap.size + 1 ≠ w.heap.size; omega)]
    exact hm
  · exact (((((hb.setCell (p := ⟨w.heap.size, 0, none⟩) (Nat.le_refl _) v0).setCell (p := ⟨w.heap.size, 1, none⟩) (Nat.le_refl _) v1).setCell (p := ⟨w.heap.size, 2, none⟩) (Nat.le_refl _) v2).setCell (p := ⟨w.heap.size, 3, none⟩) (Nat.le_refl _) v3).setCell (p := ⟨w.heap.size, 4, none⟩) (Nat.le_refl _) v4).setCell (p := ⟨w.heap.size + 1, 0, none⟩) (Nat.le_succ _) v5

/-- A new empty row. -/
theorem own_empty (w : World) (T : TypeId) (n : Nat) (hn : n ≤ w.heap.size) : (w.alloc (.cells #[] T)).ownsRow n T 1 (.slice (some ⟨w.heap.size, 0, none⟩) 0 0) 0 [] :=
  ⟨by simp, .inr ⟨w.heap.size, 0, #[], rfl, hn, heap_alloc_new w _, Nat.le_refl _, Nat.zero_le _, rfl, rfl⟩⟩


end Go.Proofs.YtdillheepidncaaGreatDoor
