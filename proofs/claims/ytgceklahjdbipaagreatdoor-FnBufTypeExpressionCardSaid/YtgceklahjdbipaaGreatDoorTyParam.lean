/- impl.typeNode over parameters' types. -/
import Derived.Test.YtgceklahjdbipaaGreatDoorTyNode
import Derived.Deep.RegionHeld3
import Derived.Deep.DeepCutAuto
namespace Go.Proofs.YtgceklahjdbipaaGreatDoor
open Go Go.RowKit
set_option linter.unusedVariables false
set_option linter.unusedSimpArgs false

/-- A parameter's node is made, in a box of its own. -/
structure ParamMid (w : World) (t1 t2 : Tr) (b : Nat) (W : World) : Prop where
  bel : Below w.heap.size w W
  ret : W.heap[w.heap.size]? = some (.cells #[.int .i64 0, .string ⟨#[]⟩, .string ⟨#[]⟩, .int .u64 0, .slice none 0 0] 25 (0, 0))
  gt : w.heap.size < b
  box : ∃ g, W.heap[b]? = some (.cells #[.int .i64 52, .string ⟨#[]⟩, .string ⟨#[]⟩, .int .u64 0, .slice (some ⟨g, 0, none⟩) 2 2] 25 (0, 0)) ∧ NodeIn W (fun r => w.heap.size + 1 ≤ r ∧ r < W.heap.size ∧ r ≠ b) (.mk 52 ⟨#[]⟩ ⟨#[]⟩ 0 [t1, t2]) (nodeU 52 ⟨#[]⟩ ⟨#[]⟩ 0 (some ⟨g, 0, none⟩) 2 2)

theorem below_set5 {w w' : World} {b : Nat} (hb : w.heap.size ≤ b) (h : Below w.heap.size w w') (i : Nat) (v : Value) : Below w.heap.size w (w'.setCell ⟨b, i, none⟩ v) := h.setCell (p := ⟨b, i, none⟩) hb v

theorem two_node {W : World} {g lo b : Nat} {t1 t2 : Tr} {a1 a2 : Option Addr} {c1 c2 : Nat} (h : W.heap[g]? = some (.cells (nodeL t1 a1 c1 ++ nodeL t2 a2 c2).toArray 25 (0, 0))) (hlo : lo ≤ g) (hg : g < W.heap.size) (hgb : g ≠ b)
    (n1 : NodeIn W (fun r => lo ≤ r ∧ r < W.heap.size ∧ r ≠ b) t1 (nodeU t1.kind t1.text t1.more t1.num a1 t1.kids.length c1)) (n2 : NodeIn W (fun r => lo ≤ r ∧ r < W.heap.size ∧ r ≠ b) t2 (nodeU t2.kind t2.text t2.more t2.num a2 t2.kids.length c2)) :
    NodeIn W (fun r => lo ≤ r ∧ r < W.heap.size ∧ r ≠ b) (.mk 52 ⟨#[]⟩ ⟨#[]⟩ 0 [t1, t2]) (nodeU 52 ⟨#[]⟩ ⟨#[]⟩ 0 (some ⟨g, 0, none⟩) 2 2) :=
  NodeIn.mk (ks := [t1, t2]) g 0 (fun i => if i = 0 then .agg (nodeL t1 a1 c1).toArray else .agg (nodeL t2 a2 c2).toArray) (by omega) (by omega) (by decide) (by decide) (by show 2 ≤ maxLen; decide) (Nat.le_refl _) (fun _ => ⟨rfl, hlo, hg, hgb⟩)
    (fun i hi => by
      have h0 : i = 0 ∨ i = 1 := by simp at hi; omega
      rcases h0 with rfl | rfl
      · intro j hj
        have hj5 : j < 5 := by simpa [nodeL] using hj
        rw [Lib.cell_of_heap h]
        have e : (0 + 0 * 5 + j) = j := by omega
        rw [e]
        simp only [if_true, List.getElem?_toArray]
        rw [List.getElem?_append_left (by show j < 5; exact hj5)]
      · intro j hj
        have hj5 : j < 5 := by simpa [nodeL] using hj
        rw [Lib.cell_of_heap h]
        have e : (0 + 1 * 5 + j) = 5 + j := by omega
        rw [e]
        simp only [Nat.succ_ne_zero, if_false, List.getElem?_toArray, Nat.one_ne_zero]
        rw [List.getElem?_append_right (by show 5 ≤ 5 + j; omega)]
        show (nodeL t2 a2 c2)[5 + j - 5]? = _
        rw [Nat.add_sub_cancel_left])
    (fun i hi => by
      have h0 : i = 0 ∨ i = 1 := by simp at hi; omega
      rcases h0 with rfl | rfl
      · exact n1
      · exact n2)


theorem box_facts {W : World} {b : Nat} (h : W.heap[b]? = some (.cells #[.int .i64 0, .string ⟨#[]⟩, .string ⟨#[]⟩, .int .u64 0, .slice none 0 0] 25 (0, 0))) : W.heap[b]? = some (.cells #[.int .i64 0, .string ⟨#[]⟩, .string ⟨#[]⟩, .int .u64 0, .slice none 0 0] 25 (0, 0)) ∧ b < W.heap.size ∧ W.cell? ⟨b, 0, none⟩ = some (.int .i64 0) ∧ W.cell? ⟨b, 1, none⟩ = some (.string ⟨#[]⟩) ∧ W.cell? ⟨b, 2, none⟩ = some (.string ⟨#[]⟩) ∧ W.cell? ⟨b, 3, none⟩ = some (.int .u64 0) ∧ W.cell? ⟨b, 4, none⟩ = some (.slice none 0 0) ∧ W.frozen? ⟨b, 0, none⟩ = false ∧ W.frozen? ⟨b, 1, none⟩ = false ∧ W.frozen? ⟨b, 2, none⟩ = false ∧ W.frozen? ⟨b, 3, none⟩ = false ∧ W.frozen? ⟨b, 4, none⟩ = false :=
  ⟨h, (Array.getElem?_eq_some_iff.1 h).1, by rw [Lib.cell_of_heap h]; rfl, by rw [Lib.cell_of_heap h]; rfl, by rw [Lib.cell_of_heap h]; rfl, by rw [Lib.cell_of_heap h]; rfl, by rw [Lib.cell_of_heap h]; rfl, Lib.frozen_of_heap h 0, Lib.frozen_of_heap h 1, Lib.frozen_of_heap h 2, Lib.frozen_of_heap h 3, Lib.frozen_of_heap h 4⟩



theorem mid_row_box {w w2 : World} {t1 t2 : Tr} {a1 a2 : Option Addr} {c1 c2 : Nat} (hb : Below w.heap.size w w2) (hret : w2.heap[w.heap.size]? = some (.cells #[.int .i64 0, .string ⟨#[]⟩, .string ⟨#[]⟩, .int .u64 0, .slice none 0 0] 25 (0, 0))) (n1 : NodeIn w2 (fun r => w.heap.size + 1 ≤ r ∧ r < w2.heap.size) t1 (nodeU t1.kind t1.text t1.more t1.num a1 t1.kids.length c1)) (n2 : NodeIn w2 (fun r => w.heap.size + 1 ≤ r ∧ r < w2.heap.size) t2 (nodeU t2.kind t2.text t2.more t2.num a2 t2.kids.length c2)) :
    ParamMid w t1 t2 (w2.heap.size + 1) ((w2.alloc (.cells #[.int .i64 t1.kind, .string t1.text, .string t1.more, .int .u64 t1.num, .slice a1 t1.kids.length c1, .int .i64 t2.kind, .string t2.text, .string t2.more, .int .u64 t2.num, .slice a2 t2.kids.length c2] 25)).alloc (.cells #[.int .i64 52, .string ⟨#[]⟩, .string ⟨#[]⟩, .int .u64 0, .slice (some ⟨w2.heap.size, 0, none⟩) 2 2] 25)) := by
  have hlt := (Array.getElem?_eq_some_iff.1 hret).1
  have s1 := alloc_size w2 (.cells #[.int .i64 t1.kind, .string t1.text, .string t1.more, .int .u64 t1.num, .slice a1 t1.kids.length c1, .int .i64 t2.kind, .string t2.text, .string t2.more, .int .u64 t2.num, .slice a2 t2.kids.length c2] 25)
  have s2 := alloc_size (w2.alloc (.cells #[.int .i64 t1.kind, .string t1.text, .string t1.more, .int .u64 t1.num, .slice a1 t1.kids.length c1, .int .i64 t2.kind, .string t2.text, .string t2.more, .int .u64 t2.num, .slice a2 t2.kids.length c2] 25)) (.cells #[.int .i64 52, .string ⟨#[]⟩, .string ⟨#[]⟩, .int .u64 0, .slice (some ⟨w2.heap.size, 0, none⟩) 2 2] 25)
  have hk : ∀ r, r < w2.heap.size → ((w2.alloc (.cells #[.int .i64 t1.kind, .string t1.text, .string t1.more, .int .u64 t1.num, .slice a1 t1.kids.length c1, .int .i64 t2.kind, .string t2.text, .string t2.more, .int .u64 t2.num, .slice a2 t2.kids.length c2] 25)).alloc (.cells #[.int .i64 52, .string ⟨#[]⟩, .string ⟨#[]⟩, .int .u64 0, .slice (some ⟨w2.heap.size, 0, none⟩) 2 2] 25)).heap[r]? = w2.heap[r]? := fun r hr => (Below.heap_alloc _ _ _ (by omega)).trans (Below.heap_alloc _ _ _ hr)
  have hg : ((w2.alloc (.cells #[.int .i64 t1.kind, .string t1.text, .string t1.more, .int .u64 t1.num, .slice a1 t1.kids.length c1, .int .i64 t2.kind, .string t2.text, .string t2.more, .int .u64 t2.num, .slice a2 t2.kids.length c2] 25)).alloc (.cells #[.int .i64 52, .string ⟨#[]⟩, .string ⟨#[]⟩, .int .u64 0, .slice (some ⟨w2.heap.size, 0, none⟩) 2 2] 25)).heap[w2.heap.size]? = _ := (Below.heap_alloc _ _ _ (by omega)).trans (heap_alloc_new w2 (.cells #[.int .i64 t1.kind, .string t1.text, .string t1.more, .int .u64 t1.num, .slice a1 t1.kids.length c1, .int .i64 t2.kind, .string t2.text, .string t2.more, .int .u64 t2.num, .slice a2 t2.kids.length c2] 25))
  have hx := heap_alloc_new (w2.alloc (.cells #[.int .i64 t1.kind, .string t1.text, .string t1.more, .int .u64 t1.num, .slice a1 t1.kids.length c1, .int .i64 t2.kind, .string t2.text, .string t2.more, .int .u64 t2.num, .slice a2 t2.kids.length c2] 25)) (.cells #[.int .i64 52, .string ⟨#[]⟩, .string ⟨#[]⟩, .int .u64 0, .slice (some ⟨w2.heap.size, 0, none⟩) 2 2] 25)
  rw [s1] at hx
  refine ⟨(hb.alloc hb.size _).alloc (by omega) _, (hk _ hlt).trans hret, by omega, w2.heap.size, hx, two_node (a1 := a1) (a2 := a2) (c1 := c1) (c2 := c2) hg (by omega) (by omega) (by omega) ?_ ?_⟩
  · exact NodeIn.mono (B := fun r => w.heap.size + 1 ≤ r ∧ r < w2.heap.size) (fun r hr => ⟨hr.1, by omega, by omega⟩) (NodeIn.keep (w := w2) (fun r hr => hk r hr.2) n1)
  · exact NodeIn.mono (B := fun r => w.heap.size + 1 ≤ r ∧ r < w2.heap.size) (fun r hr => ⟨hr.1, by omega, by omega⟩) (NodeIn.keep (w := w2) (fun r hr => hk r hr.2) n2)

theorem mid_box_row {w w2 : World} {t1 t2 : Tr} {a1 a2 : Option Addr} {c1 c2 : Nat} (hb : Below w.heap.size w w2) (hret : w2.heap[w.heap.size]? = some (.cells #[.int .i64 0, .string ⟨#[]⟩, .string ⟨#[]⟩, .int .u64 0, .slice none 0 0] 25 (0, 0))) (n1 : NodeIn w2 (fun r => w.heap.size + 1 ≤ r ∧ r < w2.heap.size) t1 (nodeU t1.kind t1.text t1.more t1.num a1 t1.kids.length c1)) (n2 : NodeIn w2 (fun r => w.heap.size + 1 ≤ r ∧ r < w2.heap.size) t2 (nodeU t2.kind t2.text t2.more t2.num a2 t2.kids.length c2)) :
    ParamMid w t1 t2 w2.heap.size ((w2.alloc (.cells #[.int .i64 52, .string ⟨#[]⟩, .string ⟨#[]⟩, .int .u64 0, .slice (some ⟨w2.heap.size + 1, 0, none⟩) 2 2] 25)).alloc (.cells #[.int .i64 t1.kind, .string t1.text, .string t1.more, .int .u64 t1.num, .slice a1 t1.kids.length c1, .int .i64 t2.kind, .string t2.text, .string t2.more, .int .u64 t2.num, .slice a2 t2.kids.length c2] 25)) := by
  have hlt := (Array.getElem?_eq_some_iff.1 hret).1
  have s1 := alloc_size w2 (.cells #[.int .i64 52, .string ⟨#[]⟩, .string ⟨#[]⟩, .int .u64 0, .slice (some ⟨w2.heap.size + 1, 0, none⟩) 2 2] 25)
  have s2 := alloc_size (w2.alloc (.cells #[.int .i64 52, .string ⟨#[]⟩, .string ⟨#[]⟩, .int .u64 0, .slice (some ⟨w2.heap.size + 1, 0, none⟩) 2 2] 25)) (.cells #[.int .i64 t1.kind, .string t1.text, .string t1.more, .int .u64 t1.num, .slice a1 t1.kids.length c1, .int .i64 t2.kind, .string t2.text, .string t2.more, .int .u64 t2.num, .slice a2 t2.kids.length c2] 25)
  have hk : ∀ r, r < w2.heap.size → ((w2.alloc (.cells #[.int .i64 52, .string ⟨#[]⟩, .string ⟨#[]⟩, .int .u64 0, .slice (some ⟨w2.heap.size + 1, 0, none⟩) 2 2] 25)).alloc (.cells #[.int .i64 t1.kind, .string t1.text, .string t1.more, .int .u64 t1.num, .slice a1 t1.kids.length c1, .int .i64 t2.kind, .string t2.text, .string t2.more, .int .u64 t2.num, .slice a2 t2.kids.length c2] 25)).heap[r]? = w2.heap[r]? := fun r hr => (Below.heap_alloc _ _ _ (by omega)).trans (Below.heap_alloc _ _ _ hr)
  have hx : ((w2.alloc (.cells #[.int .i64 52, .string ⟨#[]⟩, .string ⟨#[]⟩, .int .u64 0, .slice (some ⟨w2.heap.size + 1, 0, none⟩) 2 2] 25)).alloc (.cells #[.int .i64 t1.kind, .string t1.text, .string t1.more, .int .u64 t1.num, .slice a1 t1.kids.length c1, .int .i64 t2.kind, .string t2.text, .string t2.more, .int .u64 t2.num, .slice a2 t2.kids.length c2] 25)).heap[w2.heap.size]? = _ := (Below.heap_alloc _ _ _ (by omega)).trans (heap_alloc_new w2 (.cells #[.int .i64 52, .string ⟨#[]⟩, .string ⟨#[]⟩, .int .u64 0, .slice (some ⟨w2.heap.size + 1, 0, none⟩) 2 2] 25))
  have hg := heap_alloc_new (w2.alloc (.cells #[.int .i64 52, .string ⟨#[]⟩, .string ⟨#[]⟩, .int .u64 0, .slice (some ⟨w2.heap.size + 1, 0, none⟩) 2 2] 25)) (.cells #[.int .i64 t1.kind, .string t1.text, .string t1.more, .int .u64 t1.num, .slice a1 t1.kids.length c1, .int .i64 t2.kind, .string t2.text, .string t2.more, .int .u64 t2.num, .slice a2 t2.kids.length c2] 25)
  rw [s1] at hg
  refine ⟨(hb.alloc hb.size _).alloc (by omega) _, (hk _ hlt).trans hret, by omega, w2.heap.size + 1, hx, two_node (a1 := a1) (a2 := a2) (c1 := c1) (c2 := c2) hg (by omega) (by omega) (by omega) ?_ ?_⟩
  · exact NodeIn.mono (B := fun r => w.heap.size + 1 ≤ r ∧ r < w2.heap.size) (fun r hr => ⟨hr.1, by omega, by omega⟩) (NodeIn.keep (w := w2) (fun r hr => hk r hr.2) n1)
  · exact NodeIn.mono (B := fun r => w.heap.size + 1 ≤ r ∧ r < w2.heap.size) (fun r hr => ⟨hr.1, by omega, by omega⟩) (NodeIn.keep (w := w2) (fun r hr => hk r hr.2) n2)

theorem mid_set {w w2 : World} {t1 t2 : Tr} {a1 a2 : Option Addr} {c1 c2 b : Nat} (hb : Below w.heap.size w w2) (hret : w2.heap[w.heap.size]? = some (.cells #[.int .i64 0, .string ⟨#[]⟩, .string ⟨#[]⟩, .int .u64 0, .slice none 0 0] 25 (0, 0))) (hgt : w.heap.size < b) (hbox : w2.heap[b]? = some (.cells #[.int .i64 0, .string ⟨#[]⟩, .string ⟨#[]⟩, .int .u64 0, .slice none 0 0] 25 (0, 0))) (n1 : NodeIn w2 (fun r => w.heap.size + 1 ≤ r ∧ r < w2.heap.size ∧ r ≠ b) t1 (nodeU t1.kind t1.text t1.more t1.num a1 t1.kids.length c1)) (n2 : NodeIn w2 (fun r => w.heap.size + 1 ≤ r ∧ r < w2.heap.size ∧ r ≠ b) t2 (nodeU t2.kind t2.text t2.more t2.num a2 t2.kids.length c2)) :
    ParamMid w t1 t2 b ((((((w2.setCell ⟨b, 0, none⟩ (.int .i64 52)).setCell ⟨b, 1, none⟩ (.string ⟨#[]⟩)).setCell ⟨b, 2, none⟩ (.string ⟨#[]⟩)).setCell ⟨b, 3, none⟩ (.int .u64 0)).setCell ⟨b, 4, none⟩ (.slice (some ⟨w2.heap.size, 0, none⟩) 2 2)).alloc (.cells #[.int .i64 t1.kind, .string t1.text, .string t1.more, .int .u64 t1.num, .slice a1 t1.kids.length c1, .int .i64 t2.kind, .string t2.text, .string t2.more, .int .u64 t2.num, .slice a2 t2.kids.length c2] 25)) := by
  have hlt := (Array.getElem?_eq_some_iff.1 hret).1
  have hltb := (Array.getElem?_eq_some_iff.1 hbox).1
  have hs : (((((w2.setCell ⟨b, 0, none⟩ (.int .i64 52)).setCell ⟨b, 1, none⟩ (.string ⟨#[]⟩)).setCell ⟨b, 2, none⟩ (.string ⟨#[]⟩)).setCell ⟨b, 3, none⟩ (.int .u64 0)).setCell ⟨b, 4, none⟩ (.slice (some ⟨w2.heap.size, 0, none⟩) 2 2)).heap.size = w2.heap.size := by simp [World.setCell]
  have hne : ∀ r, r ≠ b → (((((w2.setCell ⟨b, 0, none⟩ (.int .i64 52)).setCell ⟨b, 1, none⟩ (.string ⟨#[]⟩)).setCell ⟨b, 2, none⟩ (.string ⟨#[]⟩)).setCell ⟨b, 3, none⟩ (.int .u64 0)).setCell ⟨b, 4, none⟩ (.slice (some ⟨w2.heap.size, 0, none⟩) 2 2)).heap[r]? = w2.heap[r]? := fun r hr => five_other hr _ _ _ _ _
  have hx := row_setG (row_setG (row_setG (row_setG (row_setG hbox 0 (.int .i64 52)) 1 (.string ⟨#[]⟩)) 2 (.string ⟨#[]⟩)) 3 (.int .u64 0)) 4 (.slice (some ⟨w2.heap.size, 0, none⟩) 2 2)
  have hbs : Below w.heap.size w (((((w2.setCell ⟨b, 0, none⟩ (.int .i64 52)).setCell ⟨b, 1, none⟩ (.string ⟨#[]⟩)).setCell ⟨b, 2, none⟩ (.string ⟨#[]⟩)).setCell ⟨b, 3, none⟩ (.int .u64 0)).setCell ⟨b, 4, none⟩ (.slice (some ⟨w2.heap.size, 0, none⟩) 2 2)) := below_set5 (Nat.le_of_lt hgt) (below_set5 (Nat.le_of_lt hgt) (below_set5 (Nat.le_of_lt hgt) (below_set5 (Nat.le_of_lt hgt) (below_set5 (Nat.le_of_lt hgt) hb _ _) _ _) _ _) _ _) _ _
  generalize (((((w2.setCell ⟨b, 0, none⟩ (.int .i64 52)).setCell ⟨b, 1, none⟩ (.string ⟨#[]⟩)).setCell ⟨b, 2, none⟩ (.string ⟨#[]⟩)).setCell ⟨b, 3, none⟩ (.int .u64 0)).setCell ⟨b, 4, none⟩ (.slice (some ⟨w2.heap.size, 0, none⟩) 2 2)) = F at *
  have s1 := alloc_size F (.cells #[.int .i64 t1.kind, .string t1.text, .string t1.more, .int .u64 t1.num, .slice a1 t1.kids.length c1, .int .i64 t2.kind, .string t2.text, .string t2.more, .int .u64 t2.num, .slice a2 t2.kids.length c2] 25)
  have hk : ∀ r, r < w2.heap.size → r ≠ b → (F.alloc (.cells #[.int .i64 t1.kind, .string t1.text, .string t1.more, .int .u64 t1.num, .slice a1 t1.kids.length c1, .int .i64 t2.kind, .string t2.text, .string t2.more, .int .u64 t2.num, .slice a2 t2.kids.length c2] 25)).heap[r]? = w2.heap[r]? := fun r hr hrb => (Below.heap_alloc _ _ _ (by omega)).trans (hne r hrb)
  have hg := heap_alloc_new F (.cells #[.int .i64 t1.kind, .string t1.text, .string t1.more, .int .u64 t1.num, .slice a1 t1.kids.length c1, .int .i64 t2.kind, .string t2.text, .string t2.more, .int .u64 t2.num, .slice a2 t2.kids.length c2] 25)
  rw [hs] at hg
  refine ⟨hbs.alloc hbs.size _, (hk _ hlt (by omega)).trans hret, hgt, w2.heap.size, (Below.heap_alloc _ _ _ (by omega)).trans hx, two_node (a1 := a1) (a2 := a2) (c1 := c1) (c2 := c2) hg (by omega) (by omega) (by omega) ?_ ?_⟩
  · exact NodeIn.mono (B := fun r => w.heap.size + 1 ≤ r ∧ r < w2.heap.size ∧ r ≠ b) (fun r hr => ⟨hr.1, by omega, hr.2.2⟩) (NodeIn.keep (w := w2) (fun r hr => hk r hr.2.1 hr.2.2) n1)
  · exact NodeIn.mono (B := fun r => w.heap.size + 1 ≤ r ∧ r < w2.heap.size ∧ r ≠ b) (fun r hr => ⟨hr.1, by omega, hr.2.2⟩) (NodeIn.keep (w := w2) (fun r hr => hk r hr.2.1 hr.2.2) n2)

/-- Another number in the node. -/
theorem NodeIn.num {w : World} {B : Nat → Prop} {k : Int} {t m : ByteArray} {n : Int} {ks : List Tr} {a : Option Addr} {l c : Nat} (h : NodeIn w B (.mk k t m n ks) (nodeU k t m n a l c)) (n' : Int) (hn : 0 ≤ n' ∧ n' ≤ 18446744073709551615) : NodeIn w B (.mk k t m n' ks) (nodeU k t m n' a l c) := by
  obtain ⟨a', c', e, h1, h2, h3, h4, h5, h6, h7⟩ := h.parts
  have e2 : nodeU k t m n a l c = nodeU k t m n a' ks.length c' := e
  unfold nodeU at e2
  simp at e2
  obtain ⟨rfl, rfl, rfl⟩ := e2
  by_cases hk : ks = []
  · subst hk
    exact NodeIn.leaf h1 hn h3 h4 a c
  · obtain ⟨b, o, f, ha, hb, hc, hkid⟩ := h7 hk
    exact NodeIn.mk b o f h1 hn h3 h4 h5 h6 (fun _ => ⟨ha, hb⟩) hc hkid

/-- .. and the number is put in. -/
theorem ParamMid.put {w W : World} {t1 t2 : Tr} {b : Nat} (h : ParamMid w t1 t2 b W) (u : Nat) (hu : u ≤ 2) : Below w.heap.size w (W.setCell ⟨b, 3, none⟩ (.int .u64 u)) ∧ (W.setCell ⟨b, 3, none⟩ (.int .u64 u)).heap[w.heap.size]? = some (.cells #[.int .i64 0, .string ⟨#[]⟩, .string ⟨#[]⟩, .int .u64 0, .slice none 0 0] 25 (0, 0)) ∧
    ∃ g, (W.setCell ⟨b, 3, none⟩ (.int .u64 u)).heap[b]? = some (.cells #[.int .i64 52, .string ⟨#[]⟩, .string ⟨#[]⟩, .int .u64 u, .slice (some ⟨g, 0, none⟩) 2 2] 25 (0, 0)) ∧ NodeIn (W.setCell ⟨b, 3, none⟩ (.int .u64 u)) (fun r => w.heap.size + 1 ≤ r ∧ r < (W.setCell ⟨b, 3, none⟩ (.int .u64 u)).heap.size) (.mk 52 ⟨#[]⟩ ⟨#[]⟩ u [t1, t2]) (nodeU 52 ⟨#[]⟩ ⟨#[]⟩ u (some ⟨g, 0, none⟩) 2 2) := by
  obtain ⟨g, h1, h2⟩ := h.box
  have hgt := h.gt
  have hs : (W.setCell ⟨b, 3, none⟩ (.int .u64 u)).heap.size = W.heap.size := by simp [World.setCell]
  refine ⟨below_set5 (Nat.le_of_lt hgt) h.bel _ _, (Below.heap_setCell _ _ _ _ (by show w.heap.size ≠ b; omega)).trans h.ret, g, row_setG h1 3 _, ?_⟩
  rw [hs]
  exact NodeIn.num (NodeIn.mono (B := fun r => w.heap.size + 1 ≤ r ∧ r < W.heap.size ∧ r ≠ b) (fun r hr => ⟨hr.1, hr.2.1⟩) (NodeIn.keep (w := W) (fun r hr => Below.heap_setCell _ _ _ _ hr.2.2) h2)) u (by omega)


set_option maxHeartbeats 8000000 in
set_option maxRecDepth 100000 in
theorem typeNodeParameterType_gives (r : Nat) (x1 x2 : Value) (kd : ByteArray) (u : Nat) (hu : kd = ⟨#[79, 112, 116, 105, 111, 110, 97, 108]⟩ ∧ u = 1 ∨ kd = ⟨#[80, 105, 112, 101]⟩ ∧ u = 2 ∨ kd ≠ ⟨#[79, 112, 116, 105, 111, 110, 97, 108]⟩ ∧ kd ≠ ⟨#[80, 105, 112, 101]⟩ ∧ u = 0) (t1 t2 : Tr) (w : World) (h : w.heap[r]? = some (.cells #[.pointer none, .slice none 0 0, .slice none 0 0, x1, x2, .string kd] 63 (0, 0)))
    (hx : ∀ W, Below w.heap.size w W → Calls Tryz.prog 38 #[x1] W (Gives t1 W)) (hy : ∀ W, Below w.heap.size w W → Calls Tryz.prog 40 #[x2] W (Gives t2 W)) :
    Calls Tryz.prog 54 #[.iface 59 (.pointer (some ⟨r, 0, none⟩))] w (Gives (.mk 52 ⟨#[]⟩ ⟨#[]⟩ u [t1, t2]) w) := by
  have q0 : ∀ W, (Instr.typeAssert (.iface 59 (.pointer (some ⟨r, 0, none⟩))) 83 73 true).run Tryz.prog W = .ok (.tuple #[.pointer none, .bool false]) W := run_assert_other _ _ _ _ _ _ Tryz.underlying73 (by decide) (by kernel_rfl)
  have q1 : ∀ W, (Instr.typeAssert (.iface 59 (.pointer (some ⟨r, 0, none⟩))) 83 303 true).run Tryz.prog W = .ok (.tuple #[.pointer none, .bool false]) W := run_assert_other _ _ _ _ _ _ Tryz.underlying303 (by decide) (by kernel_rfl)
  have q2 : ∀ W, (Instr.typeAssert (.iface 59 (.pointer (some ⟨r, 0, none⟩))) 83 306 true).run Tryz.prog W = .ok (.tuple #[.pointer none, .bool false]) W := run_assert_other _ _ _ _ _ _ Tryz.underlying306 (by decide) (by kernel_rfl)
  have q3 : ∀ W, (Instr.typeAssert (.iface 59 (.pointer (some ⟨r, 0, none⟩))) 83 308 true).run Tryz.prog W = .ok (.tuple #[.pointer none, .bool false]) W := run_assert_other _ _ _ _ _ _ Tryz.underlying308 (by decide) (by kernel_rfl)
  have q4 : ∀ W, (Instr.typeAssert (.iface 59 (.pointer (some ⟨r, 0, none⟩))) 83 38 true).run Tryz.prog W = .ok (.tuple #[.pointer none, .bool false]) W := run_assert_other _ _ _ _ _ _ Tryz.underlying38 (by decide) (by kernel_rfl)
  have q5 : ∀ W, (Instr.typeAssert (.iface 59 (.pointer (some ⟨r, 0, none⟩))) 83 311 true).run Tryz.prog W = .ok (.tuple #[.pointer none, .bool false]) W := run_assert_other _ _ _ _ _ _ Tryz.underlying311 (by decide) (by kernel_rfl)
  have q6 : ∀ W, (Instr.typeAssert (.iface 59 (.pointer (some ⟨r, 0, none⟩))) 83 67 true).run Tryz.prog W = .ok (.tuple #[.pointer none, .bool false]) W := run_assert_other _ _ _ _ _ _ Tryz.underlying67 (by decide) (by kernel_rfl)
  have q7 : ∀ W, (Instr.typeAssert (.iface 59 (.pointer (some ⟨r, 0, none⟩))) 83 316 true).run Tryz.prog W = .ok (.tuple #[.pointer none, .bool false]) W := run_assert_other _ _ _ _ _ _ Tryz.underlying316 (by decide) (by kernel_rfl)
  have q8 : ∀ W, (Instr.typeAssert (.iface 59 (.pointer (some ⟨r, 0, none⟩))) 83 59 true).run Tryz.prog W = .ok (.tuple #[.pointer (some ⟨r, 0, none⟩), .bool true]) W := run_assert_same _ _ _ _ Tryz.underlying59
  have hb0 := (Below.refl w.heap.size w).alloc (Nat.le_refl _) (.cells #[.int .i64 0, .string ⟨#[]⟩, .string ⟨#[]⟩, .int .u64 0, .slice none 0 0] 25)
  have hr : r < w.heap.size := (Array.getElem?_eq_some_iff.1 h).1
  have hr0 := heap_alloc_new w (.cells #[.int .i64 0, .string ⟨#[]⟩, .string ⟨#[]⟩, .int .u64 0, .slice none 0 0] 25)
  have hs0 : (w.alloc (.cells #[.int .i64 0, .string ⟨#[]⟩, .string ⟨#[]⟩, .int .u64 0, .slice none 0 0] 25)).heap.size = w.heap.size + 1 := alloc_size _ _
  obtain ⟨w0, hw0⟩ : ∃ w0, w0 = w.alloc (.cells #[.int .i64 0, .string ⟨#[]⟩, .string ⟨#[]⟩, .int .u64 0, .slice none 0 0] 25) := ⟨_, rfl⟩
  rw [← hw0] at hb0 hr0 hs0
  have HB0 := Lib.hid hb0
  have HR0 := Lib.hid hr0
  have HS0 := Lib.hid hs0
  have h0 := (hb0.block r hr).trans h
  have H0 := Lib.hid h0
  have HW0 := Lib.hid hw0
  have HSW : Hid (∀ w', Below w.heap.size w w' → w'.cell? ⟨r, 3, none⟩ = some (x1) ∧ w'.cell? ⟨r, 4, none⟩ = some (x2)) := Lib.hid fun w' hb => by
    have hc : ∀ i, w'.cell? ⟨r, i, none⟩ = w.cell? ⟨r, i, none⟩ := fun i => hb.cell (p := ⟨r, i, none⟩) hr
    exact ⟨(hc _).trans (by rw [Lib.cell_of_heap h]; rfl), (hc _).trans (by rw [Lib.cell_of_heap h]; rfl)⟩
  have HKD : Hid (∀ w', Below w.heap.size w w' → w'.cell? ⟨r, 5, none⟩ = some (.string kd)) := Lib.hid fun w' hb => (hb.cell (p := ⟨r, 5, none⟩) hr).trans (by rw [Lib.cell_of_heap h]; rfl)
  have HO : Hid (∀ w', Below w0.heap.size w0.drew w' → Calls Tryz.prog 38 #[x1] w' (Gives t1 w')) := Lib.hid fun w' hb => hx w' (hb0.drew.trans (hb.mono hb0.size))
  have HO1 : Hid (∀ w', Below w0.heap.size w0.drew w' → Calls Tryz.prog 40 #[x2] w' (Gives t2 w')) := Lib.hid fun w' hb => hy w' (hb0.drew.trans (hb.mono hb0.size))
  have HX0 : Hid (Below w0.heap.size w0.drew w0.drew) := Lib.hid (Below.refl _ _)
  have HXA : Hid (Below w0.heap.size w0.drew (w0.alloc (.cells #[.int .i64 0, .string ⟨#[]⟩, .string ⟨#[]⟩, .int .u64 0, .slice none 0 0] 25)).drew) := Lib.hid ((Below.refl w0.heap.size w0.drew).alloc (Nat.le_refl _) _)
  have HXB : Hid (Below w.heap.size w (w0.alloc (.cells #[.int .i64 0, .string ⟨#[]⟩, .string ⟨#[]⟩, .int .u64 0, .slice none 0 0] 25))) := Lib.hid (hb0.alloc hb0.size _)
  clear h hb0 hr0 hx hy hs0
  go_enter Tryz.func54, Tryz.ntmps54
  go_upto_region 28 with fail
  rw [← HW0.out]
  clear hw0 HW0
  have HS : Hid (∀ w', Below w0.heap.size w0.drew w' → w'.cell? ⟨r, 3, none⟩ = some (x1) ∧ w'.cell? ⟨r, 4, none⟩ = some (x2)) := Lib.hid fun w' hb => by
    have hc : ∀ i, w'.cell? ⟨r, i, none⟩ = w0.cell? ⟨r, i, none⟩ := fun i => hb.cell (p := ⟨r, i, none⟩) (Array.getElem?_eq_some_iff.1 H0.out).1
    exact ⟨(hc _).trans (by rw [Lib.cell_of_heap H0.out]; rfl), (hc _).trans (by rw [Lib.cell_of_heap H0.out]; rfl)⟩
  -- the first call, where the box is made ahead of it or not
  have HC1 : Hid (∀ X a1 c1 w1, Below w0.heap.size w0.drew X → Below X.heap.size X w1 → NodeIn w1 (fun r => X.heap.size ≤ r ∧ r < w1.heap.size) t1 (nodeU t1.kind t1.text t1.more t1.num a1 t1.kids.length c1) →
      Below w0.heap.size w0.drew w1 ∧ Below w0.heap.size w0.drew (w1.alloc (.cells #[.int .i64 0, .string ⟨#[]⟩, .string ⟨#[]⟩, .int .u64 0, .slice none 0 0] 25)) ∧ NodeIn w1 (fun r => X.heap.size ≤ r ∧ r < w1.heap.size) t1 (nodeU t1.kind t1.text t1.more t1.num a1 t1.kids.length c1) ∧ w.heap.size + 1 ≤ X.heap.size ∧ X.heap.size ≤ w1.heap.size ∧ (X.heap[w0.heap.size]? = some (.cells #[.int .i64 0, .string ⟨#[]⟩, .string ⟨#[]⟩, .int .u64 0, .slice none 0 0] 25 (0, 0)) → (w1.heap[w0.heap.size]? = some (.cells #[.int .i64 0, .string ⟨#[]⟩, .string ⟨#[]⟩, .int .u64 0, .slice none 0 0] 25 (0, 0)) ∧ w0.heap.size < w1.heap.size ∧ w1.cell? ⟨w0.heap.size, 0, none⟩ = some (.int .i64 0) ∧ w1.cell? ⟨w0.heap.size, 1, none⟩ = some (.string ⟨#[]⟩) ∧ w1.cell? ⟨w0.heap.size, 2, none⟩ = some (.string ⟨#[]⟩) ∧ w1.cell? ⟨w0.heap.size, 3, none⟩ = some (.int .u64 0) ∧ w1.cell? ⟨w0.heap.size, 4, none⟩ = some (.slice none 0 0) ∧ w1.frozen? ⟨w0.heap.size, 0, none⟩ = false ∧ w1.frozen? ⟨w0.heap.size, 1, none⟩ = false ∧ w1.frozen? ⟨w0.heap.size, 2, none⟩ = false ∧ w1.frozen? ⟨w0.heap.size, 3, none⟩ = false ∧ w1.frozen? ⟨w0.heap.size, 4, none⟩ = false))) := Lib.hid fun X a1 c1 w1 h1 h2 h3 => by
    have h4 := h1.trans (h2.mono h1.size)
    have e1 := h1.size
    have e2 := HS0.out
    have e3 : w0.drew.heap.size = w0.heap.size := rfl
    exact ⟨h4, h4.alloc h4.size _, h3, by omega, h2.size, fun hz => box_facts ((h2.block _ (Array.getElem?_eq_some_iff.1 hz).1).trans hz)⟩
  have HC2 : Hid (∀ (X : World) a1 c1 a2 c2 (Y : World) w1 w2, Below w0.heap.size w0.drew w1 → Below w1.heap.size w1 Y → Below Y.heap.size Y w2 → NodeIn w1 (fun r => X.heap.size ≤ r ∧ r < w1.heap.size) t1 (nodeU t1.kind t1.text t1.more t1.num a1 t1.kids.length c1) → NodeIn w2 (fun r => Y.heap.size ≤ r ∧ r < w2.heap.size) t2 (nodeU t2.kind t2.text t2.more t2.num a2 t2.kids.length c2) → w.heap.size + 1 ≤ X.heap.size →
      Below w0.heap.size w0.drew w2 ∧ NodeIn w2 (fun r => X.heap.size ≤ r ∧ r < w1.heap.size) t1 (nodeU t1.kind t1.text t1.more t1.num a1 t1.kids.length c1) ∧ NodeIn w2 (fun r => Y.heap.size ≤ r ∧ r < w2.heap.size) t2 (nodeU t2.kind t2.text t2.more t2.num a2 t2.kids.length c2) ∧ w1.heap.size ≤ Y.heap.size ∧ Y.heap.size ≤ w2.heap.size ∧ (w2.heap[w.heap.size]? = some (.cells #[.int .i64 0, .string ⟨#[]⟩, .string ⟨#[]⟩, .int .u64 0, .slice none 0 0] 25 (0, 0)) ∧ w.heap.size < w2.heap.size ∧ w2.cell? ⟨w.heap.size, 0, none⟩ = some (.int .i64 0) ∧ w2.cell? ⟨w.heap.size, 1, none⟩ = some (.string ⟨#[]⟩) ∧ w2.cell? ⟨w.heap.size, 2, none⟩ = some (.string ⟨#[]⟩) ∧ w2.cell? ⟨w.heap.size, 3, none⟩ = some (.int .u64 0) ∧ w2.cell? ⟨w.heap.size, 4, none⟩ = some (.slice none 0 0) ∧ w2.frozen? ⟨w.heap.size, 0, none⟩ = false ∧ w2.frozen? ⟨w.heap.size, 1, none⟩ = false ∧ w2.frozen? ⟨w.heap.size, 2, none⟩ = false ∧ w2.frozen? ⟨w.heap.size, 3, none⟩ = false ∧ w2.frozen? ⟨w.heap.size, 4, none⟩ = false) ∧ Below w.heap.size w w2 ∧
        (Y.heap[w1.heap.size]? = some (.cells #[.int .i64 0, .string ⟨#[]⟩, .string ⟨#[]⟩, .int .u64 0, .slice none 0 0] 25 (0, 0)) → (w2.heap[w1.heap.size]? = some (.cells #[.int .i64 0, .string ⟨#[]⟩, .string ⟨#[]⟩, .int .u64 0, .slice none 0 0] 25 (0, 0)) ∧ w1.heap.size < w2.heap.size ∧ w2.cell? ⟨w1.heap.size, 0, none⟩ = some (.int .i64 0) ∧ w2.cell? ⟨w1.heap.size, 1, none⟩ = some (.string ⟨#[]⟩) ∧ w2.cell? ⟨w1.heap.size, 2, none⟩ = some (.string ⟨#[]⟩) ∧ w2.cell? ⟨w1.heap.size, 3, none⟩ = some (.int .u64 0) ∧ w2.cell? ⟨w1.heap.size, 4, none⟩ = some (.slice none 0 0) ∧ w2.frozen? ⟨w1.heap.size, 0, none⟩ = false ∧ w2.frozen? ⟨w1.heap.size, 1, none⟩ = false ∧ w2.frozen? ⟨w1.heap.size, 2, none⟩ = false ∧ w2.frozen? ⟨w1.heap.size, 3, none⟩ = false ∧ w2.frozen? ⟨w1.heap.size, 4, none⟩ = false)) ∧ (w1.heap[w0.heap.size]? = some (.cells #[.int .i64 0, .string ⟨#[]⟩, .string ⟨#[]⟩, .int .u64 0, .slice none 0 0] 25 (0, 0)) → (w2.heap[w0.heap.size]? = some (.cells #[.int .i64 0, .string ⟨#[]⟩, .string ⟨#[]⟩, .int .u64 0, .slice none 0 0] 25 (0, 0)) ∧ w0.heap.size < w2.heap.size ∧ w2.cell? ⟨w0.heap.size, 0, none⟩ = some (.int .i64 0) ∧ w2.cell? ⟨w0.heap.size, 1, none⟩ = some (.string ⟨#[]⟩) ∧ w2.cell? ⟨w0.heap.size, 2, none⟩ = some (.string ⟨#[]⟩) ∧ w2.cell? ⟨w0.heap.size, 3, none⟩ = some (.int .u64 0) ∧ w2.cell? ⟨w0.heap.size, 4, none⟩ = some (.slice none 0 0) ∧ w2.frozen? ⟨w0.heap.size, 0, none⟩ = false ∧ w2.frozen? ⟨w0.heap.size, 1, none⟩ = false ∧ w2.frozen? ⟨w0.heap.size, 2, none⟩ = false ∧ w2.frozen? ⟨w0.heap.size, 3, none⟩ = false ∧ w2.frozen? ⟨w0.heap.size, 4, none⟩ = false))) := Lib.hid fun X a1 c1 a2 c2 Y w1 w2 h1 h2 h3 h4 h5 h6 => by
    have h7 := h2.trans (h3.mono h2.size)
    have h8 := h1.trans (h7.mono h1.size)
    have hr2 : w2.heap[w.heap.size]? = some (.cells #[.int .i64 0, .string ⟨#[]⟩, .string ⟨#[]⟩, .int .u64 0, .slice none 0 0] 25 (0, 0)) := (h8.block _ (Array.getElem?_eq_some_iff.1 HR0.out).1).trans HR0.out
    exact ⟨h8, h4.keep (fun r hr => h7.block r hr.2), h5, h2.size, h3.size, box_facts hr2, HB0.out.drew.trans (h8.mono HB0.out.size), fun hz => box_facts ((h3.block _ (Array.getElem?_eq_some_iff.1 hz).1).trans hz), fun hz => box_facts ((h7.block _ (Array.getElem?_eq_some_iff.1 hz).1).trans hz)⟩
  go_cut [12] (fun v wx => ∃ b, v = .pointer (some ⟨b, 0, none⟩) ∧ Hid (ParamMid w t1 t2 b wx))
  case first =>
    go_region_held3 (fun w' => w'.cell? ⟨r, 3, none⟩ = some (x1) ∧ w'.cell? ⟨r, 4, none⟩ = some (x2)) (first | with_reducible exact HS.out _ (Below.refl _ _) | with_reducible exact HSW.out _ HXB.out | with_reducible exact HS.out _ HXA.out | with_reducible exact HS.out _ hb1d | with_reducible exact HS.out _ hb1a | with_reducible exact HS.out _ hb1e | with_reducible exact HS.out _ hb2 | (with_reducible refine HSW.out _ ?_; repeat (first | with_reducible exact hb2w | with_reducible refine below_set5 hgtw ?_ _ _ | with_reducible refine below_more ?_ _)) | go_keep) (first
      | (go_at_call 38; ((with_reducible refine (HO.out _ HX0.out).mono ?_)); rintro e w1 ⟨a1, c1, rfl, hn1, hb1⟩; obtain ⟨hb1d, hb1a, hk1, hx1, hx2, -⟩ := HC1.out w0.drew a1 c1 w1 HX0.out hb1 hn1)
      | (go_at_call 38; ((with_reducible refine (HO.out _ HXA.out).mono ?_)); rintro e w1 ⟨a1, c1, rfl, hn1, hb1⟩; obtain ⟨hb1e, -, hk1, hx1, hx2, hbx0⟩ := HC1.out _ a1 c1 w1 HXA.out hb1 hn1; have hbx := hbx0 (heap_alloc_new w0 _))
      | (go_at_call 40; ((with_reducible refine (HO1.out _ hb1d).mono ?_)); rintro e w2 ⟨a2, c2, rfl, hn2, hb12⟩; obtain ⟨hb2, hk1', hk2, hy1, hy2, ⟨hret, hlt2, z0, z1, z2, z3, z4, y0, y1, y2, y3, y4⟩, hb2w, -, -⟩ := HC2.out _ a1 c1 a2 c2 w1 w1 w2 hb1d (Below.refl _ _) hb12 hk1 hn2 hx1)
      | (go_at_call 40; ((with_reducible refine (HO1.out _ hb1e).mono ?_)); rintro e w2 ⟨a2, c2, rfl, hn2, hb12⟩; obtain ⟨hb2, hk1', hk2, hy1, hy2, ⟨hret, hlt2, z0, z1, z2, z3, z4, y0, y1, y2, y3, y4⟩, hb2w, -, hbz⟩ := HC2.out _ a1 c1 a2 c2 w1 w1 w2 hb1e (Below.refl _ _) hb12 hk1 hn2 hx1; obtain ⟨hbox, hltb, zb0, zb1, zb2, zb3, zb4, yb0, yb1, yb2, yb3, yb4⟩ := hbz hbx.1; have hgtw : w.heap.size ≤ w0.heap.size := HB0.out.size)
      | (go_at_call 40; ((with_reducible refine (HO1.out _ hb1a).mono ?_)); rintro e w2 ⟨a2, c2, rfl, hn2, hb12⟩; obtain ⟨hb2, hk1', hk2, hy1, hy2, ⟨hret, hlt2, z0, z1, z2, z3, z4, y0, y1, y2, y3, y4⟩, hb2w, hby, -⟩ := HC2.out _ a1 c1 a2 c2 (w1.alloc (.cells #[.int .i64 0, .string ⟨#[]⟩, .string ⟨#[]⟩, .int .u64 0, .slice none 0 0] 25)) w1 w2 hb1d ((Below.refl _ _).alloc (Nat.le_refl _) _) hb12 hk1 hn2 hx1; obtain ⟨hbox, hltb, zb0, zb1, zb2, zb3, zb4, yb0, yb1, yb2, yb3, yb4⟩ := hby (heap_alloc_new w1 _); have hgtw : w.heap.size ≤ w1.heap.size := by omega)
      | fail "none")
    all_goals
      go_wp2_with fail
      go_meet
      have s0 := HS0.out
      have s1 : (w0.alloc (.cells #[.int .i64 0, .string ⟨#[]⟩, .string ⟨#[]⟩, .int .u64 0, .slice none 0 0] 25)).drew.heap.size = w0.heap.size + 1 := alloc_size w0 (.cells #[.int .i64 0, .string ⟨#[]⟩, .string ⟨#[]⟩, .int .u64 0, .slice none 0 0] 25)
      have s2 := alloc_size w1 (.cells #[.int .i64 0, .string ⟨#[]⟩, .string ⟨#[]⟩, .int .u64 0, .slice none 0 0] 25)
      first
        | exact ⟨_, rfl, Lib.hid (mid_row_box hb2w hret (hk1'.mono fun r hr => ⟨by omega, by omega⟩) (hk2.mono fun r hr => ⟨by omega, by omega⟩))⟩
        | exact ⟨_, rfl, Lib.hid (mid_box_row hb2w hret (hk1'.mono fun r hr => ⟨by omega, by omega⟩) (hk2.mono fun r hr => ⟨by omega, by omega⟩))⟩
        | exact ⟨_, rfl, Lib.hid (mid_set (b := w1.heap.size) hb2w hret (by omega) hbox (hk1'.mono fun r hr => ⟨by omega, by omega, by omega⟩) (hk2.mono fun r hr => ⟨by omega, by omega, by omega⟩))⟩
        | exact ⟨_, rfl, Lib.hid (mid_set (b := w0.heap.size) hb2w hret (by omega) hbox (hk1'.mono fun r hr => ⟨by omega, by omega, by omega⟩) (hk2.mono fun r hr => ⟨by omega, by omega, by omega⟩))⟩
  case rest =>
  obtain ⟨b, rfl, HM⟩ := hcut
  have hgt := HM.out.gt
  have hkd := HKD.out _ HM.out.bel
  obtain ⟨g, hbx, hnd⟩ := HM.out.box
  have HND := Lib.hid hnd
  have HBX := Lib.hid hbx
  have hbl := (Array.getElem?_eq_some_iff.1 hbx).1
  have e3 : wc.cell? ⟨b, 3, none⟩ = some (.int .u64 0) := by rw [Lib.cell_of_heap hbx]; rfl
  have g3 := Lib.frozen_of_heap hbx 3
  clear hnd hbx
  rcases hu with ⟨hk1, rfl⟩ | ⟨hk1, rfl⟩ | ⟨hk1, hk2, rfl⟩
  · have hO : (kd.toList == [79, 112, 116, 105, 111, 110, 97, 108]) = true := by rw [hk1, ByteArray.toList_eq]; rfl
    obtain ⟨p1, p2, g', p3, p4⟩ := HM.out.put 1 (by omega)
    clear hk1
    go_upto_region 34 with fail
    generalize wc.setCell ⟨b, 3, none⟩ (.int .u64 ((1 : Nat) : Int)) = W at *
    have d0 : W.cell? ⟨b, 0, none⟩ = some (.int .i64 52) := by rw [Lib.cell_of_heap p3]; rfl
    have d1 : W.cell? ⟨b, 1, none⟩ = some (.string ⟨#[]⟩) := by rw [Lib.cell_of_heap p3]; rfl
    have d2 : W.cell? ⟨b, 2, none⟩ = some (.string ⟨#[]⟩) := by rw [Lib.cell_of_heap p3]; rfl
    have d3 : W.cell? ⟨b, 3, none⟩ = some (.int .u64 1) := by rw [Lib.cell_of_heap p3]; rfl
    have d4 : W.cell? ⟨b, 4, none⟩ = some (.slice (some ⟨g', 0, none⟩) 2 2) := by rw [Lib.cell_of_heap p3]; rfl
    have z0 : W.cell? ⟨w.heap.size, 0, none⟩ = some (.int .i64 0) := by rw [Lib.cell_of_heap p2]; rfl
    have z1 : W.cell? ⟨w.heap.size, 1, none⟩ = some (.string ⟨#[]⟩) := by rw [Lib.cell_of_heap p2]; rfl
    have z2 : W.cell? ⟨w.heap.size, 2, none⟩ = some (.string ⟨#[]⟩) := by rw [Lib.cell_of_heap p2]; rfl
    have z3 : W.cell? ⟨w.heap.size, 3, none⟩ = some (.int .u64 0) := by rw [Lib.cell_of_heap p2]; rfl
    have z4 : W.cell? ⟨w.heap.size, 4, none⟩ = some (.slice none 0 0) := by rw [Lib.cell_of_heap p2]; rfl
    have y0 := Lib.frozen_of_heap p2 0
    have y1 := Lib.frozen_of_heap p2 1
    have y2 := Lib.frozen_of_heap p2 2
    have y3 := Lib.frozen_of_heap p2 3
    have y4 := Lib.frozen_of_heap p2 4
    have HP1 := Lib.hid p1
    have HP2 := Lib.hid p2
    have HP4 := Lib.hid p4
    clear p1 p2 p3 p4
    go_wp2
    have u0 := row_setG (row_setG (row_setG (row_setG (row_setG HP2.out 0 (.int .i64 52)) 1 (.string ⟨#[]⟩)) 2 (.string ⟨#[]⟩)) 3 (.int .u64 1)) 4 (.slice (some ⟨g', 0, none⟩) 2 2)
    have u1 := set_five_below HP1.out (.int .i64 52) (.string ⟨#[]⟩) (.string ⟨#[]⟩) (.int .u64 1) (.slice (some ⟨g', 0, none⟩) 2 2)
    have u2 := set_five (b := w.heap.size) (v0 := .int .i64 52) (v1 := .string ⟨#[]⟩) (v2 := .string ⟨#[]⟩) (v3 := .int .u64 1) (v4 := .slice (some ⟨g', 0, none⟩) 2 2) (Nat.lt_succ_self _) HP4.out
    generalize (((((W.setCell ⟨w.heap.size, 0, none⟩ (.int .i64 52)).setCell ⟨w.heap.size, 1, none⟩ (.string ⟨#[]⟩)).setCell ⟨w.heap.size, 2, none⟩ (.string ⟨#[]⟩)).setCell ⟨w.heap.size, 3, none⟩ (.int .u64 1)).setCell ⟨w.heap.size, 4, none⟩ (.slice (some ⟨g', 0, none⟩) 2 2)) = F at *
    have q0 : F.cell? ⟨w.heap.size, 0, none⟩ = some (.int .i64 52) := by rw [Lib.cell_of_heap u0]; rfl
    have q1 : F.cell? ⟨w.heap.size, 1, none⟩ = some (.string ⟨#[]⟩) := by rw [Lib.cell_of_heap u0]; rfl
    have q2 : F.cell? ⟨w.heap.size, 2, none⟩ = some (.string ⟨#[]⟩) := by rw [Lib.cell_of_heap u0]; rfl
    have q3 : F.cell? ⟨w.heap.size, 3, none⟩ = some (.int .u64 1) := by rw [Lib.cell_of_heap u0]; rfl
    have q4 : F.cell? ⟨w.heap.size, 4, none⟩ = some (.slice (some ⟨g', 0, none⟩) 2 2) := by rw [Lib.cell_of_heap u0]; rfl
    refine bodyPost_ret (v := .agg #[.int .i64 52, .string ⟨#[]⟩, .string ⟨#[]⟩, .int .u64 1, .slice (some ⟨g', 0, none⟩) 2 2]) (by simp [results, Tryz.results54, go_sem, q0, q1, q2, q3, q4]) rfl ⟨some ⟨g', 0, none⟩, 2, rfl, u2.mono fun b hb => ⟨by omega, hb.2⟩, u1⟩
  · have hO : (kd.toList == [79, 112, 116, 105, 111, 110, 97, 108]) = false := by rw [hk1, ByteArray.toList_eq]; rfl
    have hP : (kd.toList == [80, 105, 112, 101]) = true := by rw [hk1, ByteArray.toList_eq]; rfl
    obtain ⟨p1, p2, g', p3, p4⟩ := HM.out.put 2 (by omega)
    clear hk1
    go_upto_region 34 with fail
    generalize wc.setCell ⟨b, 3, none⟩ (.int .u64 ((2 : Nat) : Int)) = W at *
    have d0 : W.cell? ⟨b, 0, none⟩ = some (.int .i64 52) := by rw [Lib.cell_of_heap p3]; rfl
    have d1 : W.cell? ⟨b, 1, none⟩ = some (.string ⟨#[]⟩) := by rw [Lib.cell_of_heap p3]; rfl
    have d2 : W.cell? ⟨b, 2, none⟩ = some (.string ⟨#[]⟩) := by rw [Lib.cell_of_heap p3]; rfl
    have d3 : W.cell? ⟨b, 3, none⟩ = some (.int .u64 2) := by rw [Lib.cell_of_heap p3]; rfl
    have d4 : W.cell? ⟨b, 4, none⟩ = some (.slice (some ⟨g', 0, none⟩) 2 2) := by rw [Lib.cell_of_heap p3]; rfl
    have z0 : W.cell? ⟨w.heap.size, 0, none⟩ = some (.int .i64 0) := by rw [Lib.cell_of_heap p2]; rfl
    have z1 : W.cell? ⟨w.heap.size, 1, none⟩ = some (.string ⟨#[]⟩) := by rw [Lib.cell_of_heap p2]; rfl
    have z2 : W.cell? ⟨w.heap.size, 2, none⟩ = some (.string ⟨#[]⟩) := by rw [Lib.cell_of_heap p2]; rfl
    have z3 : W.cell? ⟨w.heap.size, 3, none⟩ = some (.int .u64 0) := by rw [Lib.cell_of_heap p2]; rfl
    have z4 : W.cell? ⟨w.heap.size, 4, none⟩ = some (.slice none 0 0) := by rw [Lib.cell_of_heap p2]; rfl
    have y0 := Lib.frozen_of_heap p2 0
    have y1 := Lib.frozen_of_heap p2 1
    have y2 := Lib.frozen_of_heap p2 2
    have y3 := Lib.frozen_of_heap p2 3
    have y4 := Lib.frozen_of_heap p2 4
    have HP1 := Lib.hid p1
    have HP2 := Lib.hid p2
    have HP4 := Lib.hid p4
    clear p1 p2 p3 p4
    go_wp2
    have u0 := row_setG (row_setG (row_setG (row_setG (row_setG HP2.out 0 (.int .i64 52)) 1 (.string ⟨#[]⟩)) 2 (.string ⟨#[]⟩)) 3 (.int .u64 2)) 4 (.slice (some ⟨g', 0, none⟩) 2 2)
    have u1 := set_five_below HP1.out (.int .i64 52) (.string ⟨#[]⟩) (.string ⟨#[]⟩) (.int .u64 2) (.slice (some ⟨g', 0, none⟩) 2 2)
    have u2 := set_five (b := w.heap.size) (v0 := .int .i64 52) (v1 := .string ⟨#[]⟩) (v2 := .string ⟨#[]⟩) (v3 := .int .u64 2) (v4 := .slice (some ⟨g', 0, none⟩) 2 2) (Nat.lt_succ_self _) HP4.out
    generalize (((((W.setCell ⟨w.heap.size, 0, none⟩ (.int .i64 52)).setCell ⟨w.heap.size, 1, none⟩ (.string ⟨#[]⟩)).setCell ⟨w.heap.size, 2, none⟩ (.string ⟨#[]⟩)).setCell ⟨w.heap.size, 3, none⟩ (.int .u64 2)).setCell ⟨w.heap.size, 4, none⟩ (.slice (some ⟨g', 0, none⟩) 2 2)) = F at *
    have q0 : F.cell? ⟨w.heap.size, 0, none⟩ = some (.int .i64 52) := by rw [Lib.cell_of_heap u0]; rfl
    have q1 : F.cell? ⟨w.heap.size, 1, none⟩ = some (.string ⟨#[]⟩) := by rw [Lib.cell_of_heap u0]; rfl
    have q2 : F.cell? ⟨w.heap.size, 2, none⟩ = some (.string ⟨#[]⟩) := by rw [Lib.cell_of_heap u0]; rfl
    have q3 : F.cell? ⟨w.heap.size, 3, none⟩ = some (.int .u64 2) := by rw [Lib.cell_of_heap u0]; rfl
    have q4 : F.cell? ⟨w.heap.size, 4, none⟩ = some (.slice (some ⟨g', 0, none⟩) 2 2) := by rw [Lib.cell_of_heap u0]; rfl
    refine bodyPost_ret (v := .agg #[.int .i64 52, .string ⟨#[]⟩, .string ⟨#[]⟩, .int .u64 2, .slice (some ⟨g', 0, none⟩) 2 2]) (by simp [results, Tryz.results54, go_sem, q0, q1, q2, q3, q4]) rfl ⟨some ⟨g', 0, none⟩, 2, rfl, u2.mono fun b hb => ⟨by omega, hb.2⟩, u1⟩
  · have hO := (text_nel (l := [79, 112, 116, 105, 111, 110, 97, 108]) hk1).1
    have hP := (text_nel (l := [80, 105, 112, 101]) hk2).1
    have p1 := HM.out.bel
    have p2 := HM.out.ret
    have p3 := HBX.out
    have p4 := NodeIn.mono (B' := fun r => w.heap.size + 1 ≤ r ∧ r < wc.heap.size) (fun r hr => ⟨hr.1, hr.2.1⟩) HND.out
    clear hk1 hk2
    go_upto_region 34 with fail
    generalize hW : wc = W at *
    have d0 : W.cell? ⟨b, 0, none⟩ = some (.int .i64 52) := by rw [Lib.cell_of_heap p3]; rfl
    have d1 : W.cell? ⟨b, 1, none⟩ = some (.string ⟨#[]⟩) := by rw [Lib.cell_of_heap p3]; rfl
    have d2 : W.cell? ⟨b, 2, none⟩ = some (.string ⟨#[]⟩) := by rw [Lib.cell_of_heap p3]; rfl
    have d3 : W.cell? ⟨b, 3, none⟩ = some (.int .u64 0) := by rw [Lib.cell_of_heap p3]; rfl
    have d4 : W.cell? ⟨b, 4, none⟩ = some (.slice (some ⟨g, 0, none⟩) 2 2) := by rw [Lib.cell_of_heap p3]; rfl
    have z0 : W.cell? ⟨w.heap.size, 0, none⟩ = some (.int .i64 0) := by rw [Lib.cell_of_heap p2]; rfl
    have z1 : W.cell? ⟨w.heap.size, 1, none⟩ = some (.string ⟨#[]⟩) := by rw [Lib.cell_of_heap p2]; rfl
    have z2 : W.cell? ⟨w.heap.size, 2, none⟩ = some (.string ⟨#[]⟩) := by rw [Lib.cell_of_heap p2]; rfl
    have z3 : W.cell? ⟨w.heap.size, 3, none⟩ = some (.int .u64 0) := by rw [Lib.cell_of_heap p2]; rfl
    have z4 : W.cell? ⟨w.heap.size, 4, none⟩ = some (.slice none 0 0) := by rw [Lib.cell_of_heap p2]; rfl
    have y0 := Lib.frozen_of_heap p2 0
    have y1 := Lib.frozen_of_heap p2 1
    have y2 := Lib.frozen_of_heap p2 2
    have y3 := Lib.frozen_of_heap p2 3
    have y4 := Lib.frozen_of_heap p2 4
    have HP1 := Lib.hid p1
    have HP2 := Lib.hid p2
    have HP4 := Lib.hid p4
    clear p1 p2 p3 p4
    go_wp2
    have u0 := row_setG (row_setG (row_setG (row_setG (row_setG HP2.out 0 (.int .i64 52)) 1 (.string ⟨#[]⟩)) 2 (.string ⟨#[]⟩)) 3 (.int .u64 0)) 4 (.slice (some ⟨g, 0, none⟩) 2 2)
    have u1 := set_five_below HP1.out (.int .i64 52) (.string ⟨#[]⟩) (.string ⟨#[]⟩) (.int .u64 0) (.slice (some ⟨g, 0, none⟩) 2 2)
    have u2 := set_five (b := w.heap.size) (v0 := .int .i64 52) (v1 := .string ⟨#[]⟩) (v2 := .string ⟨#[]⟩) (v3 := .int .u64 0) (v4 := .slice (some ⟨g, 0, none⟩) 2 2) (Nat.lt_succ_self _) HP4.out
    generalize (((((W.setCell ⟨w.heap.size, 0, none⟩ (.int .i64 52)).setCell ⟨w.heap.size, 1, none⟩ (.string ⟨#[]⟩)).setCell ⟨w.heap.size, 2, none⟩ (.string ⟨#[]⟩)).setCell ⟨w.heap.size, 3, none⟩ (.int .u64 0)).setCell ⟨w.heap.size, 4, none⟩ (.slice (some ⟨g, 0, none⟩) 2 2)) = F at *
    have q0 : F.cell? ⟨w.heap.size, 0, none⟩ = some (.int .i64 52) := by rw [Lib.cell_of_heap u0]; rfl
    have q1 : F.cell? ⟨w.heap.size, 1, none⟩ = some (.string ⟨#[]⟩) := by rw [Lib.cell_of_heap u0]; rfl
    have q2 : F.cell? ⟨w.heap.size, 2, none⟩ = some (.string ⟨#[]⟩) := by rw [Lib.cell_of_heap u0]; rfl
    have q3 : F.cell? ⟨w.heap.size, 3, none⟩ = some (.int .u64 0) := by rw [Lib.cell_of_heap u0]; rfl
    have q4 : F.cell? ⟨w.heap.size, 4, none⟩ = some (.slice (some ⟨g, 0, none⟩) 2 2) := by rw [Lib.cell_of_heap u0]; rfl
    refine bodyPost_ret (v := .agg #[.int .i64 52, .string ⟨#[]⟩, .string ⟨#[]⟩, .int .u64 0, .slice (some ⟨g, 0, none⟩) 2 2]) (by simp [results, Tryz.results54, go_sem, q0, q1, q2, q3, q4]) rfl ⟨some ⟨g, 0, none⟩, 2, rfl, u2.mono fun b hb => ⟨by omega, hb.2⟩, u1⟩


end Go.Proofs.YtgceklahjdbipaaGreatDoor
