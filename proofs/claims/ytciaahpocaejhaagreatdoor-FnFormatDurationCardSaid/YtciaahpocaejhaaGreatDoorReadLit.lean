/- spec's reader: an expression that is one literal, with nothing behind it. -/
import Derived.Test.YtciaahpocaejhaaGreatDoorRead
import Derived.Defers
namespace Go.Proofs.YtciaahpocaejhaaGreatDoor
open Go Go.RowKit

/-- A node's value without texts of more. -/
def nodeV (k : Int) (t : ByteArray) (n : Int) (a : Option Addr) (l c : Nat) : Value := .agg #[.int .i64 k, .string t, .string ⟨#[]⟩, .int .u64 n, .slice a l c]

set_option maxHeartbeats 1000000 in
theorem unary_dec (b p q : Nat) (s t : ByteArray) (k d : Int) (w : World) (h : RdAt b s p k t d w) (hq : w.cell? ⟨q, 0, none⟩ = some (.pointer (some ⟨b, 0, none⟩))) (hd0 : 0 < d) (hd1 : d < 1000) :
    CallsD Tryz.prog 94 #[.pointer (some ⟨q, 0, none⟩)] .returning w fun e u' w' => u' = .returning ∧ (e = .returned (.tuple #[]) ∧ w' = w.setCell ⟨b, 5, none⟩ (.int .i64 (d - 1))) := by
  have c5 := h.c5
  have f5 := h.fz 5
  have hw : IntKind.i64.wrap (d - 1) = d - 1 := by rw [IntKind.wrap_i64]; omega
  clear h
  refine callsD_of_wp (R := fun e w' => e = .returned (.tuple #[]) ∧ w' = w.setCell ⟨b, 5, none⟩ (.int .i64 (d - 1))) Tryz.func94 rfl ?_
  rw [Tryz.ntmps94]
  go_wp2
  go_end0
  exact ⟨rfl, rfl⟩

set_option maxHeartbeats 1000000 in
theorem expression_dec (b p q : Nat) (s t : ByteArray) (k d : Int) (w : World) (h : RdAt b s p k t d w) (hq : w.cell? ⟨q, 0, none⟩ = some (.pointer (some ⟨b, 0, none⟩))) (hd0 : 0 < d) (hd1 : d < 1000) :
    CallsD Tryz.prog 43 #[.pointer (some ⟨q, 0, none⟩)] .returning w fun e u' w' => u' = .returning ∧ (e = .returned (.tuple #[]) ∧ w' = w.setCell ⟨b, 5, none⟩ (.int .i64 (d - 1))) := by
  have c5 := h.c5
  have f5 := h.fz 5
  have hw : IntKind.i64.wrap (d - 1) = d - 1 := by rw [IntKind.wrap_i64]; omega
  clear h
  refine callsD_of_wp (R := fun e w' => e = .returned (.tuple #[]) ∧ w' = w.setCell ⟨b, 5, none⟩ (.int .i64 (d - 1))) Tryz.func43 rfl ?_
  rw [Tryz.ntmps43]
  go_wp2
  go_end0
  exact ⟨rfl, rfl⟩

theorem RdAt.put5 {b p : Nat} {s t : ByteArray} {k d : Int} {w : World} (h : RdAt b s p k t d w) (d' : Int) : RdAt b s p k t d' (w.setCell ⟨b, 5, none⟩ (.int .i64 d')) := by
  unfold RdAt at h ⊢
  simp [World.setCell, Array.getElem?_modify, h]
theorem RdAt.grown {b p : Nat} {s t : ByteArray} {k d : Int} {w w' : World} {r : Nat} (h : RdAt b s p k t d w) (hg : w.grownBy w' (some r)) (hne : b ≠ r) : RdAt b s p k t d w' := (hg.block b h.lt (by intro e; cases e; exact hne rfl)).trans h
theorem RdAt.set {b p : Nat} {s t : ByteArray} {k d : Int} {w : World} (h : RdAt b s p k t d w) (g i : Nat) (v : Value) (hne : b ≠ g) : RdAt b s p k t d (w.setCell ⟨g, i, none⟩ v) := row_kept h g i v hne

theorem tok_text (k : Int) (t : ByteArray) (w : World) : (Instr.field 61 (.agg #[.int .i64 k, .string t]) 1).run Tryz.prog w = .ok (.string t) w := by kernel_rfl

set_option maxHeartbeats 1000000 in
set_option maxRecDepth 100000 in
theorem primary_leaf (b p : Nat) (s t : ByteArray) (k d kk : Int) (hk : (k = 6 ∧ kk = 42) ∨ (k = 4 ∧ kk = 34)) (w : World) (h : RdAt b s p k t d w) (hp : s.size ≤ p) :
    Calls Tryz.prog 96 #[.pointer (some ⟨b, 0, none⟩)] w fun e w' => e = .returned (nodeV kk t 0 none 0 0) ∧ RdAt b s p 0 ⟨#[]⟩ d w' ∧ w.grownBy w' (some b) := by
  have h1 := h.alloc (.cells #[.int .i64 0, .string ⟨#[]⟩, .string ⟨#[]⟩, .int .u64 0, .slice none 0 0] 26)
  have hlt := h.lt
  have c2 := h1.c2
  have hS := Lib.hid (step_end b p s t k d false _ h1 hp)
  clear h h1
  have hfd := fun w => tok_text k t w
  rcases hk with ⟨rfl, rfl⟩ | ⟨rfl, rfl⟩
  all_goals
    go_enter Tryz.func96, Tryz.ntmps96
    go_wp2_with fail
    ((with_reducible refine hS.out.mono ?_))
    rintro e w1 ⟨rfl, h2, hg1⟩
    go_wp2_with fail
    ((with_reducible refine (node_any _ t none 0 0 _).mono ?_))
    rintro e w2 ⟨rfl, hb2⟩
    have hk0 : w1.heap[w.heap.size]? = some (.cells #[.int .i64 0, .string ⟨#[]⟩, .string ⟨#[]⟩, .int .u64 0, .slice none 0 0] 26 (0, 0)) := (hg1.block _ (by simp) (by intro e; cases e; omega)).trans (heap_alloc_new w _)
    have hk1 := (hb2.block _ (Array.getElem?_eq_some_iff.1 hk0).1).trans hk0
    have z0 : w2.cell? ⟨w.heap.size, 0, none⟩ = some (.int .i64 0) := by rw [Lib.cell_of_heap hk1]; rfl
    have z1 : w2.cell? ⟨w.heap.size, 1, none⟩ = some (.string ⟨#[]⟩) := by rw [Lib.cell_of_heap hk1]; rfl
    have z2 : w2.cell? ⟨w.heap.size, 2, none⟩ = some (.string ⟨#[]⟩) := by rw [Lib.cell_of_heap hk1]; rfl
    have z3 : w2.cell? ⟨w.heap.size, 3, none⟩ = some (.int .u64 0) := by rw [Lib.cell_of_heap hk1]; rfl
    have z4 : w2.cell? ⟨w.heap.size, 4, none⟩ = some (.slice none 0 0) := by rw [Lib.cell_of_heap hk1]; rfl
    have y0 := Lib.frozen_of_heap hk1 0
    have y1 := Lib.frozen_of_heap hk1 1
    have y2 := Lib.frozen_of_heap hk1 2
    have y3 := Lib.frozen_of_heap hk1 3
    have y4 := Lib.frozen_of_heap hk1 4
    have H2 := Lib.hid (h2.below hb2)
    have HG := Lib.hid (Lib.grownBy_below (Lib.grownBy_trans (World.grownBy_alloc w _ (some b)) hg1) hb2)
    clear hk0 hk1 h2 hg1 hb2
    go_wp2
    refine bodyPost_ret (v := nodeV _ t 0 none 0 0) (by simp [nodeV, results, Tryz.results96, go_sem, z0, z1, z2, z3, z4]) rfl ⟨rfl, ?_, ?_⟩
    · exact ((((H2.out.set _ 0 _ (by omega)).set _ 1 _ (by omega)).set _ 2 _ (by omega)).set _ 3 _ (by omega)).set _ 4 _ (by omega)
    · exact grownBy_new (grownBy_new (grownBy_new (grownBy_new (grownBy_new HG.out (Nat.le_refl _) 0 _) (Nat.le_refl _) 1 _) (Nat.le_refl _) 2 _) (Nat.le_refl _) 3 _) (Nat.le_refl _) 4 _

/-- The world behind a function's beginning: the depth has risen, the pointer lies in a box, the result in a new node. -/
def litW (w : World) (b : Nat) (d : Int) : World := (((w.setCell ⟨b, 5, none⟩ (.int .i64 (d + 1))).alloc (.cells #[.pointer (some ⟨b, 0, none⟩)] 55)).alloc (.cells #[.int .i64 0, .string ⟨#[]⟩, .string ⟨#[]⟩, .int .u64 0, .slice none 0 0] 26))
theorem litW_def (w : World) (b : Nat) (d : Int) : litW w b d = (((w.setCell ⟨b, 5, none⟩ (.int .i64 (d + 1))).alloc (.cells #[.pointer (some ⟨b, 0, none⟩)] 55)).alloc (.cells #[.int .i64 0, .string ⟨#[]⟩, .string ⟨#[]⟩, .int .u64 0, .slice none 0 0] 26)) := rfl
theorem litW_rd {b p : Nat} {s t : ByteArray} {k d : Int} {w : World} (h : RdAt b s p k t d w) : RdAt b s p k t (d + 1) (litW w b d) := ((h.put5 (d + 1)).alloc _).alloc _
theorem litW_grown (w : World) (b : Nat) (d : Int) : w.grownBy (litW w b d) (some b) := Lib.grownBy_allocR (Lib.grownBy_allocR (Lib.grownBy_setCell w b 5 _) _) _
theorem litW_box (w : World) (b : Nat) (d : Int) : (litW w b d).heap[w.heap.size]? = some (.cells #[.pointer (some ⟨b, 0, none⟩)] 55 (0, 0)) := by
  unfold litW
  have hs : (w.setCell ⟨b, 5, none⟩ (.int .i64 (d + 1))).heap.size = w.heap.size := by simp [World.setCell]
  rw [Below.heap_alloc _ _ _ (by simp [hs])]
  have := heap_alloc_new (w.setCell ⟨b, 5, none⟩ (.int .i64 (d + 1))) (.cells #[.pointer (some ⟨b, 0, none⟩)] 55)
  rwa [hs] at this
theorem litW_res (w : World) (b : Nat) (d : Int) : (litW w b d).heap[w.heap.size + 1]? = some (.cells #[.int .i64 0, .string ⟨#[]⟩, .string ⟨#[]⟩, .int .u64 0, .slice none 0 0] 26 (0, 0)) := by
  unfold litW
  have hs : (w.setCell ⟨b, 5, none⟩ (.int .i64 (d + 1))).heap.size = w.heap.size := by simp [World.setCell]
  have := heap_alloc_new ((w.setCell ⟨b, 5, none⟩ (.int .i64 (d + 1))).alloc (.cells #[.pointer (some ⟨b, 0, none⟩)] 55)) (.cells #[.int .i64 0, .string ⟨#[]⟩, .string ⟨#[]⟩, .int .u64 0, .slice none 0 0] 26)
  rwa [show ((w.setCell ⟨b, 5, none⟩ (.int .i64 (d + 1))).alloc (.cells #[.pointer (some ⟨b, 0, none⟩)] 55)).heap.size = w.heap.size + 1 by simp [hs]] at this

/-- A node's five cells are set. -/
theorem five_row {w : World} {g : Nat} {x0 x1 x2 x3 x4 : Value} {T : TypeId} {fz : Nat × Nat} (h : w.heap[g]? = some (.cells #[x0, x1, x2, x3, x4] T fz)) (v0 v1 v2 v3 v4 : Value) :
    (((((w.setCell ⟨g, 0, none⟩ v0).setCell ⟨g, 1, none⟩ v1).setCell ⟨g, 2, none⟩ v2).setCell ⟨g, 3, none⟩ v3).setCell ⟨g, 4, none⟩ v4).heap[g]? = some (.cells #[v0, v1, v2, v3, v4] T fz) := row_set (row_set (row_set (row_set (row_set h 0 v0) 1 v1) 2 v2) 3 v3) 4 v4
theorem five_kept {w : World} {q : Nat} {o : Obj} (h : w.heap[q]? = some o) (g : Nat) (v0 v1 v2 v3 v4 : Value) (hne : q ≠ g) :
    (((((w.setCell ⟨g, 0, none⟩ v0).setCell ⟨g, 1, none⟩ v1).setCell ⟨g, 2, none⟩ v2).setCell ⟨g, 3, none⟩ v3).setCell ⟨g, 4, none⟩ v4).heap[q]? = some o := row_kept (row_kept (row_kept (row_kept (row_kept h g 0 v0 hne) g 1 v1 hne) g 2 v2 hne) g 3 v3 hne) g 4 v4 hne
theorem five_grown {a w : World} {row : Option Nat} (h : a.grownBy w row) {g : Nat} (hg : a.heap.size ≤ g) (v0 v1 v2 v3 v4 : Value) :
    a.grownBy (((((w.setCell ⟨g, 0, none⟩ v0).setCell ⟨g, 1, none⟩ v1).setCell ⟨g, 2, none⟩ v2).setCell ⟨g, 3, none⟩ v3).setCell ⟨g, 4, none⟩ v4) row := grownBy_new (grownBy_new (grownBy_new (grownBy_new (grownBy_new h hg 0 v0) hg 1 v1) hg 2 v2) hg 3 v3) hg 4 v4
theorem five_size {w : World} {g : Nat} (v0 v1 v2 v3 v4 : Value) : (((((w.setCell ⟨g, 0, none⟩ v0).setCell ⟨g, 1, none⟩ v1).setCell ⟨g, 2, none⟩ v2).setCell ⟨g, 3, none⟩ v3).setCell ⟨g, 4, none⟩ v4).heap.size = w.heap.size := by simp [World.setCell]

/-- What a reading of one literal says of the call: a node of which R speaks, nothing more to read, only the reader's own block turned. -/
def LitPost (b p : Nat) (s : ByteArray) (d : Int) (R : Value → World → World → Prop) (w : World) (e : Ending) (w' : World) : Prop :=
  ∃ kk tt n a l c, e = .returned (nodeV kk tt n a l c) ∧ RdAt b s p 0 ⟨#[]⟩ d w' ∧ w.grownBy w' (some b) ∧ R (nodeV kk tt n a l c) w w'

/-- R looks at blocks alone that are made between the two worlds. -/
def Stays (R : Value → World → World → Prop) : Prop := ∀ v w0 w1 w2 w3, R v w1 w2 → w0.heap.size ≤ w1.heap.size → (∀ k, w1.heap.size ≤ k → k < w2.heap.size → w3.heap[k]? = w2.heap[k]?) → R v w0 w3

set_option maxHeartbeats 2000000 in
set_option maxRecDepth 100000 in
theorem unary_lit (b p p' : Nat) (s t : ByteArray) (k d : Int) (R : Value → World → World → Prop) (hR : Stays R) (hk9 : k ≠ 9) (hd0 : 0 ≤ d) (hd1 : d < 100)
    (HP : ∀ w, RdAt b s p k t (d + 1) w → Calls Tryz.prog 96 #[.pointer (some ⟨b, 0, none⟩)] w (LitPost b p' s (d + 1) R w))
    (w : World) (h : RdAt b s p k t d w) :
    Calls Tryz.prog 72 #[.pointer (some ⟨b, 0, none⟩)] w (LitPost b p' s d R w) := by
  have hlt := h.lt
  have c4 := h.c4
  have c5 := h.c5
  have f5 := h.fz 5
  have hw : IntKind.i64.wrap (d + 1) = d + 1 := by rw [IntKind.wrap_i64]; omega
  have H1 := Lib.hid (litW_rd h)
  have G1 := Lib.hid (litW_grown w b d)
  have K0 := Lib.hid (litW_box w b d)
  have K1 := Lib.hid (litW_res w b d)
  have hgt : ¬ (200 : Int) < d + 1 := by omega
  clear h
  go_enter_defers Tryz.func72, Tryz.ntmps72
  go_wp2_with fail
  rw [← litW_def w b d]
  generalize litW w b d = W at H1 G1 K0 K1
  clear c4 c5 f5 hw hgt
  ((with_reducible refine (mark_no b p s t _ k (d + 1) _ H1.out hk9).mono ?_))
  rintro e w1 ⟨rfl, rfl⟩
  have x0 : w1.cell? ⟨w.heap.size, 0, none⟩ = some (.pointer (some ⟨b, 0, none⟩)) := by rw [Lib.cell_of_heap K0.out]; rfl
  go_wp2_with fail
  ((with_reducible refine (mark_no b p s t _ k (d + 1) _ H1.out hk9).mono ?_))
  rintro e w1' ⟨rfl, rfl⟩
  go_wp2_with fail
  ((with_reducible refine (HP _ H1.out).mono ?_))
  rintro e w2 ⟨kk, tt, n, a, l, c, rfl, h2, g2, r2⟩
  have k0 := (g2.block _ (Array.getElem?_eq_some_iff.1 K0.out).1 (by intro e; cases e; omega)).trans K0.out
  have k1 := (g2.block _ (Array.getElem?_eq_some_iff.1 K1.out).1 (by intro e; cases e; omega)).trans K1.out
  have hs2 : w.heap.size + 2 ≤ w2.heap.size := by
    have := (Array.getElem?_eq_some_iff.1 k1).1
    omega
  have hs3 : w.heap.size < w2.heap.size := by omega
  have hs4 : w.heap.size + 1 < w2.heap.size := by omega
  have hs5 : b < w2.heap.size := by omega
  have H3 := Lib.hid (h2.alloc (.cells #[.int .i64 kk, .string tt, .string ⟨#[]⟩, .int .u64 n, .slice a l c] 26))
  have b4 := h2.c4
  have z0 : w2.cell? ⟨w.heap.size + 1, 0, none⟩ = some (.int .i64 0) := by rw [Lib.cell_of_heap k1]; rfl
  have z1 : w2.cell? ⟨w.heap.size + 1, 1, none⟩ = some (.string ⟨#[]⟩) := by rw [Lib.cell_of_heap k1]; rfl
  have z2 : w2.cell? ⟨w.heap.size + 1, 2, none⟩ = some (.string ⟨#[]⟩) := by rw [Lib.cell_of_heap k1]; rfl
  have z3 : w2.cell? ⟨w.heap.size + 1, 3, none⟩ = some (.int .u64 0) := by rw [Lib.cell_of_heap k1]; rfl
  have z4 : w2.cell? ⟨w.heap.size + 1, 4, none⟩ = some (.slice none 0 0) := by rw [Lib.cell_of_heap k1]; rfl
  have y0 := Lib.frozen_of_heap k1 0
  have y1 := Lib.frozen_of_heap k1 1
  have y2 := Lib.frozen_of_heap k1 2
  have y3 := Lib.frozen_of_heap k1 3
  have y4 := Lib.frozen_of_heap k1 4
  have x2 : w2.cell? ⟨w.heap.size, 0, none⟩ = some (.pointer (some ⟨b, 0, none⟩)) := by rw [Lib.cell_of_heap k0]; rfl
  have G2 := Lib.hid (Lib.grownBy_trans G1.out g2)
  have H2 := Lib.hid h2
  have R2 := Lib.hid r2
  have K2 := Lib.hid k0
  have K3 := Lib.hid k1
  have hs1 : w.heap.size + 2 ≤ w1'.heap.size := (Array.getElem?_eq_some_iff.1 K1.out).1
  clear h2 g2 r2 k0 k1 x0
  unfold nodeV
  go_wp2_with fail
  refine wp_loop_rounds 1 ?_
  rw [rounds_succ]
  go_wp2_with fail
  ((with_reducible refine (mark_no b p' s ⟨#[]⟩ _ 0 (d + 1) _ H3.out (by decide)).mono ?_))
  rintro e w3 ⟨rfl, rfl⟩
  go_wp2_with fail
  ((with_reducible refine (mark_no b p' s ⟨#[]⟩ _ 0 (d + 1) _ H3.out (by decide)).mono ?_))
  rintro e w3 ⟨rfl, rfl⟩
  go_wp2_with fail
  ((with_reducible refine (mark_no b p' s ⟨#[]⟩ _ 0 (d + 1) _ H3.out (by decide)).mono ?_))
  rintro e w3 ⟨rfl, rfl⟩
  go_wp2_with fail
  have u0 : RdAt b s p' 0 ⟨#[]⟩ (d + 1) _ := five_kept H2.out (w.heap.size + 1) (.int .i64 kk) (.string tt) (.string ⟨#[]⟩) (.int .u64 n) (.slice a l c) (by omega)
  have u1 := five_kept K2.out (w.heap.size + 1) (.int .i64 kk) (.string tt) (.string ⟨#[]⟩) (.int .u64 n) (.slice a l c) (by omega)
  have u2 := five_row K3.out (.int .i64 kk) (.string tt) (.string ⟨#[]⟩) (.int .u64 n) (.slice a l c)
  have u3 := five_grown G2.out (g := w.heap.size + 1) (by omega) (.int .i64 kk) (.string tt) (.string ⟨#[]⟩) (.int .u64 n) (.slice a l c)
  have u4 : ∀ k, w1'.heap.size ≤ k → k < w2.heap.size → (((((w2.setCell ⟨w.heap.size + 1, 0, none⟩ (.int .i64 kk)).setCell ⟨w.heap.size + 1, 1, none⟩ (.string tt)).setCell ⟨w.heap.size + 1, 2, none⟩ (.string ⟨#[]⟩)).setCell ⟨w.heap.size + 1, 3, none⟩ (.int .u64 n)).setCell ⟨w.heap.size + 1, 4, none⟩ (.slice a l c)).heap[k]? = w2.heap[k]? := fun k h1 h2 => (five_kept (w := w2) (q := k) (Array.getElem?_eq_getElem h2) (w.heap.size + 1) (.int .i64 kk) (.string tt) (.string ⟨#[]⟩) (.int .u64 n) (.slice a l c) (by omega)).trans (Array.getElem?_eq_getElem h2).symm
  generalize ((((w2.setCell ⟨w.heap.size + 1, 0, none⟩ (.int .i64 kk)).setCell ⟨w.heap.size + 1, 1, none⟩ (.string tt)).setCell ⟨w.heap.size + 1, 2, none⟩ (.string ⟨#[]⟩)).setCell ⟨w.heap.size + 1, 3, none⟩ (.int .u64 n)).setCell ⟨w.heap.size + 1, 4, none⟩ (.slice a l c) = U at u0 u1 u2 u3 u4
  have v0 := u0.alloc (.cells #[.int .i64 kk, .string tt, .string ⟨#[]⟩, .int .u64 n, .slice a l c] 26)
  have v1 : (U.alloc (.cells #[.int .i64 kk, .string tt, .string ⟨#[]⟩, .int .u64 n, .slice a l c] 26)).heap[w.heap.size]? = _ := (Below.heap_alloc _ _ _ (Array.getElem?_eq_some_iff.1 u1).1).trans u1
  have v2 : (U.alloc (.cells #[.int .i64 kk, .string tt, .string ⟨#[]⟩, .int .u64 n, .slice a l c] 26)).heap[w.heap.size + 1]? = _ := (Below.heap_alloc _ _ _ (Array.getElem?_eq_some_iff.1 u2).1).trans u2
  have v3 := Lib.grownBy_allocR u3 (.cells #[.int .i64 kk, .string tt, .string ⟨#[]⟩, .int .u64 n, .slice a l c] 26)
  have v4 : ∀ k, w1'.heap.size ≤ k → k < w2.heap.size → (U.alloc (.cells #[.int .i64 kk, .string tt, .string ⟨#[]⟩, .int .u64 n, .slice a l c] 26)).heap[k]? = w2.heap[k]? := fun k h1 h2 => by
    have e := u4 k h1 h2
    rw [Array.getElem?_eq_getElem h2] at e
    rw [Below.heap_alloc _ _ _ (Array.getElem?_eq_some_iff.1 e).1, e, Array.getElem?_eq_getElem h2]
  generalize U.alloc (.cells #[.int .i64 kk, .string tt, .string ⟨#[]⟩, .int .u64 n, .slice a l c] 26) = F at v0 v1 v2 v3 v4
  clear u0 u1 u2 u3 u4
  have q0 : F.cell? ⟨w.heap.size, 0, none⟩ = some (.pointer (some ⟨b, 0, none⟩)) := by rw [Lib.cell_of_heap v1]; rfl
  refine leaves_cons (f := 94) (args := #[.pointer (some ⟨w.heap.size, 0, none⟩)]) (by simp) (by simp [go_sem]) ?_
  refine (unary_dec b p' w.heap.size s ⟨#[]⟩ 0 (d + 1) F v0 q0 (by omega) (by omega)).mono ?_
  rintro e u' w'' ⟨rfl, rfl, rfl⟩
  have hd : d + 1 - 1 = d := by omega
  rw [hd]
  have t2 := row_kept v2 b 5 (.int .i64 d) (by omega)
  have p0 : (F.setCell ⟨b, 5, none⟩ (.int .i64 d)).cell? ⟨w.heap.size + 1, 0, none⟩ = some (.int .i64 kk) := by rw [Lib.cell_of_heap t2]; rfl
  have p1 : (F.setCell ⟨b, 5, none⟩ (.int .i64 d)).cell? ⟨w.heap.size + 1, 1, none⟩ = some (.string tt) := by rw [Lib.cell_of_heap t2]; rfl
  have p2 : (F.setCell ⟨b, 5, none⟩ (.int .i64 d)).cell? ⟨w.heap.size + 1, 2, none⟩ = some (.string ⟨#[]⟩) := by rw [Lib.cell_of_heap t2]; rfl
  have p3 : (F.setCell ⟨b, 5, none⟩ (.int .i64 d)).cell? ⟨w.heap.size + 1, 3, none⟩ = some (.int .u64 n) := by rw [Lib.cell_of_heap t2]; rfl
  have p4 : (F.setCell ⟨b, 5, none⟩ (.int .i64 d)).cell? ⟨w.heap.size + 1, 4, none⟩ = some (.slice a l c) := by rw [Lib.cell_of_heap t2]; rfl
  have hpost : LitPost b p' s d R w (.returned (nodeV kk tt n a l c)) (F.setCell ⟨b, 5, none⟩ (.int .i64 d)) := by
    refine ⟨kk, tt, n, a, l, c, rfl, v0.put5 d, Lib.grownBy_setB v3 5 _, hR _ w w1' w2 _ R2.out (by omega) fun k h1 h2 => ?_⟩
    have e := v4 k h1 h2
    rw [Array.getElem?_eq_getElem h2] at e ⊢
    exact row_kept e b 5 _ (by omega)
  have HQ := Lib.hid hpost
  clear hpost
  generalize F.setCell ⟨b, 5, none⟩ (.int .i64 d) = Z at p0 p1 p2 p3 p4 HQ
  generalize hPP : LitPost b p' s d R w = PP at HQ
  simp [Leaves, settle, results, Tryz.results72, go_sem, p0, p1, p2, p3, p4]
  exact HQ.out

set_option maxHeartbeats 2000000 in
set_option maxRecDepth 100000 in
theorem binary_top (b p p' : Nat) (s t : ByteArray) (k d : Int) (R : Value → World → World → Prop) (hR : Stays R)
    (HP : ∀ w, RdAt b s p k t d w → Calls Tryz.prog 72 #[.pointer (some ⟨b, 0, none⟩)] w (LitPost b p' s d R w))
    (w : World) (h : RdAt b s p k t d w) :
    Calls Tryz.prog 46 #[.pointer (some ⟨b, 0, none⟩), .int .i64 7] w (LitPost b p' s d R w) := by
  have hlt := h.lt
  have H1 := Lib.hid (h.alloc (.cells #[.int .i64 0, .string ⟨#[]⟩, .string ⟨#[]⟩, .int .u64 0, .slice none 0 0] 26))
  clear h
  go_enter Tryz.func46, Tryz.ntmps46
  go_wp2_with fail
  ((with_reducible refine (HP _ H1.out).mono ?_))
  rintro e w2 ⟨kk, tt, n, a, l, c, rfl, h2, g2, r2⟩
  have hk0 : (w.alloc (.cells #[.int .i64 0, .string ⟨#[]⟩, .string ⟨#[]⟩, .int .u64 0, .slice none 0 0] 26)).heap[w.heap.size]? = some (.cells #[.int .i64 0, .string ⟨#[]⟩, .string ⟨#[]⟩, .int .u64 0, .slice none 0 0] 26 (0, 0)) := heap_alloc_new w _
  have k1 := (g2.block _ (Array.getElem?_eq_some_iff.1 hk0).1 (by intro e; cases e; omega)).trans hk0
  have hs3 : w.heap.size < w2.heap.size := (Array.getElem?_eq_some_iff.1 k1).1
  have hs5 : b < w2.heap.size := by omega
  have z0 : w2.cell? ⟨w.heap.size, 0, none⟩ = some (.int .i64 0) := by rw [Lib.cell_of_heap k1]; rfl
  have z1 : w2.cell? ⟨w.heap.size, 1, none⟩ = some (.string ⟨#[]⟩) := by rw [Lib.cell_of_heap k1]; rfl
  have z2 : w2.cell? ⟨w.heap.size, 2, none⟩ = some (.string ⟨#[]⟩) := by rw [Lib.cell_of_heap k1]; rfl
  have z3 : w2.cell? ⟨w.heap.size, 3, none⟩ = some (.int .u64 0) := by rw [Lib.cell_of_heap k1]; rfl
  have z4 : w2.cell? ⟨w.heap.size, 4, none⟩ = some (.slice none 0 0) := by rw [Lib.cell_of_heap k1]; rfl
  have y0 := Lib.frozen_of_heap k1 0
  have y1 := Lib.frozen_of_heap k1 1
  have y2 := Lib.frozen_of_heap k1 2
  have y3 := Lib.frozen_of_heap k1 3
  have y4 := Lib.frozen_of_heap k1 4
  have G2 := Lib.hid (Lib.grownBy_trans (World.grownBy_alloc w (.cells #[.int .i64 0, .string ⟨#[]⟩, .string ⟨#[]⟩, .int .u64 0, .slice none 0 0] 26) (some b)) g2)
  have H2 := Lib.hid h2
  have R2 := Lib.hid r2
  have K3 := Lib.hid k1
  clear h2 g2 r2 k1 hk0
  unfold nodeV
  go_wp2_with fail
  have u0 : RdAt b s p' 0 ⟨#[]⟩ d _ := five_kept H2.out w.heap.size (.int .i64 kk) (.string tt) (.string ⟨#[]⟩) (.int .u64 n) (.slice a l c) (by omega)
  have u3 := five_grown G2.out (g := w.heap.size) (Nat.le_refl _) (.int .i64 kk) (.string tt) (.string ⟨#[]⟩) (.int .u64 n) (.slice a l c)
  have u4 : ∀ k, w.heap.size + 1 ≤ k → k < w2.heap.size → (((((w2.setCell ⟨w.heap.size, 0, none⟩ (.int .i64 kk)).setCell ⟨w.heap.size, 1, none⟩ (.string tt)).setCell ⟨w.heap.size, 2, none⟩ (.string ⟨#[]⟩)).setCell ⟨w.heap.size, 3, none⟩ (.int .u64 n)).setCell ⟨w.heap.size, 4, none⟩ (.slice a l c)).heap[k]? = w2.heap[k]? := fun k h1 h2 => (five_kept (w := w2) (q := k) (Array.getElem?_eq_getElem h2) w.heap.size (.int .i64 kk) (.string tt) (.string ⟨#[]⟩) (.int .u64 n) (.slice a l c) (by omega)).trans (Array.getElem?_eq_getElem h2).symm
  have p0 := five_row K3.out (.int .i64 kk) (.string tt) (.string ⟨#[]⟩) (.int .u64 n) (.slice a l c)
  refine bodyPost_ret (v := nodeV kk tt n a l c) (by simp [nodeV, results, Tryz.results46, go_sem, z0, z1, z2, z3, z4]) rfl ⟨kk, tt, n, a, l, c, rfl, u0, u3, hR _ w _ w2 _ R2.out (by simp) fun k h1 h2 => u4 k (by simpa using h1) h2⟩

set_option maxHeartbeats 2000000 in
set_option maxRecDepth 100000 in
theorem binary_step (b p p' : Nat) (s t : ByteArray) (k d : Int) (R : Value → World → World → Prop) (hR : Stays R) (hk1 : k ≠ 1) (L : Int) (hL0 : 0 ≤ L) (hL1 : L ≤ 6)
    (HP : ∀ w, RdAt b s p k t d w → Calls Tryz.prog 46 #[.pointer (some ⟨b, 0, none⟩), .int .i64 (L + 1)] w (LitPost b p' s d R w))
    (w : World) (h : RdAt b s p k t d w) :
    Calls Tryz.prog 46 #[.pointer (some ⟨b, 0, none⟩), .int .i64 L] w (LitPost b p' s d R w) := by
  have hlt := h.lt
  have H1 := Lib.hid (h.alloc (.cells #[.int .i64 0, .string ⟨#[]⟩, .string ⟨#[]⟩, .int .u64 0, .slice none 0 0] 26))
  have hw : IntKind.i64.wrap (L + 1) = L + 1 := by rw [IntKind.wrap_i64]; omega
  have hgt : ¬ (6 : Int) < L := by omega
  have hne : ((-1 : Int) == L) = false := by simp; omega
  clear h
  go_enter Tryz.func46, Tryz.ntmps46
  by_cases h22 : L = 2
  · subst h22
    have HP3 : ∀ w, RdAt b s p k t d w → Calls Tryz.prog 46 #[.pointer (some ⟨b, 0, none⟩), .int .i64 3] w (LitPost b p' s d R w) := HP
    clear HP
    go_wp2_with fail
    ((with_reducible refine (word_no b p s t _ k d _ H1.out hk1).mono ?_))
    rintro e w0 ⟨rfl, rfl⟩
    go_wp2_with fail
    ((with_reducible refine (word_no b p s t _ k d _ H1.out hk1).mono ?_))
    rintro e w0 ⟨rfl, rfl⟩
    go_wp2_with fail
    ((with_reducible refine (HP3 _ H1.out).mono ?_))
    rintro e w2 ⟨kk, tt, n, a, l, c, rfl, h2, g2, r2⟩
    have hk0 : (w.alloc (.cells #[.int .i64 0, .string ⟨#[]⟩, .string ⟨#[]⟩, .int .u64 0, .slice none 0 0] 26)).heap[w.heap.size]? = some (.cells #[.int .i64 0, .string ⟨#[]⟩, .string ⟨#[]⟩, .int .u64 0, .slice none 0 0] 26 (0, 0)) := heap_alloc_new w _
    have k1 := (g2.block _ (Array.getElem?_eq_some_iff.1 hk0).1 (by intro e; cases e; omega)).trans hk0
    have hs3 : w.heap.size < w2.heap.size := (Array.getElem?_eq_some_iff.1 k1).1
    have hs5 : b < w2.heap.size := by omega
    have z0 : w2.cell? ⟨w.heap.size, 0, none⟩ = some (.int .i64 0) := by rw [Lib.cell_of_heap k1]; rfl
    have z1 : w2.cell? ⟨w.heap.size, 1, none⟩ = some (.string ⟨#[]⟩) := by rw [Lib.cell_of_heap k1]; rfl
    have z2 : w2.cell? ⟨w.heap.size, 2, none⟩ = some (.string ⟨#[]⟩) := by rw [Lib.cell_of_heap k1]; rfl
    have z3 : w2.cell? ⟨w.heap.size, 3, none⟩ = some (.int .u64 0) := by rw [Lib.cell_of_heap k1]; rfl
    have z4 : w2.cell? ⟨w.heap.size, 4, none⟩ = some (.slice none 0 0) := by rw [Lib.cell_of_heap k1]; rfl
    have y0 := Lib.frozen_of_heap k1 0
    have y1 := Lib.frozen_of_heap k1 1
    have y2 := Lib.frozen_of_heap k1 2
    have y3 := Lib.frozen_of_heap k1 3
    have y4 := Lib.frozen_of_heap k1 4
    have G2 := Lib.hid (Lib.grownBy_trans (World.grownBy_alloc w (.cells #[.int .i64 0, .string ⟨#[]⟩, .string ⟨#[]⟩, .int .u64 0, .slice none 0 0] 26) (some b)) g2)
    have H2 := Lib.hid h2
    have R2 := Lib.hid r2
    have K3 := Lib.hid k1
    have H3 := Lib.hid (h2.alloc (.cells #[.int .i64 kk, .string tt, .string ⟨#[]⟩, .int .u64 n, .slice a l c] 26))
    have b4 := h2.c4
    clear h2 g2 r2 k1 hk0
    unfold nodeV
    go_wp2_with fail
    refine wp_loop_rounds 1 ?_
    rw [rounds_succ]
    go_wp2_with fail
    ((with_reducible refine (level_no b p' s ⟨#[]⟩ 0 d _ H3.out (by decide) (by decide)).mono ?_))
    rintro e w3 ⟨rfl, rfl⟩
    go_wp2_with fail
    have u0 : RdAt b s p' 0 ⟨#[]⟩ d _ := five_kept H2.out w.heap.size (.int .i64 kk) (.string tt) (.string ⟨#[]⟩) (.int .u64 n) (.slice a l c) (by omega)
    have u3 := five_grown G2.out (g := w.heap.size) (Nat.le_refl _) (.int .i64 kk) (.string tt) (.string ⟨#[]⟩) (.int .u64 n) (.slice a l c)
    have u4 : ∀ k, w.heap.size + 1 ≤ k → k < w2.heap.size → (((((w2.setCell ⟨w.heap.size, 0, none⟩ (.int .i64 kk)).setCell ⟨w.heap.size, 1, none⟩ (.string tt)).setCell ⟨w.heap.size, 2, none⟩ (.string ⟨#[]⟩)).setCell ⟨w.heap.size, 3, none⟩ (.int .u64 n)).setCell ⟨w.heap.size, 4, none⟩ (.slice a l c)).heap[k]? = w2.heap[k]? := fun k h1 h2 => (five_kept (w := w2) (q := k) (Array.getElem?_eq_getElem h2) w.heap.size (.int .i64 kk) (.string tt) (.string ⟨#[]⟩) (.int .u64 n) (.slice a l c) (by omega)).trans (Array.getElem?_eq_getElem h2).symm
    have v4 : ∀ k, w.heap.size + 1 ≤ k → k < w2.heap.size → ((((((w2.setCell ⟨w.heap.size, 0, none⟩ (.int .i64 kk)).setCell ⟨w.heap.size, 1, none⟩ (.string tt)).setCell ⟨w.heap.size, 2, none⟩ (.string ⟨#[]⟩)).setCell ⟨w.heap.size, 3, none⟩ (.int .u64 n)).setCell ⟨w.heap.size, 4, none⟩ (.slice a l c)).alloc (.cells #[.int .i64 kk, .string tt, .string ⟨#[]⟩, .int .u64 n, .slice a l c] 26)).heap[k]? = w2.heap[k]? := fun k h1 h2 => by
      have e := u4 k h1 h2
      rw [Array.getElem?_eq_getElem h2] at e
      rw [Below.heap_alloc _ _ _ (Array.getElem?_eq_some_iff.1 e).1, e, Array.getElem?_eq_getElem h2]
    have t1 := five_row K3.out (.int .i64 kk) (.string tt) (.string ⟨#[]⟩) (.int .u64 n) (.slice a l c)
    have t2 : ((((((w2.setCell ⟨w.heap.size, 0, none⟩ (.int .i64 kk)).setCell ⟨w.heap.size, 1, none⟩ (.string tt)).setCell ⟨w.heap.size, 2, none⟩ (.string ⟨#[]⟩)).setCell ⟨w.heap.size, 3, none⟩ (.int .u64 n)).setCell ⟨w.heap.size, 4, none⟩ (.slice a l c)).alloc (.cells #[.int .i64 kk, .string tt, .string ⟨#[]⟩, .int .u64 n, .slice a l c] 26)).heap[w.heap.size]? = _ := (Below.heap_alloc _ _ _ (Array.getElem?_eq_some_iff.1 t1).1).trans t1
    have p0 : ((((((w2.setCell ⟨w.heap.size, 0, none⟩ (.int .i64 kk)).setCell ⟨w.heap.size, 1, none⟩ (.string tt)).setCell ⟨w.heap.size, 2, none⟩ (.string ⟨#[]⟩)).setCell ⟨w.heap.size, 3, none⟩ (.int .u64 n)).setCell ⟨w.heap.size, 4, none⟩ (.slice a l c)).alloc (.cells #[.int .i64 kk, .string tt, .string ⟨#[]⟩, .int .u64 n, .slice a l c] 26)).cell? ⟨w.heap.size, 0, none⟩ = some (.int .i64 kk) := by rw [Lib.cell_of_heap t2]; rfl
    have p1 : ((((((w2.setCell ⟨w.heap.size, 0, none⟩ (.int .i64 kk)).setCell ⟨w.heap.size, 1, none⟩ (.string tt)).setCell ⟨w.heap.size, 2, none⟩ (.string ⟨#[]⟩)).setCell ⟨w.heap.size, 3, none⟩ (.int .u64 n)).setCell ⟨w.heap.size, 4, none⟩ (.slice a l c)).alloc (.cells #[.int .i64 kk, .string tt, .string ⟨#[]⟩, .int .u64 n, .slice a l c] 26)).cell? ⟨w.heap.size, 1, none⟩ = some (.string tt) := by rw [Lib.cell_of_heap t2]; rfl
    have p2 : ((((((w2.setCell ⟨w.heap.size, 0, none⟩ (.int .i64 kk)).setCell ⟨w.heap.size, 1, none⟩ (.string tt)).setCell ⟨w.heap.size, 2, none⟩ (.string ⟨#[]⟩)).setCell ⟨w.heap.size, 3, none⟩ (.int .u64 n)).setCell ⟨w.heap.size, 4, none⟩ (.slice a l c)).alloc (.cells #[.int .i64 kk, .string tt, .string ⟨#[]⟩, .int .u64 n, .slice a l c] 26)).cell? ⟨w.heap.size, 2, none⟩ = some (.string ⟨#[]⟩) := by rw [Lib.cell_of_heap t2]; rfl
    have p3 : ((((((w2.setCell ⟨w.heap.size, 0, none⟩ (.int .i64 kk)).setCell ⟨w.heap.size, 1, none⟩ (.string tt)).setCell ⟨w.heap.size, 2, none⟩ (.string ⟨#[]⟩)).setCell ⟨w.heap.size, 3, none⟩ (.int .u64 n)).setCell ⟨w.heap.size, 4, none⟩ (.slice a l c)).alloc (.cells #[.int .i64 kk, .string tt, .string ⟨#[]⟩, .int .u64 n, .slice a l c] 26)).cell? ⟨w.heap.size, 3, none⟩ = some (.int .u64 n) := by rw [Lib.cell_of_heap t2]; rfl
    have p4 : ((((((w2.setCell ⟨w.heap.size, 0, none⟩ (.int .i64 kk)).setCell ⟨w.heap.size, 1, none⟩ (.string tt)).setCell ⟨w.heap.size, 2, none⟩ (.string ⟨#[]⟩)).setCell ⟨w.heap.size, 3, none⟩ (.int .u64 n)).setCell ⟨w.heap.size, 4, none⟩ (.slice a l c)).alloc (.cells #[.int .i64 kk, .string tt, .string ⟨#[]⟩, .int .u64 n, .slice a l c] 26)).cell? ⟨w.heap.size, 4, none⟩ = some (.slice a l c) := by rw [Lib.cell_of_heap t2]; rfl
    have u6 := u0.alloc (.cells #[.int .i64 kk, .string tt, .string ⟨#[]⟩, .int .u64 n, .slice a l c] 26)
    have u7 := Lib.grownBy_allocR u3 (.cells #[.int .i64 kk, .string tt, .string ⟨#[]⟩, .int .u64 n, .slice a l c] 26)
    generalize ((((((w2.setCell ⟨w.heap.size, 0, none⟩ (.int .i64 kk)).setCell ⟨w.heap.size, 1, none⟩ (.string tt)).setCell ⟨w.heap.size, 2, none⟩ (.string ⟨#[]⟩)).setCell ⟨w.heap.size, 3, none⟩ (.int .u64 n)).setCell ⟨w.heap.size, 4, none⟩ (.slice a l c)).alloc (.cells #[.int .i64 kk, .string tt, .string ⟨#[]⟩, .int .u64 n, .slice a l c] 26)) = F at t2 p0 p1 p2 p3 p4 u6 u7 v4 ⊢
    refine bodyPost_ret (v := nodeV kk tt n a l c) (by simp [nodeV, results, Tryz.results46, go_sem, p0, p1, p2, p3, p4]) rfl ⟨kk, tt, n, a, l, c, rfl, u6, u7, hR _ w _ w2 _ R2.out (by simp) fun k h1 h2 => v4 k (by simpa using h1) h2⟩
  · have h2' : (L == 2) = false := by simpa using h22
    go_wp2_with fail
    ((with_reducible refine (HP _ H1.out).mono ?_))
    rintro e w2 ⟨kk, tt, n, a, l, c, rfl, h2, g2, r2⟩
    have hk0 : (w.alloc (.cells #[.int .i64 0, .string ⟨#[]⟩, .string ⟨#[]⟩, .int .u64 0, .slice none 0 0] 26)).heap[w.heap.size]? = some (.cells #[.int .i64 0, .string ⟨#[]⟩, .string ⟨#[]⟩, .int .u64 0, .slice none 0 0] 26 (0, 0)) := heap_alloc_new w _
    have k1 := (g2.block _ (Array.getElem?_eq_some_iff.1 hk0).1 (by intro e; cases e; omega)).trans hk0
    have hs3 : w.heap.size < w2.heap.size := (Array.getElem?_eq_some_iff.1 k1).1
    have hs5 : b < w2.heap.size := by omega
    have z0 : w2.cell? ⟨w.heap.size, 0, none⟩ = some (.int .i64 0) := by rw [Lib.cell_of_heap k1]; rfl
    have z1 : w2.cell? ⟨w.heap.size, 1, none⟩ = some (.string ⟨#[]⟩) := by rw [Lib.cell_of_heap k1]; rfl
    have z2 : w2.cell? ⟨w.heap.size, 2, none⟩ = some (.string ⟨#[]⟩) := by rw [Lib.cell_of_heap k1]; rfl
    have z3 : w2.cell? ⟨w.heap.size, 3, none⟩ = some (.int .u64 0) := by rw [Lib.cell_of_heap k1]; rfl
    have z4 : w2.cell? ⟨w.heap.size, 4, none⟩ = some (.slice none 0 0) := by rw [Lib.cell_of_heap k1]; rfl
    have y0 := Lib.frozen_of_heap k1 0
    have y1 := Lib.frozen_of_heap k1 1
    have y2 := Lib.frozen_of_heap k1 2
    have y3 := Lib.frozen_of_heap k1 3
    have y4 := Lib.frozen_of_heap k1 4
    have G2 := Lib.hid (Lib.grownBy_trans (World.grownBy_alloc w (.cells #[.int .i64 0, .string ⟨#[]⟩, .string ⟨#[]⟩, .int .u64 0, .slice none 0 0] 26) (some b)) g2)
    have H2 := Lib.hid h2
    have R2 := Lib.hid r2
    have K3 := Lib.hid k1
    have H3 := Lib.hid (h2.alloc (.cells #[.int .i64 kk, .string tt, .string ⟨#[]⟩, .int .u64 n, .slice a l c] 26))
    have b4 := h2.c4
    clear h2 g2 r2 k1 hk0
    unfold nodeV
    go_wp2_with fail
    refine wp_loop_rounds 1 ?_
    rw [rounds_succ]
    go_wp2_with fail
    ((with_reducible refine (level_no b p' s ⟨#[]⟩ 0 d _ H3.out (by decide) (by decide)).mono ?_))
    rintro e w3 ⟨rfl, rfl⟩
    go_wp2_with fail
    have u0 : RdAt b s p' 0 ⟨#[]⟩ d _ := five_kept H2.out w.heap.size (.int .i64 kk) (.string tt) (.string ⟨#[]⟩) (.int .u64 n) (.slice a l c) (by omega)
    have u3 := five_grown G2.out (g := w.heap.size) (Nat.le_refl _) (.int .i64 kk) (.string tt) (.string ⟨#[]⟩) (.int .u64 n) (.slice a l c)
    have u4 : ∀ k, w.heap.size + 1 ≤ k → k < w2.heap.size → (((((w2.setCell ⟨w.heap.size, 0, none⟩ (.int .i64 kk)).setCell ⟨w.heap.size, 1, none⟩ (.string tt)).setCell ⟨w.heap.size, 2, none⟩ (.string ⟨#[]⟩)).setCell ⟨w.heap.size, 3, none⟩ (.int .u64 n)).setCell ⟨w.heap.size, 4, none⟩ (.slice a l c)).heap[k]? = w2.heap[k]? := fun k h1 h2 => (five_kept (w := w2) (q := k) (Array.getElem?_eq_getElem h2) w.heap.size (.int .i64 kk) (.string tt) (.string ⟨#[]⟩) (.int .u64 n) (.slice a l c) (by omega)).trans (Array.getElem?_eq_getElem h2).symm
    have v4 : ∀ k, w.heap.size + 1 ≤ k → k < w2.heap.size → ((((((w2.setCell ⟨w.heap.size, 0, none⟩ (.int .i64 kk)).setCell ⟨w.heap.size, 1, none⟩ (.string tt)).setCell ⟨w.heap.size, 2, none⟩ (.string ⟨#[]⟩)).setCell ⟨w.heap.size, 3, none⟩ (.int .u64 n)).setCell ⟨w.heap.size, 4, none⟩ (.slice a l c)).alloc (.cells #[.int .i64 kk, .string tt, .string ⟨#[]⟩, .int .u64 n, .slice a l c] 26)).heap[k]? = w2.heap[k]? := fun k h1 h2 => by
      have e := u4 k h1 h2
      rw [Array.getElem?_eq_getElem h2] at e
      rw [Below.heap_alloc _ _ _ (Array.getElem?_eq_some_iff.1 e).1, e, Array.getElem?_eq_getElem h2]
    have t1 := five_row K3.out (.int .i64 kk) (.string tt) (.string ⟨#[]⟩) (.int .u64 n) (.slice a l c)
    have t2 : ((((((w2.setCell ⟨w.heap.size, 0, none⟩ (.int .i64 kk)).setCell ⟨w.heap.size, 1, none⟩ (.string tt)).setCell ⟨w.heap.size, 2, none⟩ (.string ⟨#[]⟩)).setCell ⟨w.heap.size, 3, none⟩ (.int .u64 n)).setCell ⟨w.heap.size, 4, none⟩ (.slice a l c)).alloc (.cells #[.int .i64 kk, .string tt, .string ⟨#[]⟩, .int .u64 n, .slice a l c] 26)).heap[w.heap.size]? = _ := (Below.heap_alloc _ _ _ (Array.getElem?_eq_some_iff.1 t1).1).trans t1
    have p0 : ((((((w2.setCell ⟨w.heap.size, 0, none⟩ (.int .i64 kk)).setCell ⟨w.heap.size, 1, none⟩ (.string tt)).setCell ⟨w.heap.size, 2, none⟩ (.string ⟨#[]⟩)).setCell ⟨w.heap.size, 3, none⟩ (.int .u64 n)).setCell ⟨w.heap.size, 4, none⟩ (.slice a l c)).alloc (.cells #[.int .i64 kk, .string tt, .string ⟨#[]⟩, .int .u64 n, .slice a l c] 26)).cell? ⟨w.heap.size, 0, none⟩ = some (.int .i64 kk) := by rw [Lib.cell_of_heap t2]; rfl
    have p1 : ((((((w2.setCell ⟨w.heap.size, 0, none⟩ (.int .i64 kk)).setCell ⟨w.heap.size, 1, none⟩ (.string tt)).setCell ⟨w.heap.size, 2, none⟩ (.string ⟨#[]⟩)).setCell ⟨w.heap.size, 3, none⟩ (.int .u64 n)).setCell ⟨w.heap.size, 4, none⟩ (.slice a l c)).alloc (.cells #[.int .i64 kk, .string tt, .string ⟨#[]⟩, .int .u64 n, .slice a l c] 26)).cell? ⟨w.heap.size, 1, none⟩ = some (.string tt) := by rw [Lib.cell_of_heap t2]; rfl
    have p2 : ((((((w2.setCell ⟨w.heap.size, 0, none⟩ (.int .i64 kk)).setCell ⟨w.heap.size, 1, none⟩ (.string tt)).setCell ⟨w.heap.size, 2, none⟩ (.string ⟨#[]⟩)).setCell ⟨w.heap.size, 3, none⟩ (.int .u64 n)).setCell ⟨w.heap.size, 4, none⟩ (.slice a l c)).alloc (.cells #[.int .i64 kk, .string tt, .string ⟨#[]⟩, .int .u64 n, .slice a l c] 26)).cell? ⟨w.heap.size, 2, none⟩ = some (.string ⟨#[]⟩) := by rw [Lib.cell_of_heap t2]; rfl
    have p3 : ((((((w2.setCell ⟨w.heap.size, 0, none⟩ (.int .i64 kk)).setCell ⟨w.heap.size, 1, none⟩ (.string tt)).setCell ⟨w.heap.size, 2, none⟩ (.string ⟨#[]⟩)).setCell ⟨w.heap.size, 3, none⟩ (.int .u64 n)).setCell ⟨w.heap.size, 4, none⟩ (.slice a l c)).alloc (.cells #[.int .i64 kk, .string tt, .string ⟨#[]⟩, .int .u64 n, .slice a l c] 26)).cell? ⟨w.heap.size, 3, none⟩ = some (.int .u64 n) := by rw [Lib.cell_of_heap t2]; rfl
    have p4 : ((((((w2.setCell ⟨w.heap.size, 0, none⟩ (.int .i64 kk)).setCell ⟨w.heap.size, 1, none⟩ (.string tt)).setCell ⟨w.heap.size, 2, none⟩ (.string ⟨#[]⟩)).setCell ⟨w.heap.size, 3, none⟩ (.int .u64 n)).setCell ⟨w.heap.size, 4, none⟩ (.slice a l c)).alloc (.cells #[.int .i64 kk, .string tt, .string ⟨#[]⟩, .int .u64 n, .slice a l c] 26)).cell? ⟨w.heap.size, 4, none⟩ = some (.slice a l c) := by rw [Lib.cell_of_heap t2]; rfl
    have u6 := u0.alloc (.cells #[.int .i64 kk, .string tt, .string ⟨#[]⟩, .int .u64 n, .slice a l c] 26)
    have u7 := Lib.grownBy_allocR u3 (.cells #[.int .i64 kk, .string tt, .string ⟨#[]⟩, .int .u64 n, .slice a l c] 26)
    generalize ((((((w2.setCell ⟨w.heap.size, 0, none⟩ (.int .i64 kk)).setCell ⟨w.heap.size, 1, none⟩ (.string tt)).setCell ⟨w.heap.size, 2, none⟩ (.string ⟨#[]⟩)).setCell ⟨w.heap.size, 3, none⟩ (.int .u64 n)).setCell ⟨w.heap.size, 4, none⟩ (.slice a l c)).alloc (.cells #[.int .i64 kk, .string tt, .string ⟨#[]⟩, .int .u64 n, .slice a l c] 26)) = F at t2 p0 p1 p2 p3 p4 u6 u7 v4 ⊢
    refine bodyPost_ret (v := nodeV kk tt n a l c) (by simp [nodeV, results, Tryz.results46, go_sem, p0, p1, p2, p3, p4]) rfl ⟨kk, tt, n, a, l, c, rfl, u6, u7, hR _ w _ w2 _ R2.out (by simp) fun k h1 h2 => v4 k (by simpa using h1) h2⟩

theorem binary_lit (b p p' : Nat) (s t : ByteArray) (k d : Int) (R : Value → World → World → Prop) (hR : Stays R) (hk1 : k ≠ 1)
    (HP : ∀ w, RdAt b s p k t d w → Calls Tryz.prog 72 #[.pointer (some ⟨b, 0, none⟩)] w (LitPost b p' s d R w)) :
    ∀ w, RdAt b s p k t d w → Calls Tryz.prog 46 #[.pointer (some ⟨b, 0, none⟩), .int .i64 0] w (LitPost b p' s d R w) :=
  binary_step b p p' s t k d R hR hk1 0 (by decide) (by decide) (binary_step b p p' s t k d R hR hk1 1 (by decide) (by decide) (binary_step b p p' s t k d R hR hk1 2 (by decide) (by decide)
    (binary_step b p p' s t k d R hR hk1 3 (by decide) (by decide) (binary_step b p p' s t k d R hR hk1 4 (by decide) (by decide) (binary_step b p p' s t k d R hR hk1 5 (by decide) (by decide)
      (binary_step b p p' s t k d R hR hk1 6 (by decide) (by decide) (binary_top b p p' s t k d R hR HP)))))))

set_option maxHeartbeats 2000000 in
set_option maxRecDepth 100000 in
theorem expression_lit (b p p' : Nat) (s t : ByteArray) (k d : Int) (R : Value → World → World → Prop) (hR : Stays R) (hk1 : k ≠ 1) (hd0 : 0 ≤ d) (hd1 : d < 100)
    (HP : ∀ w, RdAt b s p k t (d + 1) w → Calls Tryz.prog 46 #[.pointer (some ⟨b, 0, none⟩), .int .i64 0] w (LitPost b p' s (d + 1) R w))
    (w : World) (h : RdAt b s p k t d w) :
    Calls Tryz.prog 24 #[.pointer (some ⟨b, 0, none⟩)] w (LitPost b p' s d R w) := by
  have hlt := h.lt
  have c4 := h.c4
  have c5 := h.c5
  have f5 := h.fz 5
  have hw : IntKind.i64.wrap (d + 1) = d + 1 := by rw [IntKind.wrap_i64]; omega
  have H1 := Lib.hid (litW_rd h)
  have G1 := Lib.hid (litW_grown w b d)
  have K0 := Lib.hid (litW_box w b d)
  have K1 := Lib.hid (litW_res w b d)
  have hgt : ¬ (200 : Int) < d + 1 := by omega
  clear h
  go_enter_defers Tryz.func24, Tryz.ntmps24
  go_wp2_with fail
  rw [← litW_def w b d]
  generalize litW w b d = W at H1 G1 K0 K1
  clear c4 c5 f5 hw hgt
  ((with_reducible refine (word_no b p s t _ k (d + 1) _ H1.out hk1).mono ?_))
  rintro e w1' ⟨rfl, rfl⟩
  have x0 : w1'.cell? ⟨w.heap.size, 0, none⟩ = some (.pointer (some ⟨b, 0, none⟩)) := by rw [Lib.cell_of_heap K0.out]; rfl
  go_wp2_with fail
  ((with_reducible refine (HP _ H1.out).mono ?_))
  rintro e w2 ⟨kk, tt, n, a, l, c, rfl, h2, g2, r2⟩
  have k0 := (g2.block _ (Array.getElem?_eq_some_iff.1 K0.out).1 (by intro e; cases e; omega)).trans K0.out
  have k1 := (g2.block _ (Array.getElem?_eq_some_iff.1 K1.out).1 (by intro e; cases e; omega)).trans K1.out
  have hs2 : w.heap.size + 2 ≤ w2.heap.size := by
    have := (Array.getElem?_eq_some_iff.1 k1).1
    omega
  have hs3 : w.heap.size < w2.heap.size := by omega
  have hs4 : w.heap.size + 1 < w2.heap.size := by omega
  have hs5 : b < w2.heap.size := by omega
  have H3 := Lib.hid (h2.alloc (.cells #[.int .i64 kk, .string tt, .string ⟨#[]⟩, .int .u64 n, .slice a l c] 26))
  have b4 := h2.c4
  have z0 : w2.cell? ⟨w.heap.size + 1, 0, none⟩ = some (.int .i64 0) := by rw [Lib.cell_of_heap k1]; rfl
  have z1 : w2.cell? ⟨w.heap.size + 1, 1, none⟩ = some (.string ⟨#[]⟩) := by rw [Lib.cell_of_heap k1]; rfl
  have z2 : w2.cell? ⟨w.heap.size + 1, 2, none⟩ = some (.string ⟨#[]⟩) := by rw [Lib.cell_of_heap k1]; rfl
  have z3 : w2.cell? ⟨w.heap.size + 1, 3, none⟩ = some (.int .u64 0) := by rw [Lib.cell_of_heap k1]; rfl
  have z4 : w2.cell? ⟨w.heap.size + 1, 4, none⟩ = some (.slice none 0 0) := by rw [Lib.cell_of_heap k1]; rfl
  have y0 := Lib.frozen_of_heap k1 0
  have y1 := Lib.frozen_of_heap k1 1
  have y2 := Lib.frozen_of_heap k1 2
  have y3 := Lib.frozen_of_heap k1 3
  have y4 := Lib.frozen_of_heap k1 4
  have x2 : w2.cell? ⟨w.heap.size, 0, none⟩ = some (.pointer (some ⟨b, 0, none⟩)) := by rw [Lib.cell_of_heap k0]; rfl
  have G2 := Lib.hid (Lib.grownBy_trans G1.out g2)
  have H2 := Lib.hid h2
  have R2 := Lib.hid r2
  have K2 := Lib.hid k0
  have K3 := Lib.hid k1
  have hs1 : w.heap.size + 2 ≤ w1'.heap.size := (Array.getElem?_eq_some_iff.1 K1.out).1
  clear h2 g2 r2 k0 k1 x0
  unfold nodeV
  go_wp2_with fail
  have u0 : RdAt b s p' 0 ⟨#[]⟩ (d + 1) _ := five_kept H2.out (w.heap.size + 1) (.int .i64 kk) (.string tt) (.string ⟨#[]⟩) (.int .u64 n) (.slice a l c) (by omega)
  have u1 := five_kept K2.out (w.heap.size + 1) (.int .i64 kk) (.string tt) (.string ⟨#[]⟩) (.int .u64 n) (.slice a l c) (by omega)
  have u2 := five_row K3.out (.int .i64 kk) (.string tt) (.string ⟨#[]⟩) (.int .u64 n) (.slice a l c)
  have u3 := five_grown G2.out (g := w.heap.size + 1) (by omega) (.int .i64 kk) (.string tt) (.string ⟨#[]⟩) (.int .u64 n) (.slice a l c)
  have u4 : ∀ k, w1'.heap.size ≤ k → k < w2.heap.size → (((((w2.setCell ⟨w.heap.size + 1, 0, none⟩ (.int .i64 kk)).setCell ⟨w.heap.size + 1, 1, none⟩ (.string tt)).setCell ⟨w.heap.size + 1, 2, none⟩ (.string ⟨#[]⟩)).setCell ⟨w.heap.size + 1, 3, none⟩ (.int .u64 n)).setCell ⟨w.heap.size + 1, 4, none⟩ (.slice a l c)).heap[k]? = w2.heap[k]? := fun k h1 h2 => (five_kept (w := w2) (q := k) (Array.getElem?_eq_getElem h2) (w.heap.size + 1) (.int .i64 kk) (.string tt) (.string ⟨#[]⟩) (.int .u64 n) (.slice a l c) (by omega)).trans (Array.getElem?_eq_getElem h2).symm
  generalize ((((w2.setCell ⟨w.heap.size + 1, 0, none⟩ (.int .i64 kk)).setCell ⟨w.heap.size + 1, 1, none⟩ (.string tt)).setCell ⟨w.heap.size + 1, 2, none⟩ (.string ⟨#[]⟩)).setCell ⟨w.heap.size + 1, 3, none⟩ (.int .u64 n)).setCell ⟨w.heap.size + 1, 4, none⟩ (.slice a l c) = F at u0 u1 u2 u3 u4
  have v0 := u0
  have v1 := u1
  have v2 := u2
  have v3 := u3
  have v4 := u4
  clear u0 u1 u2 u3 u4
  have q0 : F.cell? ⟨w.heap.size, 0, none⟩ = some (.pointer (some ⟨b, 0, none⟩)) := by rw [Lib.cell_of_heap v1]; rfl
  refine leaves_cons (f := 43) (args := #[.pointer (some ⟨w.heap.size, 0, none⟩)]) (by simp) (by simp [go_sem]) ?_
  refine (expression_dec b p' w.heap.size s ⟨#[]⟩ 0 (d + 1) F v0 q0 (by omega) (by omega)).mono ?_
  rintro e u' w'' ⟨rfl, rfl, rfl⟩
  have hd : d + 1 - 1 = d := by omega
  rw [hd]
  have t2 := row_kept v2 b 5 (.int .i64 d) (by omega)
  have p0 : (F.setCell ⟨b, 5, none⟩ (.int .i64 d)).cell? ⟨w.heap.size + 1, 0, none⟩ = some (.int .i64 kk) := by rw [Lib.cell_of_heap t2]; rfl
  have p1 : (F.setCell ⟨b, 5, none⟩ (.int .i64 d)).cell? ⟨w.heap.size + 1, 1, none⟩ = some (.string tt) := by rw [Lib.cell_of_heap t2]; rfl
  have p2 : (F.setCell ⟨b, 5, none⟩ (.int .i64 d)).cell? ⟨w.heap.size + 1, 2, none⟩ = some (.string ⟨#[]⟩) := by rw [Lib.cell_of_heap t2]; rfl
  have p3 : (F.setCell ⟨b, 5, none⟩ (.int .i64 d)).cell? ⟨w.heap.size + 1, 3, none⟩ = some (.int .u64 n) := by rw [Lib.cell_of_heap t2]; rfl
  have p4 : (F.setCell ⟨b, 5, none⟩ (.int .i64 d)).cell? ⟨w.heap.size + 1, 4, none⟩ = some (.slice a l c) := by rw [Lib.cell_of_heap t2]; rfl
  have hpost : LitPost b p' s d R w (.returned (nodeV kk tt n a l c)) (F.setCell ⟨b, 5, none⟩ (.int .i64 d)) := by
    refine ⟨kk, tt, n, a, l, c, rfl, v0.put5 d, Lib.grownBy_setB v3 5 _, hR _ w w1' w2 _ R2.out (by omega) fun k h1 h2 => ?_⟩
    have e := v4 k h1 h2
    rw [Array.getElem?_eq_getElem h2] at e ⊢
    exact row_kept e b 5 _ (by omega)
  have HQ := Lib.hid hpost
  clear hpost
  generalize F.setCell ⟨b, 5, none⟩ (.int .i64 d) = Z at p0 p1 p2 p3 p4 HQ
  generalize hPP : LitPost b p' s d R w = PP at HQ
  simp [Leaves, settle, results, Tryz.results24, go_sem, p0, p1, p2, p3, p4]
  exact HQ.out


/-- An expression that is one literal. -/
theorem expr_lit (b p p' : Nat) (s t : ByteArray) (k : Int) (R : Value → World → World → Prop) (hR : Stays R) (hk1 : k ≠ 1) (hk9 : k ≠ 9)
    (HP : ∀ w, RdAt b s p k t 2 w → Calls Tryz.prog 96 #[.pointer (some ⟨b, 0, none⟩)] w (LitPost b p' s 2 R w))
    (w : World) (h : RdAt b s p k t 0 w) :
    Calls Tryz.prog 24 #[.pointer (some ⟨b, 0, none⟩)] w (LitPost b p' s 0 R w) :=
  expression_lit b p p' s t k 0 R hR hk1 (by decide) (by decide) (binary_lit b p p' s t k 1 R hR hk1 (unary_lit b p p' s t k 1 R hR hk9 (by decide) (by decide) HP)) w h

theorem expr_leaf (b p : Nat) (s t : ByteArray) (k kk : Int) (hk : (k = 6 ∧ kk = 42) ∨ (k = 4 ∧ kk = 34)) (hp : s.size ≤ p) (w : World) (h : RdAt b s p k t 0 w) :
    Calls Tryz.prog 24 #[.pointer (some ⟨b, 0, none⟩)] w (LitPost b p s 0 (fun v _ _ => v = nodeV kk t 0 none 0 0) w) := by
  refine expr_lit b p p s t k _ (fun v w0 w1 w2 w3 h _ _ => h) (by omega) (by omega) (fun w h => ?_) w h
  refine (primary_leaf b p s t k 2 kk hk w h hp).mono ?_
  rintro e w' ⟨rfl, h1, h2⟩
  exact ⟨kk, t, 0, none, 0, 0, rfl, h1, h2, rfl⟩

end Go.Proofs.YtciaahpocaejhaaGreatDoor
