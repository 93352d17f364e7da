/- spec.ReadExpression of a duration's literal. -/
import Derived.Test.YtciaahpocaejhaaGreatDoorStep
import Derived.Test.YtciaahpocaejhaaGreatDoorNextSpan
import Derived.Test.YtciaahpocaejhaaGreatDoorReadExpr
import Derived.Test.YtciaahpocaejhaaGreatDoorDurRead
namespace Go.Proofs.YtciaahpocaejhaaGreatDoor
open Go Go.RowKit
set_option linter.unusedVariables false
set_option linter.unusedSimpArgs false

/-- A text that is numbers with units. -/
def SpanTxt (s : ByteArray) (l : List (List UInt8 × List UInt8)) : Prop :=
  s.data.toList = spanB l ∧ (∀ y ∈ l, PartOk1 y) ∧ (∀ y ∈ l, decV y.1 ≤ 9223372036854775807) ∧ s.size ≤ 10000 ∧ l.length ≤ 1000

theorem mag_in (l : List (List UInt8 × List UInt8)) (hok : ∀ y ∈ l, PartOk1 y) (hv : ∀ y ∈ l, decV y.1 ≤ 9223372036854775807) : ∀ x ∈ l.map magOf, MagIn x := by
  intro x hx
  obtain ⟨y, hy, rfl⟩ := List.mem_map.1 hx
  have h1 := hv y hy
  have h2 := (mu_no y.2 (hok y hy).2.2).2.2
  refine ⟨⟨by simp [magOf], ?_⟩, ?_⟩
  · show (decV y.1 : Int) ≤ _
    omega
  · show (⟨y.2.toArray⟩ : ByteArray).size ≤ maxLen
    unfold maxLen
    omega

set_option maxHeartbeats 1000000 in
set_option maxRecDepth 100000 in
theorem primary_span (b p : Nat) (s : ByteArray) (d : Int) (l : List (List UInt8 × List UInt8)) (hl : SpanTxt s l) (w : World) (h : RdAt b s p 8 s d w) (hp : s.size ≤ p) :
    Calls Tryz.prog 96 #[.pointer (some ⟨b, 0, none⟩)] w (LitPost b p s d (SpanV (l.map magOf)) w) := by
  obtain ⟨l1, l2, l3, l4, l5⟩ := hl
  have h1 := h.alloc (.cells #[.int .i64 0, .string ⟨#[]⟩, .string ⟨#[]⟩, .int .u64 0, .slice none 0 0] 26)
  have hlt := h.lt
  have c2 := h1.c2
  have hS := Lib.hid (step_end b p s s 8 d false _ h1 hp)
  have HDU := Lib.hid (fun w => duration_any b s l l1 l2 l3 l4 l5 w)
  have HMI := Lib.hid (mag_in l l2 l3)
  clear h h1 l1 l2 l3
  have hfd := fun w => tok_text 8 s w
  go_enter Tryz.func96, Tryz.ntmps96
  go_wp2_with fail
  ((with_reducible refine hS.out.mono ?_))
  rintro e w1 ⟨rfl, h2, hg1⟩
  go_wp2_with fail
  ((with_reducible refine (HDU.out _).mono ?_))
  rintro e w2 ⟨a, c, rfl, hown, hb2⟩
  have hk0 : w1.heap[w.heap.size]? = some (.cells #[.int .i64 0, .string ⟨#[]⟩, .string ⟨#[]⟩, .int .u64 0, .slice none 0 0] 26 (0, 0)) := (hg1.block _ (by simp) (by intro e; cases e; omega)).trans (heap_alloc_new w _)
  have hk1 := (hb2.block _ (Array.getElem?_eq_some_iff.1 hk0).1).trans hk0
  have hnode := node_of_row (base := w1.heap.size) (n := l.length) (by simp) HMI.out hown
  have z0 : w2.cell? ⟨w.heap.size, 0, none⟩ = some (.int .i64 0) := by rw [Lib.cell_of_heap hk1]; rfl
  have z1 : w2.cell? ⟨w.heap.size, 1, none⟩ = some (.string ⟨#[]⟩) := by rw [Lib.cell_of_heap hk1]; rfl
  have z2 : w2.cell? ⟨w.heap.size, 2, none⟩ = some (.string ⟨#[]⟩) := by rw [Lib.cell_of_heap hk1]; rfl
  have z3 : w2.cell? ⟨w.heap.size, 3, none⟩ = some (.int .u64 0) := by rw [Lib.cell_of_heap hk1]; rfl
  have z4 : w2.cell? ⟨w.heap.size, 4, none⟩ = some (.slice none 0 0) := by rw [Lib.cell_of_heap hk1]; rfl
  have y0 := Lib.frozen_of_heap hk1 0
  have y1 := Lib.frozen_of_heap hk1 1
  have y2 := Lib.frozen_of_heap hk1 2
  have y3 := Lib.frozen_of_heap hk1 3
  have y4 := Lib.frozen_of_heap hk1 4
  have hs1 : w.heap.size < w1.heap.size := (Array.getElem?_eq_some_iff.1 hk0).1
  have H2 := Lib.hid (h2.below hb2)
  have HG := Lib.hid (Lib.grownBy_below (Lib.grownBy_trans (World.grownBy_alloc w _ (some b)) hg1) hb2)
  have HN := Lib.hid hnode
  clear hk0 hk1 h2 hg1 hb2 hnode hown
  unfold nodeV
  go_wp2
  have hv : LitPost b p s d (SpanV (l.map magOf)) w (.returned (nodeV 39 ⟨#[]⟩ 0 a l.length c)) (((((w2.setCell ⟨w.heap.size, 0, none⟩ (.int .i64 39)).setCell ⟨w.heap.size, 1, none⟩ (.string ⟨#[]⟩)).setCell ⟨w.heap.size, 2, none⟩ (.string ⟨#[]⟩)).setCell ⟨w.heap.size, 3, none⟩ (.int .u64 0)).setCell ⟨w.heap.size, 4, none⟩ (.slice a l.length c)) := by
    refine ⟨39, ⟨#[]⟩, 0, a, l.length, c, rfl, ?_, ?_, ?_⟩
    · exact ((((H2.out.set _ 0 _ (by omega)).set _ 1 _ (by omega)).set _ 2 _ (by omega)).set _ 3 _ (by omega)).set _ 4 _ (by omega)
    · exact grownBy_new (grownBy_new (grownBy_new (grownBy_new (grownBy_new HG.out (Nat.le_refl _) 0 _) (Nat.le_refl _) 1 _) (Nat.le_refl _) 2 _) (Nat.le_refl _) 3 _) (Nat.le_refl _) 4 _
    · have hz := five_size (w := w2) (g := w.heap.size) (.int .i64 39) (.string ⟨#[]⟩) (.string ⟨#[]⟩) (.int .u64 0) (.slice a l.length c)
      refine spanV_stays (l.map magOf) _ w w1 w2 _ HN.out (by omega) fun k h1 h2 => ?_
      exact (five_kept (w := w2) (q := k) (Array.getElem?_eq_getElem h2) w.heap.size _ _ _ _ _ (by omega)).trans (Array.getElem?_eq_getElem h2).symm
  refine bodyPost_ret (v := nodeV 39 ⟨#[]⟩ 0 a l.length c) (by simp [nodeV, results, Tryz.results96, go_sem, z0, z1, z2, z3, z4]) rfl hv

theorem readExpr_span (s : ByteArray) (x : List UInt8 × List UInt8) (post : List (List UInt8 × List UInt8)) (hl : SpanTxt s (x :: post)) (w : World) :
    Calls Tryz.prog 10 #[.string s] w fun e w' => ∃ v, e = .returned (.tuple #[v, .bool true]) ∧ SpanV ((x :: post).map magOf) v w w' ∧ Below w.heap.size w w' :=
  readExpr_lit s s s.size s.size 8 (SpanV ((x :: post).map magOf)) (spanV_stays _) w
    (fun w => read_gen s s s.size 8 (fun b w h => next_span b s ⟨#[]⟩ 0 0 x post hl.1 hl.2.1 hl.2.2.2.1 w 0 rfl h) w)
    (fun b w h => expr_lit b s.size s.size s s 8 _ (spanV_stays _) (by decide) (by decide) (fun w h => primary_span b s.size s 2 _ hl w h (Nat.le_refl _)) w h)

end Go.Proofs.YtciaahpocaejhaaGreatDoor
