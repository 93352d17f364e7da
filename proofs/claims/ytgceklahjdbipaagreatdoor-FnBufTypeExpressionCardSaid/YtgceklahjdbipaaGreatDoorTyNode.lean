/- impl.typeNode over types of one or two nodes. -/
import Derived.Test.YtgceklahjdbipaaGreatDoorGives
import Derived.Test.YtgceklahjdbipaaGreatDoorEither
namespace Go.Proofs.YtgceklahjdbipaaGreatDoor
open Go Go.RowKit
set_option linter.unusedVariables false
set_option linter.unusedSimpArgs false

theorem one_row {W : World} {g lo : Nat} {t1 : Tr} {a1 : Option Addr} {c1 : Nat} (h : W.heap[g]? = some (.cells (nodeL t1 a1 c1).toArray 25 (0, 0))) (hlo : lo ≤ g) (n1 : NodeIn W (fun r => lo ≤ r ∧ r < g) t1 (nodeU t1.kind t1.text t1.more t1.num a1 t1.kids.length c1)) : RowNodes W lo (.slice (some ⟨g, 0, none⟩) 1 1) [t1] := by
  have hg := (Array.getElem?_eq_some_iff.1 h).1
  refine ⟨[nodeL t1 a1 c1], rfl, fun u hu => ?_, ⟨rfl, .inr ⟨g, 1, _, rfl, hlo, h, Nat.le_refl _, by decide, rfl, by simp [nodeL]⟩⟩, fun i hi hi2 => ?_⟩
  · rw [List.mem_singleton] at hu
    rw [hu]
    exact nodeL_one t1 a1 c1
  · have h0 : i = 0 := by simpa using hi
    subst h0
    exact n1.mono fun b hb => ⟨hb.1, by omega, fun e => by
      have e2 : g = b := Option.some.inj e
      omega⟩

theorem two_row {W : World} {g lo : Nat} {t1 t2 : Tr} {a1 a2 : Option Addr} {c1 c2 : Nat} (h : W.heap[g]? = some (.cells (nodeL t1 a1 c1 ++ nodeL t2 a2 c2).toArray 25 (0, 0))) (hlo : lo ≤ g) (n1 : NodeIn W (fun r => lo ≤ r ∧ r < g) t1 (nodeU t1.kind t1.text t1.more t1.num a1 t1.kids.length c1)) (n2 : NodeIn W (fun r => lo ≤ r ∧ r < g) t2 (nodeU t2.kind t2.text t2.more t2.num a2 t2.kids.length c2)) : RowNodes W lo (.slice (some ⟨g, 0, none⟩) 2 2) [t1, t2] := by
  have hg := (Array.getElem?_eq_some_iff.1 h).1
  have hm : ∀ b, lo ≤ b ∧ b < g → lo ≤ b ∧ b < W.heap.size ∧ (Value.slice (some ⟨g, 0, none⟩) 2 2).ownBlock ≠ some b := fun b hb => ⟨hb.1, by omega, fun e => by
    have e2 : g = b := Option.some.inj e
    omega⟩
  refine ⟨[nodeL t1 a1 c1, nodeL t2 a2 c2], rfl, fun u hu => ?_, ⟨rfl, .inr ⟨g, 2, _, rfl, hlo, h, Nat.le_refl _, by decide, rfl, by simp [nodeL]⟩⟩, fun i hi hi2 => ?_⟩
  · rcases List.mem_cons.1 hu with rfl | hu
    · exact nodeL_one t1 a1 c1
    · rw [List.mem_singleton] at hu
      rw [hu]
      exact nodeL_one t2 a2 c2
  · have h0 : i = 0 ∨ i = 1 := by simp at hi; omega
    rcases h0 with rfl | rfl
    · exact n1.mono hm
    · exact n2.mono hm

/-- Kids that stand while a box is written and a row is made. -/
theorem kid_stands {w w2 F G : World} {lo hi : Nat} {tr : Tr} {x : Value} (hn : NodeIn w2 (fun r => lo ≤ r ∧ r < hi) tr x) (hb : w.heap.size < lo) (hF : ∀ r, r ≠ w.heap.size → F.heap[r]? = w2.heap[r]?) (hs : hi ≤ F.heap.size) (hG : ∀ r, r < F.heap.size → G.heap[r]? = F.heap[r]?) : NodeIn G (fun r => lo ≤ r ∧ r < hi) tr x :=
  hn.keep fun r hr => (hG r (by omega)).trans (hF r (by omega))

theorem five_other {w2 : World} {b r : Nat} (h : r ≠ b) (v0 v1 v2 v3 v4 : Value) : (((((w2.setCell ⟨b, 0, none⟩ v0).setCell ⟨b, 1, none⟩ v1).setCell ⟨b, 2, none⟩ v2).setCell ⟨b, 3, none⟩ v3).setCell ⟨b, 4, none⟩ v4).heap[r]? = w2.heap[r]? :=
  (Below.heap_setCell _ _ _ _ h).trans ((Below.heap_setCell _ _ _ _ h).trans ((Below.heap_setCell _ _ _ _ h).trans ((Below.heap_setCell _ _ _ _ h).trans (Below.heap_setCell _ _ _ _ h))))

theorem below_more {w w' : World} (h : Below w.heap.size w w') (o : Obj) : Below w.heap.size w (w'.alloc o) := h.alloc h.size o
theorem below_set {w w' : World} (h : Below w.heap.size w w') (i : Nat) (v : Value) : Below w.heap.size w (w'.setCell ⟨w.heap.size, i, none⟩ v) := h.setCell (p := ⟨w.heap.size, i, none⟩) (Nat.le_refl _) v


set_option maxHeartbeats 8000000 in
set_option maxRecDepth 100000 in
theorem typeNodeArrayType_gives (r : Nat) (x1 : Value) (t1 : Tr) (w : World) (h : w.heap[r]? = some (.cells #[.pointer none, .slice none 0 0, .slice none 0 0, x1] 310 (0, 0)))
    (hx : ∀ W, Below w.heap.size w W → Calls Tryz.prog 40 #[x1] W (Gives t1 W)) :
    Calls Tryz.prog 54 #[.iface 308 (.pointer (some ⟨r, 0, none⟩))] w (Gives (.mk 47 ⟨#[]⟩ ⟨#[]⟩ 0 [t1]) w) := by
  have q0 : ∀ W, (Instr.typeAssert (.iface 308 (.pointer (some ⟨r, 0, none⟩))) 83 73 true).run Tryz.prog W = .ok (.tuple #[.pointer none, .bool false]) W := run_assert_other _ _ _ _ _ _ Tryz.underlying73 (by decide) (by kernel_rfl)
  have q1 : ∀ W, (Instr.typeAssert (.iface 308 (.pointer (some ⟨r, 0, none⟩))) 83 303 true).run Tryz.prog W = .ok (.tuple #[.pointer none, .bool false]) W := run_assert_other _ _ _ _ _ _ Tryz.underlying303 (by decide) (by kernel_rfl)
  have q2 : ∀ W, (Instr.typeAssert (.iface 308 (.pointer (some ⟨r, 0, none⟩))) 83 306 true).run Tryz.prog W = .ok (.tuple #[.pointer none, .bool false]) W := run_assert_other _ _ _ _ _ _ Tryz.underlying306 (by decide) (by kernel_rfl)
  have q3 : ∀ W, (Instr.typeAssert (.iface 308 (.pointer (some ⟨r, 0, none⟩))) 83 308 true).run Tryz.prog W = .ok (.tuple #[.pointer (some ⟨r, 0, none⟩), .bool true]) W := run_assert_same _ _ _ _ Tryz.underlying308
  have hb0 := (Below.refl w.heap.size w).alloc (Nat.le_refl _) (.cells #[.int .i64 0, .string ⟨#[]⟩, .string ⟨#[]⟩, .int .u64 0, .slice none 0 0] 25)
  have c3 : w.cell? ⟨r, 3, none⟩ = some (x1) := by rw [Lib.cell_of_heap h]; rfl
  have hr : r < w.heap.size := (Array.getElem?_eq_some_iff.1 h).1
  have hr0 := heap_alloc_new w (.cells #[.int .i64 0, .string ⟨#[]⟩, .string ⟨#[]⟩, .int .u64 0, .slice none 0 0] 25)
  have hs0 : (w.alloc (.cells #[.int .i64 0, .string ⟨#[]⟩, .string ⟨#[]⟩, .int .u64 0, .slice none 0 0] 25)).heap.size = w.heap.size + 1 := alloc_size _ _
  have HO := Lib.hid (hx _ hb0)
  have HB0 := Lib.hid hb0
  have HR0 := Lib.hid hr0
  have HS0 := Lib.hid hs0
  clear h hx hb0 hr0 hs0
  go_enter Tryz.func54, Tryz.ntmps54
  go_wp2_with fail
  ((with_reducible refine HO.out.mono ?_))
  rintro e w2 ⟨a1, c1, rfl, hn1, hb1⟩
  have HN1 := Lib.hid hn1
  have HB2 := Lib.hid (HB0.out.trans (hb1.mono HB0.out.size))
  have hr2 : w2.heap[w.heap.size]? = some (.cells #[.int .i64 0, .string ⟨#[]⟩, .string ⟨#[]⟩, .int .u64 0, .slice none 0 0] 25 (0, 0)) := (hb1.block _ (Array.getElem?_eq_some_iff.1 HR0.out).1).trans HR0.out
  have hlt2 := (Array.getElem?_eq_some_iff.1 hr2).1
  have HLE : Hid (w.heap.size + 1 ≤ w2.heap.size) := Lib.hid (by rw [← HS0.out]; exact hb1.size)
  clear hb1 hn1
  have z0 : w2.cell? ⟨w.heap.size, 0, none⟩ = some (.int .i64 0) := by rw [Lib.cell_of_heap hr2]; rfl
  have z1 : w2.cell? ⟨w.heap.size, 1, none⟩ = some (.string ⟨#[]⟩) := by rw [Lib.cell_of_heap hr2]; rfl
  have z2 : w2.cell? ⟨w.heap.size, 2, none⟩ = some (.string ⟨#[]⟩) := by rw [Lib.cell_of_heap hr2]; rfl
  have z3 : w2.cell? ⟨w.heap.size, 3, none⟩ = some (.int .u64 0) := by rw [Lib.cell_of_heap hr2]; rfl
  have z4 : w2.cell? ⟨w.heap.size, 4, none⟩ = some (.slice none 0 0) := by rw [Lib.cell_of_heap hr2]; rfl
  have y0 := Lib.frozen_of_heap hr2 0
  have y1 := Lib.frozen_of_heap hr2 1
  have y2 := Lib.frozen_of_heap hr2 2
  have y3 := Lib.frozen_of_heap hr2 3
  have y4 := Lib.frozen_of_heap hr2 4
  have HR2 := Lib.hid hr2
  clear hr2
  go_wp2
  have u0 := row_setG (row_setG (row_setG (row_setG (row_setG HR2.out 0 (.int .i64 47)) 1 (.string ⟨#[]⟩)) 2 (.string ⟨#[]⟩)) 3 (.int .u64 0)) 4 (.slice (some ⟨w2.heap.size, 0, none⟩) 1 1)
  have u1 := set_five_below HB2.out (.int .i64 47) (.string ⟨#[]⟩) (.string ⟨#[]⟩) (.int .u64 0) (.slice (some ⟨w2.heap.size, 0, none⟩) 1 1)
  have u2 : (((((w2.setCell ⟨w.heap.size, 0, none⟩ (.int .i64 47)).setCell ⟨w.heap.size, 1, none⟩ (.string ⟨#[]⟩)).setCell ⟨w.heap.size, 2, none⟩ (.string ⟨#[]⟩)).setCell ⟨w.heap.size, 3, none⟩ (.int .u64 0)).setCell ⟨w.heap.size, 4, none⟩ (.slice (some ⟨w2.heap.size, 0, none⟩) 1 1)).heap.size = w2.heap.size := by simp [World.setCell]
  have u3 := fun r (hr : r ≠ w.heap.size) => five_other (w2 := w2) hr (.int .i64 47) (.string ⟨#[]⟩) (.string ⟨#[]⟩) (.int .u64 0) (.slice (some ⟨w2.heap.size, 0, none⟩) 1 1)
  generalize (((((w2.setCell ⟨w.heap.size, 0, none⟩ (.int .i64 47)).setCell ⟨w.heap.size, 1, none⟩ (.string ⟨#[]⟩)).setCell ⟨w.heap.size, 2, none⟩ (.string ⟨#[]⟩)).setCell ⟨w.heap.size, 3, none⟩ (.int .u64 0)).setCell ⟨w.heap.size, 4, none⟩ (.slice (some ⟨w2.heap.size, 0, none⟩) 1 1)) = F at *
  have v0 := (Below.heap_alloc F (.cells #[.int .i64 t1.kind, .string t1.text, .string t1.more, .int .u64 t1.num, .slice a1 t1.kids.length c1] 25) _ (Array.getElem?_eq_some_iff.1 u0).1).trans u0
  have v1 := heap_alloc_new F (.cells #[.int .i64 t1.kind, .string t1.text, .string t1.more, .int .u64 t1.num, .slice a1 t1.kids.length c1] 25)
  have v2 := u1.alloc u1.size (.cells #[.int .i64 t1.kind, .string t1.text, .string t1.more, .int .u64 t1.num, .slice a1 t1.kids.length c1] 25)
  have v3 := fun r (hr : r < F.heap.size) => Below.heap_alloc F (.cells #[.int .i64 t1.kind, .string t1.text, .string t1.more, .int .u64 t1.num, .slice a1 t1.kids.length c1] 25) r hr
  rw [u2] at v1
  generalize F.alloc (.cells #[.int .i64 t1.kind, .string t1.text, .string t1.more, .int .u64 t1.num, .slice a1 t1.kids.length c1] 25) = G at *
  have q0 : G.cell? ⟨w.heap.size, 0, none⟩ = some (.int .i64 47) := by rw [Lib.cell_of_heap v0]; rfl
  have q1 : G.cell? ⟨w.heap.size, 1, none⟩ = some (.string ⟨#[]⟩) := by rw [Lib.cell_of_heap v0]; rfl
  have q2 : G.cell? ⟨w.heap.size, 2, none⟩ = some (.string ⟨#[]⟩) := by rw [Lib.cell_of_heap v0]; rfl
  have q3 : G.cell? ⟨w.heap.size, 3, none⟩ = some (.int .u64 0) := by rw [Lib.cell_of_heap v0]; rfl
  have q4 : G.cell? ⟨w.heap.size, 4, none⟩ = some (.slice (some ⟨w2.heap.size, 0, none⟩) 1 1) := by rw [Lib.cell_of_heap v0]; rfl
  have k1 := kid_stands (hi := w2.heap.size) (by have := HN1.out; rw [HS0.out] at this; exact this) (Nat.lt_succ_self _) u3 (by rw [u2]; exact Nat.le_refl _) v3
  have hnode := RowNodes.node (k := 47) (t := ⟨#[]⟩) (m := ⟨#[]⟩) (u := 0) (one_row (lo := w.heap.size + 1) (t1 := t1) (a1 := a1) (c1 := c1) v1 HLE.out k1) rfl (by show 1 ≤ maxLen; decide) (by omega) (by decide) (by decide) (by omega)
  refine bodyPost_ret (v := .agg #[.int .i64 47, .string ⟨#[]⟩, .string ⟨#[]⟩, .int .u64 0, .slice (some ⟨w2.heap.size, 0, none⟩) 1 1]) (by simp [results, Tryz.results54, go_sem, q0, q1, q2, q3, q4]) rfl ⟨some ⟨w2.heap.size, 0, none⟩, 1, rfl, hnode.mono fun b hb => ⟨by omega, hb.2⟩, v2⟩


set_option maxHeartbeats 8000000 in
set_option maxRecDepth 100000 in
theorem typeNodeNamedType_gives (r : Nat) (x1 : Value) (t1 : Tr) (w : World) (h : w.heap[r]? = some (.cells #[.pointer none, .slice none 0 0, .slice none 0 0, x1] 305 (0, 0)))
    (hx : ∀ W, Below w.heap.size w W → Calls Tryz.prog 38 #[x1] W (Gives t1 W)) :
    Calls Tryz.prog 54 #[.iface 303 (.pointer (some ⟨r, 0, none⟩))] w (Gives (.mk 45 ⟨#[]⟩ ⟨#[]⟩ 0 [t1]) w) := by
  have q0 : ∀ W, (Instr.typeAssert (.iface 303 (.pointer (some ⟨r, 0, none⟩))) 83 73 true).run Tryz.prog W = .ok (.tuple #[.pointer none, .bool false]) W := run_assert_other _ _ _ _ _ _ Tryz.underlying73 (by decide) (by kernel_rfl)
  have q1 : ∀ W, (Instr.typeAssert (.iface 303 (.pointer (some ⟨r, 0, none⟩))) 83 303 true).run Tryz.prog W = .ok (.tuple #[.pointer (some ⟨r, 0, none⟩), .bool true]) W := run_assert_same _ _ _ _ Tryz.underlying303
  have hb0 := (Below.refl w.heap.size w).alloc (Nat.le_refl _) (.cells #[.int .i64 0, .string ⟨#[]⟩, .string ⟨#[]⟩, .int .u64 0, .slice none 0 0] 25)
  have c3 : w.cell? ⟨r, 3, none⟩ = some (x1) := by rw [Lib.cell_of_heap h]; rfl
  have hr : r < w.heap.size := (Array.getElem?_eq_some_iff.1 h).1
  have hr0 := heap_alloc_new w (.cells #[.int .i64 0, .string ⟨#[]⟩, .string ⟨#[]⟩, .int .u64 0, .slice none 0 0] 25)
  have hs0 : (w.alloc (.cells #[.int .i64 0, .string ⟨#[]⟩, .string ⟨#[]⟩, .int .u64 0, .slice none 0 0] 25)).heap.size = w.heap.size + 1 := alloc_size _ _
  have HO := Lib.hid (hx _ hb0)
  have HB0 := Lib.hid hb0
  have HR0 := Lib.hid hr0
  have HS0 := Lib.hid hs0
  clear h hx hb0 hr0 hs0
  go_enter Tryz.func54, Tryz.ntmps54
  go_wp2_with fail
  ((with_reducible refine HO.out.mono ?_))
  rintro e w2 ⟨a1, c1, rfl, hn1, hb1⟩
  have HN1 := Lib.hid hn1
  have HB2 := Lib.hid (HB0.out.trans (hb1.mono HB0.out.size))
  have hr2 : w2.heap[w.heap.size]? = some (.cells #[.int .i64 0, .string ⟨#[]⟩, .string ⟨#[]⟩, .int .u64 0, .slice none 0 0] 25 (0, 0)) := (hb1.block _ (Array.getElem?_eq_some_iff.1 HR0.out).1).trans HR0.out
  have hlt2 := (Array.getElem?_eq_some_iff.1 hr2).1
  have HLE : Hid (w.heap.size + 1 ≤ w2.heap.size) := Lib.hid (by rw [← HS0.out]; exact hb1.size)
  clear hb1 hn1
  have z0 : w2.cell? ⟨w.heap.size, 0, none⟩ = some (.int .i64 0) := by rw [Lib.cell_of_heap hr2]; rfl
  have z1 : w2.cell? ⟨w.heap.size, 1, none⟩ = some (.string ⟨#[]⟩) := by rw [Lib.cell_of_heap hr2]; rfl
  have z2 : w2.cell? ⟨w.heap.size, 2, none⟩ = some (.string ⟨#[]⟩) := by rw [Lib.cell_of_heap hr2]; rfl
  have z3 : w2.cell? ⟨w.heap.size, 3, none⟩ = some (.int .u64 0) := by rw [Lib.cell_of_heap hr2]; rfl
  have z4 : w2.cell? ⟨w.heap.size, 4, none⟩ = some (.slice none 0 0) := by rw [Lib.cell_of_heap hr2]; rfl
  have y0 := Lib.frozen_of_heap hr2 0
  have y1 := Lib.frozen_of_heap hr2 1
  have y2 := Lib.frozen_of_heap hr2 2
  have y3 := Lib.frozen_of_heap hr2 3
  have y4 := Lib.frozen_of_heap hr2 4
  have HR2 := Lib.hid hr2
  clear hr2
  go_wp2
  have u0 := row_setG (row_setG (row_setG (row_setG (row_setG HR2.out 0 (.int .i64 45)) 1 (.string ⟨#[]⟩)) 2 (.string ⟨#[]⟩)) 3 (.int .u64 0)) 4 (.slice (some ⟨w2.heap.size, 0, none⟩) 1 1)
  have u1 := set_five_below HB2.out (.int .i64 45) (.string ⟨#[]⟩) (.string ⟨#[]⟩) (.int .u64 0) (.slice (some ⟨w2.heap.size, 0, none⟩) 1 1)
  have u2 : (((((w2.setCell ⟨w.heap.size, 0, none⟩ (.int .i64 45)).setCell ⟨w.heap.size, 1, none⟩ (.string ⟨#[]⟩)).setCell ⟨w.heap.size, 2, none⟩ (.string ⟨#[]⟩)).setCell ⟨w.heap.size, 3, none⟩ (.int .u64 0)).setCell ⟨w.heap.size, 4, none⟩ (.slice (some ⟨w2.heap.size, 0, none⟩) 1 1)).heap.size = w2.heap.size := by simp [World.setCell]
  have u3 := fun r (hr : r ≠ w.heap.size) => five_other (w2 := w2) hr (.int .i64 45) (.string ⟨#[]⟩) (.string ⟨#[]⟩) (.int .u64 0) (.slice (some ⟨w2.heap.size, 0, none⟩) 1 1)
  generalize (((((w2.setCell ⟨w.heap.size, 0, none⟩ (.int .i64 45)).setCell ⟨w.heap.size, 1, none⟩ (.string ⟨#[]⟩)).setCell ⟨w.heap.size, 2, none⟩ (.string ⟨#[]⟩)).setCell ⟨w.heap.size, 3, none⟩ (.int .u64 0)).setCell ⟨w.heap.size, 4, none⟩ (.slice (some ⟨w2.heap.size, 0, none⟩) 1 1)) = F at *
  have v0 := (Below.heap_alloc F (.cells #[.int .i64 t1.kind, .string t1.text, .string t1.more, .int .u64 t1.num, .slice a1 t1.kids.length c1] 25) _ (Array.getElem?_eq_some_iff.1 u0).1).trans u0
  have v1 := heap_alloc_new F (.cells #[.int .i64 t1.kind, .string t1.text, .string t1.more, .int .u64 t1.num, .slice a1 t1.kids.length c1] 25)
  have v2 := u1.alloc u1.size (.cells #[.int .i64 t1.kind, .string t1.text, .string t1.more, .int .u64 t1.num, .slice a1 t1.kids.length c1] 25)
  have v3 := fun r (hr : r < F.heap.size) => Below.heap_alloc F (.cells #[.int .i64 t1.kind, .string t1.text, .string t1.more, .int .u64 t1.num, .slice a1 t1.kids.length c1] 25) r hr
  rw [u2] at v1
  generalize F.alloc (.cells #[.int .i64 t1.kind, .string t1.text, .string t1.more, .int .u64 t1.num, .slice a1 t1.kids.length c1] 25) = G at *
  have q0 : G.cell? ⟨w.heap.size, 0, none⟩ = some (.int .i64 45) := by rw [Lib.cell_of_heap v0]; rfl
  have q1 : G.cell? ⟨w.heap.size, 1, none⟩ = some (.string ⟨#[]⟩) := by rw [Lib.cell_of_heap v0]; rfl
  have q2 : G.cell? ⟨w.heap.size, 2, none⟩ = some (.string ⟨#[]⟩) := by rw [Lib.cell_of_heap v0]; rfl
  have q3 : G.cell? ⟨w.heap.size, 3, none⟩ = some (.int .u64 0) := by rw [Lib.cell_of_heap v0]; rfl
  have q4 : G.cell? ⟨w.heap.size, 4, none⟩ = some (.slice (some ⟨w2.heap.size, 0, none⟩) 1 1) := by rw [Lib.cell_of_heap v0]; rfl
  have k1 := kid_stands (hi := w2.heap.size) (by have := HN1.out; rw [HS0.out] at this; exact this) (Nat.lt_succ_self _) u3 (by rw [u2]; exact Nat.le_refl _) v3
  have hnode := RowNodes.node (k := 45) (t := ⟨#[]⟩) (m := ⟨#[]⟩) (u := 0) (one_row (lo := w.heap.size + 1) (t1 := t1) (a1 := a1) (c1 := c1) v1 HLE.out k1) rfl (by show 1 ≤ maxLen; decide) (by omega) (by decide) (by decide) (by omega)
  refine bodyPost_ret (v := .agg #[.int .i64 45, .string ⟨#[]⟩, .string ⟨#[]⟩, .int .u64 0, .slice (some ⟨w2.heap.size, 0, none⟩) 1 1]) (by simp [results, Tryz.results54, go_sem, q0, q1, q2, q3, q4]) rfl ⟨some ⟨w2.heap.size, 0, none⟩, 1, rfl, hnode.mono fun b hb => ⟨by omega, hb.2⟩, v2⟩


set_option maxHeartbeats 8000000 in
set_option maxRecDepth 100000 in
theorem typeNodeTvarType_gives (r : Nat) (x1 : Value) (t1 : Tr) (w : World) (h : w.heap[r]? = some (.cells #[.pointer none, .slice none 0 0, .slice none 0 0, x1] 307 (0, 0)))
    (hx : ∀ W, Below w.heap.size w W → Calls Tryz.prog 38 #[x1] W (Gives t1 W)) :
    Calls Tryz.prog 54 #[.iface 306 (.pointer (some ⟨r, 0, none⟩))] w (Gives (.mk 46 ⟨#[]⟩ ⟨#[]⟩ 0 [t1]) w) := by
  have q0 : ∀ W, (Instr.typeAssert (.iface 306 (.pointer (some ⟨r, 0, none⟩))) 83 73 true).run Tryz.prog W = .ok (.tuple #[.pointer none, .bool false]) W := run_assert_other _ _ _ _ _ _ Tryz.underlying73 (by decide) (by kernel_rfl)
  have q1 : ∀ W, (Instr.typeAssert (.iface 306 (.pointer (some ⟨r, 0, none⟩))) 83 303 true).run Tryz.prog W = .ok (.tuple #[.pointer none, .bool false]) W := run_assert_other _ _ _ _ _ _ Tryz.underlying303 (by decide) (by kernel_rfl)
  have q2 : ∀ W, (Instr.typeAssert (.iface 306 (.pointer (some ⟨r, 0, none⟩))) 83 306 true).run Tryz.prog W = .ok (.tuple #[.pointer (some ⟨r, 0, none⟩), .bool true]) W := run_assert_same _ _ _ _ Tryz.underlying306
  have hb0 := (Below.refl w.heap.size w).alloc (Nat.le_refl _) (.cells #[.int .i64 0, .string ⟨#[]⟩, .string ⟨#[]⟩, .int .u64 0, .slice none 0 0] 25)
  have c3 : w.cell? ⟨r, 3, none⟩ = some (x1) := by rw [Lib.cell_of_heap h]; rfl
  have hr : r < w.heap.size := (Array.getElem?_eq_some_iff.1 h).1
  have hr0 := heap_alloc_new w (.cells #[.int .i64 0, .string ⟨#[]⟩, .string ⟨#[]⟩, .int .u64 0, .slice none 0 0] 25)
  have hs0 : (w.alloc (.cells #[.int .i64 0, .string ⟨#[]⟩, .string ⟨#[]⟩, .int .u64 0, .slice none 0 0] 25)).heap.size = w.heap.size + 1 := alloc_size _ _
  have HO := Lib.hid (hx _ hb0)
  have HB0 := Lib.hid hb0
  have HR0 := Lib.hid hr0
  have HS0 := Lib.hid hs0
  clear h hx hb0 hr0 hs0
  go_enter Tryz.func54, Tryz.ntmps54
  go_wp2_with fail
  ((with_reducible refine HO.out.mono ?_))
  rintro e w2 ⟨a1, c1, rfl, hn1, hb1⟩
  have HN1 := Lib.hid hn1
  have HB2 := Lib.hid (HB0.out.trans (hb1.mono HB0.out.size))
  have hr2 : w2.heap[w.heap.size]? = some (.cells #[.int .i64 0, .string ⟨#[]⟩, .string ⟨#[]⟩, .int .u64 0, .slice none 0 0] 25 (0, 0)) := (hb1.block _ (Array.getElem?_eq_some_iff.1 HR0.out).1).trans HR0.out
  have hlt2 := (Array.getElem?_eq_some_iff.1 hr2).1
  have HLE : Hid (w.heap.size + 1 ≤ w2.heap.size) := Lib.hid (by rw [← HS0.out]; exact hb1.size)
  clear hb1 hn1
  have z0 : w2.cell? ⟨w.heap.size, 0, none⟩ = some (.int .i64 0) := by rw [Lib.cell_of_heap hr2]; rfl
  have z1 : w2.cell? ⟨w.heap.size, 1, none⟩ = some (.string ⟨#[]⟩) := by rw [Lib.cell_of_heap hr2]; rfl
  have z2 : w2.cell? ⟨w.heap.size, 2, none⟩ = some (.string ⟨#[]⟩) := by rw [Lib.cell_of_heap hr2]; rfl
  have z3 : w2.cell? ⟨w.heap.size, 3, none⟩ = some (.int .u64 0) := by rw [Lib.cell_of_heap hr2]; rfl
  have z4 : w2.cell? ⟨w.heap.size, 4, none⟩ = some (.slice none 0 0) := by rw [Lib.cell_of_heap hr2]; rfl
  have y0 := Lib.frozen_of_heap hr2 0
  have y1 := Lib.frozen_of_heap hr2 1
  have y2 := Lib.frozen_of_heap hr2 2
  have y3 := Lib.frozen_of_heap hr2 3
  have y4 := Lib.frozen_of_heap hr2 4
  have HR2 := Lib.hid hr2
  clear hr2
  go_wp2
  have u0 := row_setG (row_setG (row_setG (row_setG (row_setG HR2.out 0 (.int .i64 46)) 1 (.string ⟨#[]⟩)) 2 (.string ⟨#[]⟩)) 3 (.int .u64 0)) 4 (.slice (some ⟨w2.heap.size, 0, none⟩) 1 1)
  have u1 := set_five_below HB2.out (.int .i64 46) (.string ⟨#[]⟩) (.string ⟨#[]⟩) (.int .u64 0) (.slice (some ⟨w2.heap.size, 0, none⟩) 1 1)
  have u2 : (((((w2.setCell ⟨w.heap.size, 0, none⟩ (.int .i64 46)).setCell ⟨w.heap.size, 1, none⟩ (.string ⟨#[]⟩)).setCell ⟨w.heap.size, 2, none⟩ (.string ⟨#[]⟩)).setCell ⟨w.heap.size, 3, none⟩ (.int .u64 0)).setCell ⟨w.heap.size, 4, none⟩ (.slice (some ⟨w2.heap.size, 0, none⟩) 1 1)).heap.size = w2.heap.size := by simp [World.setCell]
  have u3 := fun r (hr : r ≠ w.heap.size) => five_other (w2 := w2) hr (.int .i64 46) (.string ⟨#[]⟩) (.string ⟨#[]⟩) (.int .u64 0) (.slice (some ⟨w2.heap.size, 0, none⟩) 1 1)
  generalize (((((w2.setCell ⟨w.heap.size, 0, none⟩ (.int .i64 46)).setCell ⟨w.heap.size, 1, none⟩ (.string ⟨#[]⟩)).setCell ⟨w.heap.size, 2, none⟩ (.string ⟨#[]⟩)).setCell ⟨w.heap.size, 3, none⟩ (.int .u64 0)).setCell ⟨w.heap.size, 4, none⟩ (.slice (some ⟨w2.heap.size, 0, none⟩) 1 1)) = F at *
  have v0 := (Below.heap_alloc F (.cells #[.int .i64 t1.kind, .string t1.text, .string t1.more, .int .u64 t1.num, .slice a1 t1.kids.length c1] 25) _ (Array.getElem?_eq_some_iff.1 u0).1).trans u0
  have v1 := heap_alloc_new F (.cells #[.int .i64 t1.kind, .string t1.text, .string t1.more, .int .u64 t1.num, .slice a1 t1.kids.length c1] 25)
  have v2 := u1.alloc u1.size (.cells #[.int .i64 t1.kind, .string t1.text, .string t1.more, .int .u64 t1.num, .slice a1 t1.kids.length c1] 25)
  have v3 := fun r (hr : r < F.heap.size) => Below.heap_alloc F (.cells #[.int .i64 t1.kind, .string t1.text, .string t1.more, .int .u64 t1.num, .slice a1 t1.kids.length c1] 25) r hr
  rw [u2] at v1
  generalize F.alloc (.cells #[.int .i64 t1.kind, .string t1.text, .string t1.more, .int .u64 t1.num, .slice a1 t1.kids.length c1] 25) = G at *
  have q0 : G.cell? ⟨w.heap.size, 0, none⟩ = some (.int .i64 46) := by rw [Lib.cell_of_heap v0]; rfl
  have q1 : G.cell? ⟨w.heap.size, 1, none⟩ = some (.string ⟨#[]⟩) := by rw [Lib.cell_of_heap v0]; rfl
  have q2 : G.cell? ⟨w.heap.size, 2, none⟩ = some (.string ⟨#[]⟩) := by rw [Lib.cell_of_heap v0]; rfl
  have q3 : G.cell? ⟨w.heap.size, 3, none⟩ = some (.int .u64 0) := by rw [Lib.cell_of_heap v0]; rfl
  have q4 : G.cell? ⟨w.heap.size, 4, none⟩ = some (.slice (some ⟨w2.heap.size, 0, none⟩) 1 1) := by rw [Lib.cell_of_heap v0]; rfl
  have k1 := kid_stands (hi := w2.heap.size) (by have := HN1.out; rw [HS0.out] at this; exact this) (Nat.lt_succ_self _) u3 (by rw [u2]; exact Nat.le_refl _) v3
  have hnode := RowNodes.node (k := 46) (t := ⟨#[]⟩) (m := ⟨#[]⟩) (u := 0) (one_row (lo := w.heap.size + 1) (t1 := t1) (a1 := a1) (c1 := c1) v1 HLE.out k1) rfl (by show 1 ≤ maxLen; decide) (by omega) (by decide) (by decide) (by omega)
  refine bodyPost_ret (v := .agg #[.int .i64 46, .string ⟨#[]⟩, .string ⟨#[]⟩, .int .u64 0, .slice (some ⟨w2.heap.size, 0, none⟩) 1 1]) (by simp [results, Tryz.results54, go_sem, q0, q1, q2, q3, q4]) rfl ⟨some ⟨w2.heap.size, 0, none⟩, 1, rfl, hnode.mono fun b hb => ⟨by omega, hb.2⟩, v2⟩


set_option maxHeartbeats 8000000 in
set_option maxRecDepth 100000 in
theorem typeNodeDictType_gives (r : Nat) (x1 : Value) (x2 : Value) (t1 t2 : Tr) (w : World) (h : w.heap[r]? = some (.cells #[.pointer none, .slice none 0 0, .slice none 0 0, x1, x2] 47 (0, 0)))
    (hx : ∀ W, Below w.heap.size w W → Calls Tryz.prog 40 #[x1] W (Gives t1 W)) (hy : ∀ W, Below w.heap.size w W → Calls Tryz.prog 40 #[x2] W (Gives t2 W)) :
    Calls Tryz.prog 54 #[.iface 38 (.pointer (some ⟨r, 0, none⟩))] w (Gives (.mk 48 ⟨#[]⟩ ⟨#[]⟩ 0 [t1, t2]) w) := by
  have q0 : ∀ W, (Instr.typeAssert (.iface 38 (.pointer (some ⟨r, 0, none⟩))) 83 73 true).run Tryz.prog W = .ok (.tuple #[.pointer none, .bool false]) W := run_assert_other _ _ _ _ _ _ Tryz.underlying73 (by decide) (by kernel_rfl)
  have q1 : ∀ W, (Instr.typeAssert (.iface 38 (.pointer (some ⟨r, 0, none⟩))) 83 303 true).run Tryz.prog W = .ok (.tuple #[.pointer none, .bool false]) W := run_assert_other _ _ _ _ _ _ Tryz.underlying303 (by decide) (by kernel_rfl)
  have q2 : ∀ W, (Instr.typeAssert (.iface 38 (.pointer (some ⟨r, 0, none⟩))) 83 306 true).run Tryz.prog W = .ok (.tuple #[.pointer none, .bool false]) W := run_assert_other _ _ _ _ _ _ Tryz.underlying306 (by decide) (by kernel_rfl)
  have q3 : ∀ W, (Instr.typeAssert (.iface 38 (.pointer (some ⟨r, 0, none⟩))) 83 308 true).run Tryz.prog W = .ok (.tuple #[.pointer none, .bool false]) W := run_assert_other _ _ _ _ _ _ Tryz.underlying308 (by decide) (by kernel_rfl)
  have q4 : ∀ W, (Instr.typeAssert (.iface 38 (.pointer (some ⟨r, 0, none⟩))) 83 38 true).run Tryz.prog W = .ok (.tuple #[.pointer (some ⟨r, 0, none⟩), .bool true]) W := run_assert_same _ _ _ _ Tryz.underlying38
  have hb0 := (Below.refl w.heap.size w).alloc (Nat.le_refl _) (.cells #[.int .i64 0, .string ⟨#[]⟩, .string ⟨#[]⟩, .int .u64 0, .slice none 0 0] 25)
  have hr : r < w.heap.size := (Array.getElem?_eq_some_iff.1 h).1
  have hr0 := heap_alloc_new w (.cells #[.int .i64 0, .string ⟨#[]⟩, .string ⟨#[]⟩, .int .u64 0, .slice none 0 0] 25)
  have hs0 : (w.alloc (.cells #[.int .i64 0, .string ⟨#[]⟩, .string ⟨#[]⟩, .int .u64 0, .slice none 0 0] 25)).heap.size = w.heap.size + 1 := alloc_size _ _
  obtain ⟨w0, hw0⟩ : ∃ w0, w0 = w.alloc (.cells #[.int .i64 0, .string ⟨#[]⟩, .string ⟨#[]⟩, .int .u64 0, .slice none 0 0] 25) := ⟨_, rfl⟩
  rw [← hw0] at hb0 hr0 hs0
  have HO := Lib.hid (hx _ hb0.drew)
  have HB0 := Lib.hid hb0
  have HR0 := Lib.hid hr0
  have HS0 := Lib.hid hs0
  have h0 := (hb0.block r hr).trans h
  have H0 := Lib.hid h0
  have HW0 := Lib.hid hw0
  have HSW : Hid (∀ w', Below w.heap.size w w' → w'.cell? ⟨r, 3, none⟩ = some (x1) ∧ w'.cell? ⟨r, 4, none⟩ = some (x2)) := Lib.hid fun w' hb => by
    have hc : ∀ i, w'.cell? ⟨r, i, none⟩ = w.cell? ⟨r, i, none⟩ := fun i => hb.cell (p := ⟨r, i, none⟩) hr
    exact ⟨(hc _).trans (by rw [Lib.cell_of_heap h]; rfl), (hc _).trans (by rw [Lib.cell_of_heap h]; rfl)⟩
  have HO1 : Hid (∀ w', Below w0.heap.size w0.drew w' → Calls Tryz.prog 40 #[x2] w' (Gives t2 w')) := Lib.hid fun w' hb => hy w' (hb0.drew.trans (hb.mono hb0.size))
  clear h hb0 hr0 hx hy hs0
  go_enter Tryz.func54, Tryz.ntmps54
  go_upto_region 16 with fail
  rw [← HW0.out]
  clear hw0 HW0
  have HS : Hid (∀ w', Below w0.heap.size w0.drew w' → w'.cell? ⟨r, 3, none⟩ = some (x1) ∧ w'.cell? ⟨r, 4, none⟩ = some (x2)) := Lib.hid fun w' hb => by
    have hc : ∀ i, w'.cell? ⟨r, i, none⟩ = w0.cell? ⟨r, i, none⟩ := fun i => hb.cell (p := ⟨r, i, none⟩) (Array.getElem?_eq_some_iff.1 H0.out).1
    exact ⟨(hc _).trans (by rw [Lib.cell_of_heap H0.out]; rfl), (hc _).trans (by rw [Lib.cell_of_heap H0.out]; rfl)⟩
  have HZ : Hid (∀ w2, Below w0.heap.size w0.drew w2 → w.heap.size < w2.heap.size ∧ w2.cell? ⟨w.heap.size, 0, none⟩ = some (.int .i64 0) ∧ w2.cell? ⟨w.heap.size, 1, none⟩ = some (.string ⟨#[]⟩) ∧ w2.cell? ⟨w.heap.size, 2, none⟩ = some (.string ⟨#[]⟩) ∧ w2.cell? ⟨w.heap.size, 3, none⟩ = some (.int .u64 0) ∧ w2.cell? ⟨w.heap.size, 4, none⟩ = some (.slice none 0 0) ∧
      w2.frozen? ⟨w.heap.size, 0, none⟩ = false ∧ w2.frozen? ⟨w.heap.size, 1, none⟩ = false ∧ w2.frozen? ⟨w.heap.size, 2, none⟩ = false ∧ w2.frozen? ⟨w.heap.size, 3, none⟩ = false ∧ w2.frozen? ⟨w.heap.size, 4, none⟩ = false) := Lib.hid fun w2 hb2 => by
    have hr2 : w2.heap[w.heap.size]? = some (.cells #[.int .i64 0, .string ⟨#[]⟩, .string ⟨#[]⟩, .int .u64 0, .slice none 0 0] 25 (0, 0)) := (hb2.block _ (Array.getElem?_eq_some_iff.1 HR0.out).1).trans HR0.out
    exact ⟨(Array.getElem?_eq_some_iff.1 hr2).1, by rw [Lib.cell_of_heap hr2]; rfl, by rw [Lib.cell_of_heap hr2]; rfl, by rw [Lib.cell_of_heap hr2]; rfl, by rw [Lib.cell_of_heap hr2]; rfl, by rw [Lib.cell_of_heap hr2]; rfl, Lib.frozen_of_heap hr2 0, Lib.frozen_of_heap hr2 1, Lib.frozen_of_heap hr2 2, Lib.frozen_of_heap hr2 3, Lib.frozen_of_heap hr2 4⟩
  go_region_held3 (fun w' => w'.cell? ⟨r, 3, none⟩ = some (x1) ∧ w'.cell? ⟨r, 4, none⟩ = some (x2)) (first | with_reducible exact HS.out _ (Below.refl _ _) | with_reducible exact HS.out _ hb1d | with_reducible exact HS.out _ hb2 | (with_reducible refine HSW.out _ ?_; repeat (first | with_reducible exact hb2w | with_reducible refine below_set ?_ _ _ | with_reducible refine below_more ?_ _)) | go_keep) (first
    | (go_at_call 40; ((with_reducible refine HO.out.mono ?_)); rintro e w1 ⟨a1, c1, rfl, hn1, hb1⟩; have hb1d : Below w0.heap.size w0.drew w1 := hb1)
    | (go_at_call 40; ((with_reducible refine (HO1.out _ hb1d).mono ?_)); rintro e w2 ⟨a2, c2, rfl, hn2, hb12⟩; have hb2 : Below w0.heap.size w0.drew w2 := hb1d.trans (hb12.mono hb1d.size); have hb2w : Below w.heap.size w w2 := HB0.out.drew.trans (hb2.mono HB0.out.size); obtain ⟨hlt2, z0, z1, z2, z3, z4, y0, y1, y2, y3, y4⟩ := HZ.out _ hb2)
    | fail "none")
  have HB2 := Lib.hid (HB0.out.drew.trans (hb2.mono HB0.out.size))
  have hr2 : w2.heap[w.heap.size]? = some (.cells #[.int .i64 0, .string ⟨#[]⟩, .string ⟨#[]⟩, .int .u64 0, .slice none 0 0] 25 (0, 0)) := (hb2.block _ (Array.getElem?_eq_some_iff.1 HR0.out).1).trans HR0.out
  have hlt2 := (Array.getElem?_eq_some_iff.1 hr2).1
  have HLE : Hid (w.heap.size + 1 ≤ w2.heap.size) := Lib.hid (by rw [← HS0.out]; exact hb2.size)
  have HN1 : Hid (NodeIn w2 (fun r => w.heap.size + 1 ≤ r ∧ r < w2.heap.size) t1 (nodeU t1.kind t1.text t1.more t1.num a1 t1.kids.length c1)) := Lib.hid (NodeIn.mono (B := fun r => w0.drew.heap.size ≤ r ∧ r < w1.heap.size) (fun b hb => ⟨by rw [← HS0.out]; exact hb.1, Nat.lt_of_lt_of_le hb.2 hb12.size⟩) (NodeIn.keep (w := w1) (fun b hb => hb12.block b hb.2) hn1))
  have HN2 : Hid (NodeIn w2 (fun r => w.heap.size + 1 ≤ r ∧ r < w2.heap.size) t2 (nodeU t2.kind t2.text t2.more t2.num a2 t2.kids.length c2)) := Lib.hid (NodeIn.mono (B := fun r => w1.heap.size ≤ r ∧ r < w2.heap.size) (fun b hb => ⟨by rw [← HS0.out]; exact Nat.le_trans hb1d.size hb.1, hb.2⟩) hn2)
  clear hb2 hb12 hb1 hn1 hn2 hb1d hb2w
  have z0 : w2.cell? ⟨w.heap.size, 0, none⟩ = some (.int .i64 0) := by rw [Lib.cell_of_heap hr2]; rfl
  have z1 : w2.cell? ⟨w.heap.size, 1, none⟩ = some (.string ⟨#[]⟩) := by rw [Lib.cell_of_heap hr2]; rfl
  have z2 : w2.cell? ⟨w.heap.size, 2, none⟩ = some (.string ⟨#[]⟩) := by rw [Lib.cell_of_heap hr2]; rfl
  have z3 : w2.cell? ⟨w.heap.size, 3, none⟩ = some (.int .u64 0) := by rw [Lib.cell_of_heap hr2]; rfl
  have z4 : w2.cell? ⟨w.heap.size, 4, none⟩ = some (.slice none 0 0) := by rw [Lib.cell_of_heap hr2]; rfl
  have y0 := Lib.frozen_of_heap hr2 0
  have y1 := Lib.frozen_of_heap hr2 1
  have y2 := Lib.frozen_of_heap hr2 2
  have y3 := Lib.frozen_of_heap hr2 3
  have y4 := Lib.frozen_of_heap hr2 4
  have HR2 := Lib.hid hr2
  clear hr2
  go_wp2
  have u0 := row_setG (row_setG (row_setG (row_setG (row_setG HR2.out 0 (.int .i64 48)) 1 (.string ⟨#[]⟩)) 2 (.string ⟨#[]⟩)) 3 (.int .u64 0)) 4 (.slice (some ⟨w2.heap.size, 0, none⟩) 2 2)
  have u1 := set_five_below HB2.out (.int .i64 48) (.string ⟨#[]⟩) (.string ⟨#[]⟩) (.int .u64 0) (.slice (some ⟨w2.heap.size, 0, none⟩) 2 2)
  have u2 : (((((w2.setCell ⟨w.heap.size, 0, none⟩ (.int .i64 48)).setCell ⟨w.heap.size, 1, none⟩ (.string ⟨#[]⟩)).setCell ⟨w.heap.size, 2, none⟩ (.string ⟨#[]⟩)).setCell ⟨w.heap.size, 3, none⟩ (.int .u64 0)).setCell ⟨w.heap.size, 4, none⟩ (.slice (some ⟨w2.heap.size, 0, none⟩) 2 2)).heap.size = w2.heap.size := by simp [World.setCell]
  have u3 := fun r (hr : r ≠ w.heap.size) => five_other (w2 := w2) hr (.int .i64 48) (.string ⟨#[]⟩) (.string ⟨#[]⟩) (.int .u64 0) (.slice (some ⟨w2.heap.size, 0, none⟩) 2 2)
  generalize (((((w2.setCell ⟨w.heap.size, 0, none⟩ (.int .i64 48)).setCell ⟨w.heap.size, 1, none⟩ (.string ⟨#[]⟩)).setCell ⟨w.heap.size, 2, none⟩ (.string ⟨#[]⟩)).setCell ⟨w.heap.size, 3, none⟩ (.int .u64 0)).setCell ⟨w.heap.size, 4, none⟩ (.slice (some ⟨w2.heap.size, 0, none⟩) 2 2)) = F at *
  have v0 := (Below.heap_alloc F (.cells #[.int .i64 t1.kind, .string t1.text, .string t1.more, .int .u64 t1.num, .slice a1 t1.kids.length c1, .int .i64 t2.kind, .string t2.text, .string t2.more, .int .u64 t2.num, .slice a2 t2.kids.length c2] 25) _ (Array.getElem?_eq_some_iff.1 u0).1).trans u0
  have v1 := heap_alloc_new F (.cells #[.int .i64 t1.kind, .string t1.text, .string t1.more, .int .u64 t1.num, .slice a1 t1.kids.length c1, .int .i64 t2.kind, .string t2.text, .string t2.more, .int .u64 t2.num, .slice a2 t2.kids.length c2] 25)
  have v2 := u1.alloc u1.size (.cells #[.int .i64 t1.kind, .string t1.text, .string t1.more, .int .u64 t1.num, .slice a1 t1.kids.length c1, .int .i64 t2.kind, .string t2.text, .string t2.more, .int .u64 t2.num, .slice a2 t2.kids.length c2] 25)
  have v3 := fun r (hr : r < F.heap.size) => Below.heap_alloc F (.cells #[.int .i64 t1.kind, .string t1.text, .string t1.more, .int .u64 t1.num, .slice a1 t1.kids.length c1, .int .i64 t2.kind, .string t2.text, .string t2.more, .int .u64 t2.num, .slice a2 t2.kids.length c2] 25) r hr
  rw [u2] at v1
  generalize F.alloc (.cells #[.int .i64 t1.kind, .string t1.text, .string t1.more, .int .u64 t1.num, .slice a1 t1.kids.length c1, .int .i64 t2.kind, .string t2.text, .string t2.more, .int .u64 t2.num, .slice a2 t2.kids.length c2] 25) = G at *
  have q0 : G.cell? ⟨w.heap.size, 0, none⟩ = some (.int .i64 48) := by rw [Lib.cell_of_heap v0]; rfl
  have q1 : G.cell? ⟨w.heap.size, 1, none⟩ = some (.string ⟨#[]⟩) := by rw [Lib.cell_of_heap v0]; rfl
  have q2 : G.cell? ⟨w.heap.size, 2, none⟩ = some (.string ⟨#[]⟩) := by rw [Lib.cell_of_heap v0]; rfl
  have q3 : G.cell? ⟨w.heap.size, 3, none⟩ = some (.int .u64 0) := by rw [Lib.cell_of_heap v0]; rfl
  have q4 : G.cell? ⟨w.heap.size, 4, none⟩ = some (.slice (some ⟨w2.heap.size, 0, none⟩) 2 2) := by rw [Lib.cell_of_heap v0]; rfl
  have k1 := kid_stands (hi := w2.heap.size) HN1.out (Nat.lt_succ_self _) u3 (by rw [u2]; exact Nat.le_refl _) v3
  have k2 := kid_stands (hi := w2.heap.size) HN2.out (Nat.lt_succ_self _) u3 (by rw [u2]; exact Nat.le_refl _) v3
  have hnode := RowNodes.node (k := 48) (t := ⟨#[]⟩) (m := ⟨#[]⟩) (u := 0) (two_row (lo := w.heap.size + 1) (t1 := t1) (t2 := t2) (a1 := a1) (c1 := c1) (a2 := a2) (c2 := c2) v1 HLE.out k1 k2) rfl (by show 2 ≤ maxLen; decide) (by omega) (by decide) (by decide) (by omega)
  refine bodyPost_ret (v := .agg #[.int .i64 48, .string ⟨#[]⟩, .string ⟨#[]⟩, .int .u64 0, .slice (some ⟨w2.heap.size, 0, none⟩) 2 2]) (by simp [results, Tryz.results54, go_sem, q0, q1, q2, q3, q4]) rfl ⟨some ⟨w2.heap.size, 0, none⟩, 2, rfl, hnode.mono fun b hb => ⟨by omega, hb.2⟩, v2⟩


set_option maxHeartbeats 8000000 in
set_option maxRecDepth 100000 in
theorem typeNodePropertyType_gives (r : Nat) (x1 : Value) (x2 : Value) (t1 t2 : Tr) (w : World) (h : w.heap[r]? = some (.cells #[.pointer none, .slice none 0 0, .slice none 0 0, x1, x2] 69 (0, 0)))
    (hx : ∀ W, Below w.heap.size w W → Calls Tryz.prog 38 #[x1] W (Gives t1 W)) (hy : ∀ W, Below w.heap.size w W → Calls Tryz.prog 40 #[x2] W (Gives t2 W)) :
    Calls Tryz.prog 54 #[.iface 67 (.pointer (some ⟨r, 0, none⟩))] w (Gives (.mk 50 ⟨#[]⟩ ⟨#[]⟩ 0 [t1, t2]) w) := by
  have q0 : ∀ W, (Instr.typeAssert (.iface 67 (.pointer (some ⟨r, 0, none⟩))) 83 73 true).run Tryz.prog W = .ok (.tuple #[.pointer none, .bool false]) W := run_assert_other _ _ _ _ _ _ Tryz.underlying73 (by decide) (by kernel_rfl)
  have q1 : ∀ W, (Instr.typeAssert (.iface 67 (.pointer (some ⟨r, 0, none⟩))) 83 303 true).run Tryz.prog W = .ok (.tuple #[.pointer none, .bool false]) W := run_assert_other _ _ _ _ _ _ Tryz.underlying303 (by decide) (by kernel_rfl)
  have q2 : ∀ W, (Instr.typeAssert (.iface 67 (.pointer (some ⟨r, 0, none⟩))) 83 306 true).run Tryz.prog W = .ok (.tuple #[.pointer none, .bool false]) W := run_assert_other _ _ _ _ _ _ Tryz.underlying306 (by decide) (by kernel_rfl)
  have q3 : ∀ W, (Instr.typeAssert (.iface 67 (.pointer (some ⟨r, 0, none⟩))) 83 308 true).run Tryz.prog W = .ok (.tuple #[.pointer none, .bool false]) W := run_assert_other _ _ _ _ _ _ Tryz.underlying308 (by decide) (by kernel_rfl)
  have q4 : ∀ W, (Instr.typeAssert (.iface 67 (.pointer (some ⟨r, 0, none⟩))) 83 38 true).run Tryz.prog W = .ok (.tuple #[.pointer none, .bool false]) W := run_assert_other _ _ _ _ _ _ Tryz.underlying38 (by decide) (by kernel_rfl)
  have q5 : ∀ W, (Instr.typeAssert (.iface 67 (.pointer (some ⟨r, 0, none⟩))) 83 311 true).run Tryz.prog W = .ok (.tuple #[.pointer none, .bool false]) W := run_assert_other _ _ _ _ _ _ Tryz.underlying311 (by decide) (by kernel_rfl)
  have q6 : ∀ W, (Instr.typeAssert (.iface 67 (.pointer (some ⟨r, 0, none⟩))) 83 67 true).run Tryz.prog W = .ok (.tuple #[.pointer (some ⟨r, 0, none⟩), .bool true]) W := run_assert_same _ _ _ _ Tryz.underlying67
  have hb0 := (Below.refl w.heap.size w).alloc (Nat.le_refl _) (.cells #[.int .i64 0, .string ⟨#[]⟩, .string ⟨#[]⟩, .int .u64 0, .slice none 0 0] 25)
  have hr : r < w.heap.size := (Array.getElem?_eq_some_iff.1 h).1
  have hr0 := heap_alloc_new w (.cells #[.int .i64 0, .string ⟨#[]⟩, .string ⟨#[]⟩, .int .u64 0, .slice none 0 0] 25)
  have hs0 : (w.alloc (.cells #[.int .i64 0, .string ⟨#[]⟩, .string ⟨#[]⟩, .int .u64 0, .slice none 0 0] 25)).heap.size = w.heap.size + 1 := alloc_size _ _
  obtain ⟨w0, hw0⟩ : ∃ w0, w0 = w.alloc (.cells #[.int .i64 0, .string ⟨#[]⟩, .string ⟨#[]⟩, .int .u64 0, .slice none 0 0] 25) := ⟨_, rfl⟩
  rw [← hw0] at hb0 hr0 hs0
  have HO := Lib.hid (hx _ hb0.drew)
  have HB0 := Lib.hid hb0
  have HR0 := Lib.hid hr0
  have HS0 := Lib.hid hs0
  have h0 := (hb0.block r hr).trans h
  have H0 := Lib.hid h0
  have HW0 := Lib.hid hw0
  have HSW : Hid (∀ w', Below w.heap.size w w' → w'.cell? ⟨r, 3, none⟩ = some (x1) ∧ w'.cell? ⟨r, 4, none⟩ = some (x2)) := Lib.hid fun w' hb => by
    have hc : ∀ i, w'.cell? ⟨r, i, none⟩ = w.cell? ⟨r, i, none⟩ := fun i => hb.cell (p := ⟨r, i, none⟩) hr
    exact ⟨(hc _).trans (by rw [Lib.cell_of_heap h]; rfl), (hc _).trans (by rw [Lib.cell_of_heap h]; rfl)⟩
  have HO1 : Hid (∀ w', Below w0.heap.size w0.drew w' → Calls Tryz.prog 40 #[x2] w' (Gives t2 w')) := Lib.hid fun w' hb => hy w' (hb0.drew.trans (hb.mono hb0.size))
  clear h hb0 hr0 hx hy hs0
  go_enter Tryz.func54, Tryz.ntmps54
  go_upto_region 22 with fail
  rw [← HW0.out]
  clear hw0 HW0
  have HS : Hid (∀ w', Below w0.heap.size w0.drew w' → w'.cell? ⟨r, 3, none⟩ = some (x1) ∧ w'.cell? ⟨r, 4, none⟩ = some (x2)) := Lib.hid fun w' hb => by
    have hc : ∀ i, w'.cell? ⟨r, i, none⟩ = w0.cell? ⟨r, i, none⟩ := fun i => hb.cell (p := ⟨r, i, none⟩) (Array.getElem?_eq_some_iff.1 H0.out).1
    exact ⟨(hc _).trans (by rw [Lib.cell_of_heap H0.out]; rfl), (hc _).trans (by rw [Lib.cell_of_heap H0.out]; rfl)⟩
  have HZ : Hid (∀ w2, Below w0.heap.size w0.drew w2 → w.heap.size < w2.heap.size ∧ w2.cell? ⟨w.heap.size, 0, none⟩ = some (.int .i64 0) ∧ w2.cell? ⟨w.heap.size, 1, none⟩ = some (.string ⟨#[]⟩) ∧ w2.cell? ⟨w.heap.size, 2, none⟩ = some (.string ⟨#[]⟩) ∧ w2.cell? ⟨w.heap.size, 3, none⟩ = some (.int .u64 0) ∧ w2.cell? ⟨w.heap.size, 4, none⟩ = some (.slice none 0 0) ∧
      w2.frozen? ⟨w.heap.size, 0, none⟩ = false ∧ w2.frozen? ⟨w.heap.size, 1, none⟩ = false ∧ w2.frozen? ⟨w.heap.size, 2, none⟩ = false ∧ w2.frozen? ⟨w.heap.size, 3, none⟩ = false ∧ w2.frozen? ⟨w.heap.size, 4, none⟩ = false) := Lib.hid fun w2 hb2 => by
    have hr2 : w2.heap[w.heap.size]? = some (.cells #[.int .i64 0, .string ⟨#[]⟩, .string ⟨#[]⟩, .int .u64 0, .slice none 0 0] 25 (0, 0)) := (hb2.block _ (Array.getElem?_eq_some_iff.1 HR0.out).1).trans HR0.out
    exact ⟨(Array.getElem?_eq_some_iff.1 hr2).1, by rw [Lib.cell_of_heap hr2]; rfl, by rw [Lib.cell_of_heap hr2]; rfl, by rw [Lib.cell_of_heap hr2]; rfl, by rw [Lib.cell_of_heap hr2]; rfl, by rw [Lib.cell_of_heap hr2]; rfl, Lib.frozen_of_heap hr2 0, Lib.frozen_of_heap hr2 1, Lib.frozen_of_heap hr2 2, Lib.frozen_of_heap hr2 3, Lib.frozen_of_heap hr2 4⟩
  go_region_held3 (fun w' => w'.cell? ⟨r, 3, none⟩ = some (x1) ∧ w'.cell? ⟨r, 4, none⟩ = some (x2)) (first | with_reducible exact HS.out _ (Below.refl _ _) | with_reducible exact HS.out _ hb1d | with_reducible exact HS.out _ hb2 | (with_reducible refine HSW.out _ ?_; repeat (first | with_reducible exact hb2w | with_reducible refine below_set ?_ _ _ | with_reducible refine below_more ?_ _)) | go_keep) (first
    | (go_at_call 38; ((with_reducible refine HO.out.mono ?_)); rintro e w1 ⟨a1, c1, rfl, hn1, hb1⟩; have hb1d : Below w0.heap.size w0.drew w1 := hb1)
    | (go_at_call 40; ((with_reducible refine (HO1.out _ hb1d).mono ?_)); rintro e w2 ⟨a2, c2, rfl, hn2, hb12⟩; have hb2 : Below w0.heap.size w0.drew w2 := hb1d.trans (hb12.mono hb1d.size); have hb2w : Below w.heap.size w w2 := HB0.out.drew.trans (hb2.mono HB0.out.size); obtain ⟨hlt2, z0, z1, z2, z3, z4, y0, y1, y2, y3, y4⟩ := HZ.out _ hb2)
    | fail "none")
  have HB2 := Lib.hid (HB0.out.drew.trans (hb2.mono HB0.out.size))
  have hr2 : w2.heap[w.heap.size]? = some (.cells #[.int .i64 0, .string ⟨#[]⟩, .string ⟨#[]⟩, .int .u64 0, .slice none 0 0] 25 (0, 0)) := (hb2.block _ (Array.getElem?_eq_some_iff.1 HR0.out).1).trans HR0.out
  have hlt2 := (Array.getElem?_eq_some_iff.1 hr2).1
  have HLE : Hid (w.heap.size + 1 ≤ w2.heap.size) := Lib.hid (by rw [← HS0.out]; exact hb2.size)
  have HN1 : Hid (NodeIn w2 (fun r => w.heap.size + 1 ≤ r ∧ r < w2.heap.size) t1 (nodeU t1.kind t1.text t1.more t1.num a1 t1.kids.length c1)) := Lib.hid (NodeIn.mono (B := fun r => w0.drew.heap.size ≤ r ∧ r < w1.heap.size) (fun b hb => ⟨by rw [← HS0.out]; exact hb.1, Nat.lt_of_lt_of_le hb.2 hb12.size⟩) (NodeIn.keep (w := w1) (fun b hb => hb12.block b hb.2) hn1))
  have HN2 : Hid (NodeIn w2 (fun r => w.heap.size + 1 ≤ r ∧ r < w2.heap.size) t2 (nodeU t2.kind t2.text t2.more t2.num a2 t2.kids.length c2)) := Lib.hid (NodeIn.mono (B := fun r => w1.heap.size ≤ r ∧ r < w2.heap.size) (fun b hb => ⟨by rw [← HS0.out]; exact Nat.le_trans hb1d.size hb.1, hb.2⟩) hn2)
  clear hb2 hb12 hb1 hn1 hn2 hb1d hb2w
  have z0 : w2.cell? ⟨w.heap.size, 0, none⟩ = some (.int .i64 0) := by rw [Lib.cell_of_heap hr2]; rfl
  have z1 : w2.cell? ⟨w.heap.size, 1, none⟩ = some (.string ⟨#[]⟩) := by rw [Lib.cell_of_heap hr2]; rfl
  have z2 : w2.cell? ⟨w.heap.size, 2, none⟩ = some (.string ⟨#[]⟩) := by rw [Lib.cell_of_heap hr2]; rfl
  have z3 : w2.cell? ⟨w.heap.size, 3, none⟩ = some (.int .u64 0) := by rw [Lib.cell_of_heap hr2]; rfl
  have z4 : w2.cell? ⟨w.heap.size, 4, none⟩ = some (.slice none 0 0) := by rw [Lib.cell_of_heap hr2]; rfl
  have y0 := Lib.frozen_of_heap hr2 0
  have y1 := Lib.frozen_of_heap hr2 1
  have y2 := Lib.frozen_of_heap hr2 2
  have y3 := Lib.frozen_of_heap hr2 3
  have y4 := Lib.frozen_of_heap hr2 4
  have HR2 := Lib.hid hr2
  clear hr2
  go_wp2
  have u0 := row_setG (row_setG (row_setG (row_setG (row_setG HR2.out 0 (.int .i64 50)) 1 (.string ⟨#[]⟩)) 2 (.string ⟨#[]⟩)) 3 (.int .u64 0)) 4 (.slice (some ⟨w2.heap.size, 0, none⟩) 2 2)
  have u1 := set_five_below HB2.out (.int .i64 50) (.string ⟨#[]⟩) (.string ⟨#[]⟩) (.int .u64 0) (.slice (some ⟨w2.heap.size, 0, none⟩) 2 2)
  have u2 : (((((w2.setCell ⟨w.heap.size, 0, none⟩ (.int .i64 50)).setCell ⟨w.heap.size, 1, none⟩ (.string ⟨#[]⟩)).setCell ⟨w.heap.size, 2, none⟩ (.string ⟨#[]⟩)).setCell ⟨w.heap.size, 3, none⟩ (.int .u64 0)).setCell ⟨w.heap.size, 4, none⟩ (.slice (some ⟨w2.heap.size, 0, none⟩) 2 2)).heap.size = w2.heap.size := by simp [World.setCell]
  have u3 := fun r (hr : r ≠ w.heap.size) => five_other (w2 := w2) hr (.int .i64 50) (.string ⟨#[]⟩) (.string ⟨#[]⟩) (.int .u64 0) (.slice (some ⟨w2.heap.size, 0, none⟩) 2 2)
  generalize (((((w2.setCell ⟨w.heap.size, 0, none⟩ (.int .i64 50)).setCell ⟨w.heap.size, 1, none⟩ (.string ⟨#[]⟩)).setCell ⟨w.heap.size, 2, none⟩ (.string ⟨#[]⟩)).setCell ⟨w.heap.size, 3, none⟩ (.int .u64 0)).setCell ⟨w.heap.size, 4, none⟩ (.slice (some ⟨w2.heap.size, 0, none⟩) 2 2)) = F at *
  have v0 := (Below.heap_alloc F (.cells #[.int .i64 t1.kind, .string t1.text, .string t1.more, .int .u64 t1.num, .slice a1 t1.kids.length c1, .int .i64 t2.kind, .string t2.text, .string t2.more, .int .u64 t2.num, .slice a2 t2.kids.length c2] 25) _ (Array.getElem?_eq_some_iff.1 u0).1).trans u0
  have v1 := heap_alloc_new F (.cells #[.int .i64 t1.kind, .string t1.text, .string t1.more, .int .u64 t1.num, .slice a1 t1.kids.length c1, .int .i64 t2.kind, .string t2.text, .string t2.more, .int .u64 t2.num, .slice a2 t2.kids.length c2] 25)
  have v2 := u1.alloc u1.size (.cells #[.int .i64 t1.kind, .string t1.text, .string t1.more, .int .u64 t1.num, .slice a1 t1.kids.length c1, .int .i64 t2.kind, .string t2.text, .string t2.more, .int .u64 t2.num, .slice a2 t2.kids.length c2] 25)
  have v3 := fun r (hr : r < F.heap.size) => Below.heap_alloc F (.cells #[.int .i64 t1.kind, .string t1.text, .string t1.more, .int .u64 t1.num, .slice a1 t1.kids.length c1, .int .i64 t2.kind, .string t2.text, .string t2.more, .int .u64 t2.num, .slice a2 t2.kids.length c2] 25) r hr
  rw [u2] at v1
  generalize F.alloc (.cells #[.int .i64 t1.kind, .string t1.text, .string t1.more, .int .u64 t1.num, .slice a1 t1.kids.length c1, .int .i64 t2.kind, .string t2.text, .string t2.more, .int .u64 t2.num, .slice a2 t2.kids.length c2] 25) = G at *
  have q0 : G.cell? ⟨w.heap.size, 0, none⟩ = some (.int .i64 50) := by rw [Lib.cell_of_heap v0]; rfl
  have q1 : G.cell? ⟨w.heap.size, 1, none⟩ = some (.string ⟨#[]⟩) := by rw [Lib.cell_of_heap v0]; rfl
  have q2 : G.cell? ⟨w.heap.size, 2, none⟩ = some (.string ⟨#[]⟩) := by rw [Lib.cell_of_heap v0]; rfl
  have q3 : G.cell? ⟨w.heap.size, 3, none⟩ = some (.int .u64 0) := by rw [Lib.cell_of_heap v0]; rfl
  have q4 : G.cell? ⟨w.heap.size, 4, none⟩ = some (.slice (some ⟨w2.heap.size, 0, none⟩) 2 2) := by rw [Lib.cell_of_heap v0]; rfl
  have k1 := kid_stands (hi := w2.heap.size) HN1.out (Nat.lt_succ_self _) u3 (by rw [u2]; exact Nat.le_refl _) v3
  have k2 := kid_stands (hi := w2.heap.size) HN2.out (Nat.lt_succ_self _) u3 (by rw [u2]; exact Nat.le_refl _) v3
  have hnode := RowNodes.node (k := 50) (t := ⟨#[]⟩) (m := ⟨#[]⟩) (u := 0) (two_row (lo := w.heap.size + 1) (t1 := t1) (t2 := t2) (a1 := a1) (c1 := c1) (a2 := a2) (c2 := c2) v1 HLE.out k1 k2) rfl (by show 2 ≤ maxLen; decide) (by omega) (by decide) (by decide) (by omega)
  refine bodyPost_ret (v := .agg #[.int .i64 50, .string ⟨#[]⟩, .string ⟨#[]⟩, .int .u64 0, .slice (some ⟨w2.heap.size, 0, none⟩) 2 2]) (by simp [results, Tryz.results54, go_sem, q0, q1, q2, q3, q4]) rfl ⟨some ⟨w2.heap.size, 0, none⟩, 2, rfl, hnode.mono fun b hb => ⟨by omega, hb.2⟩, v2⟩


end Go.Proofs.YtgceklahjdbipaaGreatDoor
