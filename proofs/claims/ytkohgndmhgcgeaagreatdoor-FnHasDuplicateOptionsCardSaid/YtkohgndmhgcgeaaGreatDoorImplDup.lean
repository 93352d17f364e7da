/- impl.HasDuplicateOptions. -/
import Derived.Test.YtkohgndmhgcgeaaGreatDoorDup
import Derived.Test.YtkohgndmhgcgeaaGreatDoorUnAny
import Derived.Defers
import Derived.Recover
namespace Go.Proofs.YtkohgndmhgcgeaaGreatDoor
open Go Go.RowKit
set_option linter.unusedVariables false
set_option linter.unusedSimpArgs false

theorem dup_idle (p q : Option Addr) (w : World) :
    CallsD Tryz.prog 12 #[.pointer p, .pointer q] .returning w fun e u' w' => e = .returned (.tuple #[]) ∧ u' = .returning ∧ w' = w := by
  refine callsD_of_wpS Tryz.func12 rfl fun c₀ cs hu => ?_
  apply wpS_seq
  apply wpS_region
  simp [wpOpsS, go_sem, recoverD, hu, Tryz.ntmps12, Exit.thenS]
  refine wpS_cond (t := false) (by simp [Act.eval, Array.replicate]) ?_
  simp only [Bool.false_eq_true, if_false]
  refine wpS_of_wp (wp_skip ?_)
  cases c₀
  simp_all [bodyPostS, results, Tryz.results12]

theorem AstT.file {x : Tr} (h : AstT x) (hk : x.kind = 3) : ∃ t m a0 l1 l2, x = .mk 3 t m 0 [a0, .mk 1 ⟨#[]⟩ ⟨#[]⟩ 0 l1, .mk 1 ⟨#[]⟩ ⟨#[]⟩ 0 l2] ∧ (∀ y ∈ l2, AstT y) ∧ (∀ y ∈ l2, stmtB y.kind ∧ y.kind ≠ 13) := by
  cases h with
  | k3 t ht m hm a0 h0 o0 c0 l1 h1 c1 l2 h2 c2 => exact ⟨t, m, a0, l1, l2, rfl, h2, c2⟩
  | _ => exact absurd hk (by simp [Tr.kind])

set_option maxHeartbeats 8000000 in
set_option maxRecDepth 100000 in
theorem implDup_any {N : Nat} {t m name : ByteArray} {a0 : Tr} {l1 l2 : List Tr} (h : AstT (.mk 3 t m 0 [a0, .mk 1 ⟨#[]⟩ ⟨#[]⟩ 0 l1, .mk 1 ⟨#[]⟩ ⟨#[]⟩ 0 l2])) (hc : (Tr.mk 3 t m 0 [a0, .mk 1 ⟨#[]⟩ ⟨#[]⟩ 0 l1, .mk 1 ⟨#[]⟩ ⟨#[]⟩ 0 l2]).count ≤ 400) (v : Value) (w : World) (hv : NodeIn w (· < N) (.mk 3 t m 0 [a0, .mk 1 ⟨#[]⟩ ⟨#[]⟩ 0 l1, .mk 1 ⟨#[]⟩ ⟨#[]⟩ 0 l2]) v) (hN : N ≤ w.heap.size) :
    Calls Tryz.prog 6 #[v, .string name] w fun e w' => e = .returned (.tuple #[.bool (decide (1 < hits name l2)), .bool true]) ∧ Below w.heap.size w w' := by
  have HNO : Hid (∀ W, Below w.heap.size w W → Calls Tryz.prog 14 #[v] W (PtrP (.mk 3 t m 0 [a0, .mk 1 ⟨#[]⟩ ⟨#[]⟩ 0 l1, .mk 1 ⟨#[]⟩ ⟨#[]⟩ 0 l2]) W)) := Lib.hid fun W hb => nodeOf_File (unnode_any h hc) rfl v W (hv.keep (Keep.of_below hb hN)) (Nat.le_trans hN hb.size)
  have hlen : l2.length ≤ 1000 := by
    simp only [Tr.count_mk, List.map_cons, List.map_nil, List.sum_cons, List.sum_nil] at hc
    have := cnt_len l2
    omega
  have HED : Hid (∀ r (B : Nat → Prop) W, AIn W B (.mk 3 t m 0 [a0, .mk 1 ⟨#[]⟩ ⟨#[]⟩ 0 l1, .mk 1 ⟨#[]⟩ ⟨#[]⟩ 0 l2]) r → (∀ b, B b → b < W.heap.size) → Calls Tryz.prog 13 #[pp r, .string name] W fun e w' => e = .returned (.bool (decide (1 < hits name l2))) ∧ Below W.heap.size W w') := Lib.hid fun r B W h1 h2 => by
    obtain ⟨t', m', a0', l1', l2', he, k1, k2⟩ := h.file rfl
    injection he with e1 e2 e3 e4 e5
    injection e5 with e6 e7
    injection e7 with e8 e9
    injection e9 with e10 e11
    injection e8 with f1 f2 f3 f4 f5
    injection e10 with g1 g2 g3 g4 g5
    subst g5
    exact editDup_any h1 h2 k1 k2 hlen
  have hmf : ∀ (fn : Fn) (first cap : Array Value) (w : World), (Instr.makeFunc fn first cap).run Tryz.prog w = .ok (.func fn first cap) w := fun _ _ _ _ => rfl
  obtain ⟨k', t', m', n', ks', ad, c, he, rfl⟩ := hv.form
  injection he with e1 e2 e3 e4 e5
  subst e1 e2 e3 e4 e5
  obtain ⟨w3, hw3⟩ : ∃ w3, w3 = (((w.alloc (.cells #[.int .i64 3, .string t, .string m, .int .u64 0, .slice ad 3 c] 25)).alloc (.cells #[.bool false] 4)).alloc (.cells #[.bool false] 4)) := ⟨_, rfl⟩
  have hb3 : Below w.heap.size w w3 := by
    rw [hw3]
    have h1 := (Below.refl w.heap.size w).alloc (Nat.le_refl _) (.cells #[.int .i64 3, .string t, .string m, .int .u64 0, .slice ad 3 c] 25)
    have h2 := h1.alloc h1.size (.cells #[.bool false] 4)
    exact h2.alloc h2.size (.cells #[.bool false] 4)
  have hx1 : w3.heap[w.heap.size + 1]? = some (.cells #[.bool false] 4 (0, 0)) := by
    have := heap_alloc_new (w.alloc (.cells #[.int .i64 3, .string t, .string m, .int .u64 0, .slice ad 3 c] 25)) (.cells #[.bool false] 4)
    rw [alloc_size] at this
    rw [hw3, Below.heap_alloc _ _ _ (by rw [alloc_size, alloc_size]; omega)]
    exact this
  have hx2 : w3.heap[w.heap.size + 1 + 1]? = some (.cells #[.bool false] 4 (0, 0)) := by
    have := heap_alloc_new ((w.alloc (.cells #[.int .i64 3, .string t, .string m, .int .u64 0, .slice ad 3 c] 25)).alloc (.cells #[.bool false] 4)) (.cells #[.bool false] 4)
    rw [alloc_size, alloc_size] at this
    rw [hw3]
    exact this
  have HB3 := Lib.hid hb3
  have HX1 := Lib.hid hx1
  have HX2 := Lib.hid hx2
  have HW3 := Lib.hid hw3
  unfold nodeU at HNO ⊢
  have HN2 : Hid (∀ W, Below w.heap.size w W → Calls Tryz.prog 14 #[.agg #[.int .i64 3, .string t, .string m, .int .u64 0, .slice ad 3 c]] W (PtrP (.mk 3 t m 0 [a0, .mk 1 ⟨#[]⟩ ⟨#[]⟩ 0 l1, .mk 1 ⟨#[]⟩ ⟨#[]⟩ 0 l2]) W)) := HNO
  clear hv h hc hlen hb3 hx1 hx2 hw3 HNO
  generalize hits name l2 = nh at *
  go_enter_defers Tryz.func6, Tryz.ntmps6
  go_wp2_with fail
  rw [← HW3.out]
  clear HW3
  ((with_reducible refine (HN2.out _ HB3.out).mono ?_))
  rintro e w4 ⟨r, rfl, hr, hb4⟩
  have HE := Lib.hid (HED.out r _ _ hr fun b hb => hb.2)
  have HB4 := Lib.hid (HB3.out.trans (hb4.mono HB3.out.size))
  have HY1 := Lib.hid ((hb4.block _ (Array.getElem?_eq_some_iff.1 HX1.out).1).trans HX1.out)
  have HY2 := Lib.hid ((hb4.block _ (Array.getElem?_eq_some_iff.1 HX2.out).1).trans HX2.out)
  clear hb4 hr HX1 HX2
  go_wp2_with fail
  ((with_reducible refine HE.out.mono ?_))
  rintro e w5 ⟨rfl, hb5⟩
  have hy1 := (hb5.block _ (Array.getElem?_eq_some_iff.1 HY1.out).1).trans HY1.out
  have hy2 := (hb5.block _ (Array.getElem?_eq_some_iff.1 HY2.out).1).trans HY2.out
  have HB5 := Lib.hid (HB4.out.trans (hb5.mono HB4.out.size))
  have c1 : w5.cell? ⟨w.heap.size + 1, 0, none⟩ = some (.bool false) := by rw [Lib.cell_of_heap hy1]; rfl
  have c2 : w5.cell? ⟨w.heap.size + 1 + 1, 0, none⟩ = some (.bool false) := by rw [Lib.cell_of_heap hy2]; rfl
  have f1 := Lib.frozen_of_heap hy1 0
  have f2 := Lib.frozen_of_heap hy2 0
  have HZ1 := Lib.hid hy1
  have HZ2 := Lib.hid hy2
  clear hb5 hy1 hy2 HY1 HY2 HE
  obtain ⟨d, hd⟩ : ∃ d, d = decide (1 < nh) := ⟨_, rfl⟩
  rw [← hd]
  have HDD := Lib.hid hd
  clear hd
  go_wp2_with fail
  have u1 : ((w5.setCell ⟨w.heap.size + 1, 0, none⟩ (.bool d)).setCell ⟨w.heap.size + 1 + 1, 0, none⟩ (.bool true)).heap[w.heap.size + 1]? = some (.cells #[.bool d] 4 (0, 0)) := (Below.heap_setCell _ _ _ _ (by show w.heap.size + 1 ≠ w.heap.size + 1 + 1; omega)).trans (row_setG HZ1.out 0 (.bool d))
  have u2 : ((w5.setCell ⟨w.heap.size + 1, 0, none⟩ (.bool d)).setCell ⟨w.heap.size + 1 + 1, 0, none⟩ (.bool true)).heap[w.heap.size + 1 + 1]? = some (.cells #[.bool true] 4 (0, 0)) := row_setG (cur := #[.bool false]) ((Below.heap_setCell _ _ _ _ (by show w.heap.size + 1 + 1 ≠ w.heap.size + 1; omega)).trans HZ2.out) 0 (.bool true)
  have u3 := (HB5.out.setCell (p := ⟨w.heap.size + 1, 0, none⟩) (Nat.le_succ _) (.bool d)).setCell (p := ⟨w.heap.size + 1 + 1, 0, none⟩) (Nat.le_trans (Nat.le_succ _) (Nat.le_succ _)) (.bool true)
  generalize ((w5.setCell ⟨w.heap.size + 1, 0, none⟩ (.bool d)).setCell ⟨w.heap.size + 1 + 1, 0, none⟩ (.bool true)) = F at *
  refine leaves_cons (f := 12) (args := #[.pointer (some ⟨w.heap.size + 1, 0, none⟩), .pointer (some ⟨w.heap.size + 1 + 1, 0, none⟩)]) (by simp) (by simp [go_sem]) ?_
  refine (dup_idle (some ⟨w.heap.size + 1, 0, none⟩) (some ⟨w.heap.size + 1 + 1, 0, none⟩) F).mono ?_
  rintro e u' w'' ⟨rfl, rfl, rfl⟩
  have q1 : w''.cell? ⟨w.heap.size + 1, 0, none⟩ = some (.bool d) := by rw [Lib.cell_of_heap u1]; rfl
  have q2 : w''.cell? ⟨w.heap.size + 1 + 1, 0, none⟩ = some (.bool true) := by rw [Lib.cell_of_heap u2]; rfl
  have HU3 := Lib.hid u3
  clear u1 u2 u3 HB3 HB4 HB5 HZ1 HZ2
  simp [Leaves, settle, results, Tryz.results6, go_sem, q1, q2]
  exact ⟨HDD.out, HU3.out⟩

end Go.Proofs.YtkohgndmhgcgeaaGreatDoor
