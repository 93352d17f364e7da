/- spec.Same: a tree is the same as itself, wherever it lies. spec.Buffered and spec.PlainLiterals over trees of types and plain literals. -/
import Derived.Test.YtkohgndmhgcgeaaGreatDoorClass
import Derived.Test.YtkohgndmhgcgeaaGreatDoorFields
import Derived.Test.YtkohgndmhgcgeaaGreatDoorFits
namespace Go.Proofs.YtkohgndmhgcgeaaGreatDoor
open Go Go.RowKit
set_option linter.unusedVariables false
set_option linter.unusedSimpArgs false

theorem NodeIn.drew {w : World} {B : Nat → Prop} {t : Tr} {v : Value} (h : NodeIn w B t v) : NodeIn w.drew B t v := NodeIn.keep (w := w) (w' := w.drew) (B := B) (fun _ _ => rfl) h
theorem below_cell {w w' : World} (hb : Below w.heap.size w w') {a : Addr} {v : Value} (h : w.cell? a = some v) : w'.cell? a = some v := (hb.cell (p := a) (cell_lt h)).trans h

def SamePost (w : World) (e : Ending) (w' : World) : Prop := e = .returned (.bool true) ∧ Below w.heap.size w w'

/-- The kinds at which buffers or literals are asked more. -/
def askedKinds : List Int := [13, 15, 16, 27, 41, 42]

/-- Trees of other kinds alone. -/
inductive SimpleT : Tr → Prop
  | mk {k : Int} {t m : ByteArray} {n : Int} {ks : List Tr} (hk : k ∉ askedKinds) (h : ∀ x ∈ ks, SimpleT x) : SimpleT (.mk k t m n ks)

theorem SimpleT.kinds {k : Int} (h : k ∉ askedKinds) : (k == 13) = false ∧ (k == 15) = false ∧ (k == 16) = false ∧ (k == 27) = false ∧ (k == 41) = false ∧ (k == 42) = false := by
  simp only [askedKinds, List.mem_cons, List.mem_nil_iff, or_false, not_or] at h
  obtain ⟨h1, h2, h3, h4, h5, h6⟩ := h
  exact ⟨beq_eq_false_iff_ne.2 h1, beq_eq_false_iff_ne.2 h2, beq_eq_false_iff_ne.2 h3, beq_eq_false_iff_ne.2 h4, beq_eq_false_iff_ne.2 h5, beq_eq_false_iff_ne.2 h6⟩

set_option maxHeartbeats 4000000 in
set_option maxRecDepth 100000 in
theorem plain_simple (t : Tr) : ∀ (v : Value) (N : Nat) (w : World), SimpleT t → NodeIn w (· < N) t v → N ≤ w.heap.size →
    Calls Tryz.prog 18 #[v] w fun e w' => e = .returned (.bool true) ∧ Below w.heap.size w w' := by
  induction t using Tr.ind with
  | h k x m n ks ih =>
    intro v N w hs hv hN
    obtain ⟨k', x', m', n', ks', a1, c1, heq, rfl⟩ := hv.form
    cases heq
    obtain ⟨_, hl, _⟩ := hv.len
    have hks : ∀ y ∈ ks, SimpleT y := by cases hs with | mk hk h => exact h
    have hk0 : k ∉ askedKinds := by cases hs with | mk hk h => exact hk
    obtain ⟨k1, k2, k3, k4, k5, k6⟩ := SimpleT.kinds hk0
    have HK1 := Lib.hid hv.kidsAt
    have HI := Lib.hid ih
    have HS := Lib.hid hks
    have hb0 : Below w.heap.size w (w.alloc (.cells #[.int .i64 k, .string x, .string m, .int .u64 n, .slice a1 ks.length c1] 25)) := (Below.refl _ w).alloc (Nat.le_refl _) _
    have hx1 : BoxAt w.heap.size k x m n a1 ks.length c1 (w.alloc (.cells #[.int .i64 k, .string x, .string m, .int .u64 n, .slice a1 ks.length c1] 25)) := heap_alloc_new w _
    have HB0 := Lib.hid hb0
    have HX1 := Lib.hid hx1
    unfold nodeU
    clear hv ih hb0 hx1 hs hks hk0
    go_enter Tryz.func18, Tryz.ntmps18
    go_wp2
    go_loopw [21] (fun i wr => ∃ j : Nat, i = .int .i64 j ∧ j ≤ ks.length ∧ Hid (Below w.heap.size w wr)) (fun i _ => ks.length - (intOf i).toNat)
    case atStart => exact ⟨0, rfl, Nat.zero_le _, HB0⟩
    case round =>
      obtain ⟨j, rfl, hj, HB⟩ := hrel
      by_cases hlt : j < ks.length
      · obtain ⟨b1, o1, rfl, _, hkid1⟩ := HK1.out (by omega)
        obtain ⟨e1, g1, hin1, d0, d1, d2, d3, d4⟩ := hkid1 wr (Keep.of_below HB.out hN) j hlt
        have HQS := Lib.hid (HS.out ks[j] (List.getElem_mem hlt))
        have HIN := Lib.hid hin1
        have HIK := Lib.hid (HI.out ks[j] (List.getElem_mem hlt))
        clear hkid1 hin1
        generalize ks[j] = q at *
        have hi1 : (j : Int) < ks.length := by omega
        have hi0 : (0 : Int) ≤ j := by omega
        have hbq := (Below.refl wr.heap.size wr).alloc (Nat.le_refl _) (.cells #[.int .i64 q.kind, .string q.text, .string q.more, .int .u64 q.num, .slice e1 q.kids.length g1] 25)
        have hih := HIK.out _ N _ HQS.out (HIN.out.keep (Keep.of_below hbq (Nat.le_trans hN HB.out.size))) (Nat.le_trans (Nat.le_trans hN HB.out.size) hbq.size)
        unfold nodeU at hih
        have HIH := Lib.hid hih
        have HBQ := Lib.hid (HB.out.trans (hbq.mono HB.out.size))
        clear hih hbq
        go_wp2_with fail
        ((with_reducible refine HIH.out.mono ?_))
        rintro e w4 ⟨rfl, hb4⟩
        have HB4 := Lib.hid (HBQ.out.trans (hb4.mono HBQ.out.size))
        clear hb4 d0 d1 d2 d3 d4
        go_wp2
        go_roundw
        case rel => exact ⟨j + 1, by go_num, by omega, HB4⟩
        case measure => simp [intOf]; omega
      · go_wp2
        go_ret
        exact ⟨rfl, HB.out⟩

end Go.Proofs.YtkohgndmhgcgeaaGreatDoor
