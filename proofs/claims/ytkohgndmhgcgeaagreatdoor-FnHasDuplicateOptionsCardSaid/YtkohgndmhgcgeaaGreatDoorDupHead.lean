/- laws.FnHasDuplicateOptions. -/
import Derived.Test.YtkohgndmhgcgeaaGreatDoorImplDup
import Derived.Test.YtkohgndmhgcgeaaGreatDoorAFile
import Derived.Test.YtkohgndmhgcgeaaGreatDoorWalked
import Derived.Test.YtkohgndmhgcgeaaGreatDoorOpts
import Derived.Test.YtkohgndmhgcgeaaGreatDoorUtfTabs
import Derived.Deep.RegionHeld3
import Derived.Deep.AppendLies
import Derived.Deep.RegionLawGrows
import Derived.Deep.DeepCutAuto
import Derived.BigRegion
namespace Go.Proofs.YtkohgndmhgcgeaaGreatDoor
open Go Go.RowKit
set_option linter.unusedVariables false
set_option linter.unusedSimpArgs false

set_option maxHeartbeats 2000000 in
set_option maxRecDepth 100000 in
theorem zzFits1_any (k : Int) (t m : ByteArray) (n : Int) (a : Option Addr) (l c : Nat) (w : World) :
    Calls Tryz.prog 4 #[nodeU k t m n a l c] w (YesB True w) := by
  have HB : Hid (Below w.heap.size w (w.alloc (.cells #[.int .i64 k, .string t, .string m, .int .u64 n, .slice a l c] 25))) := Lib.hid ((Below.refl _ w).alloc (Nat.le_refl _) _)
  have HF : Hid (YesB True w (.returned (.bool false)) (w.alloc (.cells #[.int .i64 k, .string t, .string m, .int .u64 n, .slice a l c] 25))) := Lib.hid ⟨false, rfl, fun _ => trivial, HB.out⟩
  have HY : Hid (YesB True w (.returned (.bool true)) (w.alloc (.cells #[.int .i64 k, .string t, .string m, .int .u64 n, .slice a l c] 25))) := Lib.hid ⟨true, rfl, fun _ => trivial, HB.out⟩
  unfold nodeU
  go_enter Tryz.func4, Tryz.ntmps4
  go_wp2
  all_goals (go_ret; first | exact HF.out | exact HY.out)

/-- The file's option twice, in a row that has grown. -/
structure TwoIn (w : World) (g1 g2 g4 gn cn : Nat) : Prop where
  opt : OptIn w g1 g2
  row : CellsAt w gn 0 (optV g2) ∧ CellsAt w gn 5 (optV g2)
  cap : 2 ≤ cn
  h4 : w.heap[g4]? = some (.cells #[.int .i64 0, .string ⟨#[]⟩, .string ⟨#[]⟩, .int .u64 0, .slice none 0 0, .int .i64 1, .string ⟨#[]⟩, .string ⟨#[]⟩, .int .u64 0, .slice none 0 0, .int .i64 1, .string ⟨#[]⟩, .string ⟨#[]⟩, .int .u64 0, .slice (some ⟨gn, 0, none⟩) 2 cn] 25 (0, 0))

theorem TwoIn.file {w : World} {B : Nat → Prop} {g1 g2 g4 gn cn : Nat} (h : TwoIn w g1 g2 g4 gn cn) (b1 : B g1) (b2 : B g2) (b4 : B g4) (bn : B gn) : NodeIn w B (fileT [optT, optT]) (nodeU 3 ⟨#[]⟩ ⟨#[]⟩ 0 (some ⟨g4, 0, none⟩) 3 3) := by
  refine .over3 (by decide) (Nat.le_refl _) b4 (v := nodeU 0 ⟨#[]⟩ ⟨#[]⟩ 0 none 0 0) (u := nodeU 1 ⟨#[]⟩ ⟨#[]⟩ 0 none 0 0) (s := nodeU 1 ⟨#[]⟩ ⟨#[]⟩ 0 (some ⟨gn, 0, none⟩) 2 cn) ?_ ?_ ?_ (leafT 0 _ 0 (by decide) (by decide) (by decide)) (leafT 1 _ 0 (by decide) (by decide) (by decide)) (.over2 (by decide) h.cap bn h.row.1 h.row.2 (h.opt.node b1 b2) (h.opt.node b1 b2))
  · refine cellsAt_five ?_ ?_ ?_ ?_ ?_ <;> (rw [Lib.cell_of_heap h.h4]; rfl)
  · refine cellsAt_five ?_ ?_ ?_ ?_ ?_ <;> (rw [Lib.cell_of_heap h.h4]; rfl)
  · refine cellsAt_five ?_ ?_ ?_ ?_ ?_ <;> (rw [Lib.cell_of_heap h.h4]; rfl)

theorem fileT_count : (fileT [optT, optT]).count ≤ 400 := by
  simp only [fileT, optT, setT, nameT, fiveT, noT, Tr.count_mk, List.map_cons, List.map_nil, List.sum_cons, List.sum_nil]
  decide

theorem two_hits : decide (1 < hits ⟨#[97]⟩ [optT, optT]) = true := by decide

theorem own_two {w : World} {lo : Nat} {v : Value} {xs : List Value} (h : w.ownsRow lo 25 5 v 2 xs) : ∃ g cap cur, v = .slice (some ⟨g, 0, none⟩) 2 cap ∧ lo ≤ g ∧ w.heap[g]? = some (.cells cur 25 (0, 0)) ∧ 2 ≤ cap ∧ 10 ≤ cur.size ∧ cur.toList.take 10 = xs := by
  rcases h.2 with ⟨_, h0⟩ | ⟨g, cap, cur, hv, hg, hc, h1, h2, h3, h4⟩
  · omega
  · exact ⟨g, cap, cur, hv, hg, hc, h1, by omega, h4⟩

theorem take_at {cur : Array Value} {xs : List Value} (h : cur.toList.take 10 = xs) (i : Nat) (hi : i < 10) : cur[i]? = xs[i]? := by
  rw [← h, List.getElem?_take_of_lt hi, Array.getElem?_toList]

/-- The file behind its change: the option twice. -/
structure AfterP (w w0 W : World) (fb g1 g2 g4 gn cn : Nat) : Prop where
  file : W.heap[w.heap.size]? = w0.heap[w.heap.size]?
  two : TwoIn W g1 g2 g4 gn cn
  box : W.heap[fb]? = some (.cells #[.int .i64 3, .string ⟨#[]⟩, .string ⟨#[]⟩, .int .u64 0, .slice (some ⟨g4, 0, none⟩) 3 3] 25 (0, 0))
  bel : Below w.heap.size w W
  gn : gn < W.heap.size

/-- .. ahead of the element's store. -/
structure MidP (w w0 W : World) (fb g1 g2 g4 gn cn : Nat) : Prop where
  file : W.heap[w.heap.size]? = w0.heap[w.heap.size]?
  opt : OptIn W g1 g2
  cap : 2 ≤ cn
  h4 : W.heap[g4]? = some (.cells #[.int .i64 0, .string ⟨#[]⟩, .string ⟨#[]⟩, .int .u64 0, .slice none 0 0, .int .i64 1, .string ⟨#[]⟩, .string ⟨#[]⟩, .int .u64 0, .slice none 0 0, .int .i64 1, .string ⟨#[]⟩, .string ⟨#[]⟩, .int .u64 0, .slice (some ⟨gn, 0, none⟩) 2 cn] 25 (0, 0))
  row : ∃ cur, W.heap[gn]? = some (.cells cur 25 (0, 0)) ∧ 10 ≤ cur.size ∧ cur.toList.take 10 = [.int .i64 12, .string ⟨#[]⟩, .string ⟨#[]⟩, .int .u64 0, .slice (some ⟨g2, 0, none⟩) 1 1] ++ [.int .i64 0, .string ⟨#[]⟩, .string ⟨#[]⟩, .int .u64 0, .slice none 0 0]
  box : W.heap[fb]? = some (.cells #[.int .i64 3, .string ⟨#[]⟩, .string ⟨#[]⟩, .int .u64 0, .slice (some ⟨g4, 0, none⟩) 3 3] 25 (0, 0))
  bel : Below w.heap.size w W
  ne : gn ≠ g1 ∧ gn ≠ g2 ∧ gn ≠ g4 ∧ gn ≠ fb
  ne0 : gn ≠ w.heap.size
  low : w.heap.size ≤ gn

theorem two_of {W : World} {g1 g2 g4 gn cn : Nat} {cur : Array Value} (ho : OptIn W g1 g2) (hc : 2 ≤ cn) (h4 : W.heap[g4]? = some (.cells #[.int .i64 0, .string ⟨#[]⟩, .string ⟨#[]⟩, .int .u64 0, .slice none 0 0, .int .i64 1, .string ⟨#[]⟩, .string ⟨#[]⟩, .int .u64 0, .slice none 0 0, .int .i64 1, .string ⟨#[]⟩, .string ⟨#[]⟩, .int .u64 0, .slice (some ⟨gn, 0, none⟩) 2 cn] 25 (0, 0))) (hr : W.heap[gn]? = some (.cells cur 25 (0, 0))) (ht : cur.toList.take 10 = [.int .i64 12, .string ⟨#[]⟩, .string ⟨#[]⟩, .int .u64 0, .slice (some ⟨g2, 0, none⟩) 1 1] ++ [.int .i64 12, .string ⟨#[]⟩, .string ⟨#[]⟩, .int .u64 0, .slice (some ⟨g2, 0, none⟩) 1 1]) : TwoIn W g1 g2 g4 gn cn := by
  have hx : ∀ i, i < 10 → W.cell? ⟨gn, i, none⟩ = ([.int .i64 12, .string ⟨#[]⟩, .string ⟨#[]⟩, .int .u64 0, .slice (some ⟨g2, 0, none⟩) 1 1] ++ [.int .i64 12, .string ⟨#[]⟩, .string ⟨#[]⟩, .int .u64 0, .slice (some ⟨g2, 0, none⟩) 1 1])[i]? := fun i hi => by
    rw [Lib.cell_of_heap hr, ← take_at ht i hi]
  refine ⟨ho, ⟨cellsAt_five ?_ ?_ ?_ ?_ ?_, cellsAt_five ?_ ?_ ?_ ?_ ?_⟩, hc, h4⟩
  · exact hx 0 (by decide)
  · exact hx 1 (by decide)
  · exact hx 2 (by decide)
  · exact hx 3 (by decide)
  · exact hx 4 (by decide)
  · exact hx 5 (by decide)
  · exact hx 6 (by decide)
  · exact hx 7 (by decide)
  · exact hx 8 (by decide)
  · exact hx 9 (by decide)

theorem MidP.done {w w0 W : World} {fb g1 g2 g4 gn cn : Nat} (h : MidP w w0 W fb g1 g2 g4 gn cn) : AfterP w w0 (((((W.setCell ⟨gn, 5, none⟩ (.int .i64 12)).setCell ⟨gn, 6, none⟩ (.string ⟨#[]⟩)).setCell ⟨gn, 7, none⟩ (.string ⟨#[]⟩)).setCell ⟨gn, 8, none⟩ (.int .u64 0)).setCell ⟨gn, 9, none⟩ (.slice (some ⟨g2, 0, none⟩) 1 1)) fb g1 g2 g4 gn cn := by
  obtain ⟨cur, hr, hsz, ht⟩ := h.row
  have hr2 := row_setG (row_setG (row_setG (row_setG (row_setG hr 5 (.int .i64 12)) 6 (.string ⟨#[]⟩)) 7 (.string ⟨#[]⟩)) 8 (.int .u64 0)) 9 (.slice (some ⟨g2, 0, none⟩) 1 1)
  have uo : ∀ r, r ≠ gn → (((((W.setCell ⟨gn, 5, none⟩ (.int .i64 12)).setCell ⟨gn, 6, none⟩ (.string ⟨#[]⟩)).setCell ⟨gn, 7, none⟩ (.string ⟨#[]⟩)).setCell ⟨gn, 8, none⟩ (.int .u64 0)).setCell ⟨gn, 9, none⟩ (.slice (some ⟨g2, 0, none⟩) 1 1)).heap[r]? = W.heap[r]? := fun r hr => (Below.heap_setCell _ _ _ _ hr).trans ((Below.heap_setCell _ _ _ _ hr).trans ((Below.heap_setCell _ _ _ _ hr).trans ((Below.heap_setCell _ _ _ _ hr).trans (Below.heap_setCell _ _ _ _ hr))))
  have ub := (((((h.bel.setCell (p := ⟨gn, 5, none⟩) h.low (.int .i64 12)).setCell (p := ⟨gn, 6, none⟩) h.low (.string ⟨#[]⟩)).setCell (p := ⟨gn, 7, none⟩) h.low (.string ⟨#[]⟩)).setCell (p := ⟨gn, 8, none⟩) h.low (.int .u64 0)).setCell (p := ⟨gn, 9, none⟩) h.low (.slice (some ⟨g2, 0, none⟩) 1 1))
  have ul : gn < (((((W.setCell ⟨gn, 5, none⟩ (.int .i64 12)).setCell ⟨gn, 6, none⟩ (.string ⟨#[]⟩)).setCell ⟨gn, 7, none⟩ (.string ⟨#[]⟩)).setCell ⟨gn, 8, none⟩ (.int .u64 0)).setCell ⟨gn, 9, none⟩ (.slice (some ⟨g2, 0, none⟩) 1 1)).heap.size := (Array.getElem?_eq_some_iff.1 hr2).1
  generalize (((((W.setCell ⟨gn, 5, none⟩ (.int .i64 12)).setCell ⟨gn, 6, none⟩ (.string ⟨#[]⟩)).setCell ⟨gn, 7, none⟩ (.string ⟨#[]⟩)).setCell ⟨gn, 8, none⟩ (.int .u64 0)).setCell ⟨gn, 9, none⟩ (.slice (some ⟨g2, 0, none⟩) 1 1)) = V at *
  obtain ⟨n1, n2, n4, nf⟩ := h.ne
  have q : ∀ i, i < 10 → cur[i]? = ([.int .i64 12, .string ⟨#[]⟩, .string ⟨#[]⟩, .int .u64 0, .slice (some ⟨g2, 0, none⟩) 1 1] ++ [.int .i64 0, .string ⟨#[]⟩, .string ⟨#[]⟩, .int .u64 0, .slice none 0 0])[i]? := take_at ht
  have q0 := q 0 (by decide)
  have q1 := q 1 (by decide)
  have q2 := q 2 (by decide)
  have q3 := q 3 (by decide)
  have q4 := q 4 (by decide)
  have l5 : 5 < cur.size := by omega
  have l6 : 6 < cur.size := by omega
  have l7 : 7 < cur.size := by omega
  have l8 : 8 < cur.size := by omega
  have l9 : 9 < cur.size := by omega
  refine ⟨(uo _ h.ne0.symm).trans h.file, ⟨h.opt.keep (uo _ n1.symm) (uo _ n2.symm), ⟨cellsAt_five ?_ ?_ ?_ ?_ ?_, cellsAt_five ?_ ?_ ?_ ?_ ?_⟩, h.cap, (uo _ n4.symm).trans h.h4⟩, (uo _ nf.symm).trans h.box, ub, ul⟩
  all_goals (rw [Lib.cell_of_heap hr2]; simp [Array.getElem?_setIfInBounds, l5, l6, l7, l8, l9, q0, q1, q2, q3, q4])

end Go.Proofs.YtkohgndmhgcgeaaGreatDoor
