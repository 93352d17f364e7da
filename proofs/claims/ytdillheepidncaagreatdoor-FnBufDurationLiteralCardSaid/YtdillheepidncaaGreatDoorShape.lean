/- spec.shape and spec.classKinds: what they give at every number. -/
import Derived.Test.YtdillheepidncaaGreatDoorMapLit
import Derived.WalkLawsBesides
import Derived.Outline
import Derived.BigCall
namespace Go.Proofs.YtdillheepidncaaGreatDoor
open Go Go.RowKit

/-- What stands in nodes of a kind: the classes, by kinds. -/
def shapeInts : List (Int × List Int) := [(3, [19, 17, 18]), (4, [3]), (5, [4, 15]), (8, [0]), (9, [0]), (10, [3, 0]), (11, [13, 0]), (12, [12]), (13, [3, 24]), (14, [11]), (15, [3, 5, 14]), (16, [0]), (17, [0, 6]), (18, [0, 0]), (19, [0, 9]), (20, [16, 7]), (21, [0, 0]), (22, [0]), (23, [0, 0]), (24, [0, 0, 0]), (25, [0]), (28, [4]), (29, [6, 8]), (32, [0]), (44, [2]), (45, [3]), (46, [3]), (47, [2]), (48, [2, 2]), (49, [4]), (50, [3, 2]), (51, [2]), (52, [4, 2]), (53, [3])]
def shapeRows : List (Int × Array Value) := shapeInts.map fun p => (p.1, (p.2.map (Value.int .i64)).toArray)
def shapeMore : List (Int × Int) := [(2, 21), (6, 2), (16, 1), (26, 1), (27, 1), (28, 22), (30, 23), (39, 24), (44, 28), (49, 26), (51, 27), (53, 4)]

def shapeFixed (k : Int) : List Int := (lookL shapeInts k).getD []
def shapeRaw (k : Int) : Int := (lookN shapeMore k).getD 0
def shapeRest (k : Int) : Int := if shapeRaw k = 0 then 28 else shapeRaw k - 1

theorem shapeRaw_bounds (k : Int) : 0 ≤ shapeRaw k ∧ shapeRaw k ≤ 28 := by
  unfold shapeRaw lookN
  cases h : shapeMore.find? (fun p => p.1 == k) with
  | none => decide
  | some p =>
    have hm := List.mem_of_find?_eq_some h
    have : ∀ p ∈ shapeMore, 0 ≤ p.2 ∧ p.2 ≤ 28 := by decide
    exact this p hm

theorem zero_ints (w : World) : (zeroValue 270).run Tryz.prog w = .ok (.slice none 0 0) w := by kernel_rfl
theorem zero_int (w : World) : (zeroValue 3).run Tryz.prog w = .ok (.int .i64 0) w := by kernel_rfl

set_option maxHeartbeats 1000000 in
set_option maxRecDepth 100000 in
theorem shape_any (k : Int) (w : World) :
    Calls Tryz.prog 73 #[.int .i64 k] w fun e w' => ∃ v, e = .returned (.tuple #[v, .int .i64 (shapeRest k)]) ∧ IntsAt w w' 3 (shapeFixed k) v ∧ Below w.heap.size w w' := by
  have hmm := @run_makeMap Tryz.prog
  have hS := Lib.hid (MapR.made (Below.refl w.heap.size w) 3)
  go_enter Tryz.func73, Tryz.ntmps73
  iterate 34 (go_wp2_with fail; ((with_reducible refine upon_rowI hS.out Tryz.underlying348 Tryz.underlying3 ?_ ?_ ?_ ?_ ?_)); rfl; rfl; simp; rfl; clear hS; intro w1 hS0; have hS := Lib.hid hS0; clear hS0)
  go_wp2_with fail
  change Hid (MapR w w1 w.heap.size 3 shapeRows) at hS
  obtain ⟨v, hrun, hv⟩ := hS.out.look Tryz.underlying348 Tryz.underlying3 (zero_ints _) k
  rw [hrun]
  have HV := Lib.hid hv
  have HB := Lib.hid hS.out.1
  clear hS hrun hv
  have hS := Lib.hid (MapJ.made w1)
  go_wp2_with fail
  iterate 12 (go_wp2_with fail; ((with_reducible refine upon_insJ hS.out Tryz.underlying349 Tryz.underlying3 ?_ ?_)); rfl; clear hS; intro w2 hS0; have hS := Lib.hid hS0; clear hS0)
  go_wp2_with fail
  change Hid (MapJ w1 w2 w1.heap.size (shapeMore.map fun p => (p.1, Value.int .i64 p.2))) at hS
  have hrun := run_lookI Tryz.underlying349 Tryz.underlying3 hS.out.2.2 _ (zero_int _) k
  have hval : (lookI (shapeMore.map fun p => (p.1, Value.int .i64 p.2)) k).getD (.int .i64 0) = .int .i64 (shapeRaw k) := by
    rw [lookI_ints]
    unfold shapeRaw lookN
    cases (shapeMore.find? (fun p => p.1 == k)) <;> rfl
  rw [hval] at hrun
  rw [hrun]
  have HB2 := Lib.hid hS.out.1
  obtain ⟨hr0, hr1⟩ := shapeRaw_bounds k
  have hrest : shapeRest k = if shapeRaw k = 0 then 28 else shapeRaw k - 1 := rfl
  clear hS hrun hval
  generalize shapeRaw k = r at hr0 hr1 hrest
  have HF := Lib.hid ((IntsAt.of HV.out).below HB2.out : IntsAt w w2 3 (shapeFixed k) v)
  have HG := Lib.hid (HB.out.trans (HB2.out.mono HB.out.size))
  clear HV HB HB2
  by_cases hz : r = 0
  · rw [if_pos hz] at hrest
    go_wp2
    refine bodyPost_ret (v := .tuple #[v, .int .i64 28]) (by simp [results, Tryz.results73, go_sem]) rfl ⟨v, by rw [hrest], HF.out, HG.out⟩
  · rw [if_neg hz] at hrest
    have hw : IntKind.i64.wrap (r - 1) = r - 1 := by rw [IntKind.wrap_i64]; omega
    go_wp2
    refine bodyPost_ret (v := .tuple #[v, .int .i64 (r - 1)]) (by simp [results, Tryz.results73, go_sem]) rfl ⟨v, by rw [hrest], HF.out, HG.out⟩

end Go.Proofs.YtdillheepidncaaGreatDoor
