/- spec.in, spec.classKinds and the kinds' classes: what they give at every number. -/
import Derived.Test.YtdillheepidncaaGreatDoorShape
import Derived.LoopTactic
namespace Go.Proofs.YtdillheepidncaaGreatDoor
open Go Go.RowKit

/-- A value that is a list of integers. -/
def IntsIn (w : World) (T : TypeId) (l : List Int) (v : Value) : Prop :=
  (l = [] ∧ v = .slice none 0 0) ∨ ∃ g, v = .slice (some ⟨g, 0, none⟩) l.length l.length ∧ w.heap[g]? = some (.cells (l.map (Value.int .i64)).toArray T (0, 0))

theorem IntsAt.here {w0 w : World} {T : TypeId} {l : List Int} {v : Value} (h : IntsAt w0 w T l v) : IntsIn w T l v := by
  rcases h with h | ⟨g, h1, _, h3⟩
  · exact .inl h
  · exact .inr ⟨g, h1, h3⟩

theorem IntsIn.row (w : World) (T : TypeId) (l : List Int) : IntsIn (w.alloc (.cells (l.map (Value.int .i64)).toArray T)) T l (.slice (some ⟨w.heap.size, 0, none⟩) l.length l.length) :=
  .inr ⟨_, rfl, heap_alloc_new w _⟩

theorem IntsIn.len {w : World} {T : TypeId} {l : List Int} {v : Value} (h : IntsIn w T l v) : ∃ a c, v = .slice a l.length c := by
  rcases h with ⟨rfl, rfl⟩ | ⟨g, rfl, _⟩
  · exact ⟨none, 0, rfl⟩
  · exact ⟨_, _, rfl⟩

set_option maxHeartbeats 1000000 in
theorem in_some (n : Int) (l : List Int) (g : Nat) (w : World) (h : w.heap[g]? = some (.cells (l.map (Value.int .i64)).toArray 3 (0, 0))) (hl : l.length ≤ 1000) :
    Calls Tryz.prog 116 #[.int .i64 n, .slice (some ⟨g, 0, none⟩) l.length l.length] w fun e w' => e = .returned (.bool (decide (n ∈ l))) ∧ w' = w := by
  have hc : ∀ k, (hk : k < l.length) → w.cell? ⟨g, k, none⟩ = some (.int .i64 l[k]) := fun k hk => by
    rw [Lib.cell_of_heap h]
    simp [hk]
  have HC := Lib.hid hc
  clear hc h
  go_enter Tryz.func116, Tryz.ntmps116
  go_wp2
  go_loop [9] (fun i => ∃ k : Nat, k ≤ l.length ∧ i = .int .i64 k ∧ n ∉ l.take k) (fun i => l.length - (intOf i).toNat)
  case atStart => exact ⟨0, Nat.zero_le _, rfl, by simp⟩
  case round =>
    obtain ⟨k, hk, rfl, hn⟩ := hrel
    by_cases hlt : k < l.length
    · have c0 := HC.out k hlt
      have htk : l.take (k + 1) = l.take k ++ [l[k]] := List.take_succ_eq_append_getElem hlt
      have hmem : l[k] ∈ l := List.getElem_mem hlt
      generalize l[k] = x at c0 htk hmem
      by_cases hx : x = n
      · subst hx
        have hres : decide (x ∈ l) = true := by simpa using hmem
        go_wp2
        go_ret
        exact ⟨rfl, rfl⟩
      · have HT := Lib.hid htk
        clear htk hmem
        go_wp2
        go_round
        case rel => exact ⟨k + 1, by omega, by go_num, by rw [HT.out]; simp [hn, Ne.symm hx]⟩
        case measure => simp [intOf]; omega
    · have hke : l.take k = l := List.take_of_length_le (by omega)
      rw [hke] at hn
      have hres : decide (n ∈ l) = false := by simpa using hn
      go_wp2
      go_ret
      exact ⟨rfl, rfl⟩

set_option maxHeartbeats 1000000 in
theorem in_none (n : Int) (w : World) :
    Calls Tryz.prog 116 #[.int .i64 n, .slice none 0 0] w fun e w' => e = .returned (.bool false) ∧ w' = w := by
  go_enter Tryz.func116, Tryz.ntmps116
  go_wp2
  go_loop [9] (fun i => i = .int .i64 0) (fun _ => 0)
  case atStart => rfl
  case round =>
    subst hrel
    go_wp2
    go_ret
    exact ⟨rfl, rfl⟩

theorem in_any (n : Int) (l : List Int) (v : Value) (w : World) (h : IntsIn w 3 l v) (hl : l.length ≤ 1000) :
    Calls Tryz.prog 116 #[.int .i64 n, v] w fun e w' => e = .returned (.bool (decide (n ∈ l))) ∧ w' = w := by
  rcases h with ⟨rfl, rfl⟩ | ⟨g, rfl, h⟩
  · have := in_none n w
    simpa using this
  · exact in_some n l g w h hl

/-- What is of a class, by the classes that have few kinds. -/
def classInts : List (Int × List Int) := [(3, [33]), (4, [33, 0]), (5, [34, 0]), (6, [33, 34]), (9, [16]), (10, [28]), (11, [10]), (12, [10, 11]), (13, [17]), (14, [6]), (15, [34]), (19, [4, 0]), (20, [3]), (21, [29]), (22, [31, 32]), (23, [40]), (24, [44]), (25, [50]), (26, [52]), (27, [53])]
def classRows : List (Int × Array Value) := classInts.map fun p => (p.1, (p.2.map (Value.int .i64)).toArray)
def classFew (k : Int) : List Int := (lookL classInts k).getD []

set_option maxHeartbeats 1000000 in
set_option maxRecDepth 100000 in
theorem classKinds_any (k : Int) (w : World) :
    Calls Tryz.prog 127 #[.int .i64 k] w fun e w' => ∃ v, e = .returned v ∧ IntsAt w w' 3 (classFew k) v ∧ Below w.heap.size w w' := by
  have hmm := @run_makeMap Tryz.prog
  have hS := Lib.hid (MapR.made (Below.refl w.heap.size w) 3)
  go_enter Tryz.func127, Tryz.ntmps127
  iterate 20 (go_wp2_with fail; ((with_reducible refine upon_rowI hS.out Tryz.underlying348 Tryz.underlying3 ?_ ?_ ?_ ?_ ?_)); rfl; rfl; simp; rfl; clear hS; intro w1 hS0; have hS := Lib.hid hS0; clear hS0)
  go_wp2_with fail
  change Hid (MapR w w1 w.heap.size 3 classRows) at hS
  obtain ⟨v, hrun, hv⟩ := hS.out.look Tryz.underlying348 Tryz.underlying3 (zero_ints _) k
  rw [hrun]
  have HV := Lib.hid hv
  have HB := Lib.hid hS.out.1
  clear hS hrun hv
  go_wp2_with fail
  go_ret
  exact ⟨v, rfl, IntsAt.of HV.out, HB.out⟩

end Go.Proofs.YtdillheepidncaaGreatDoor
