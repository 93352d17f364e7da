/- What is read of a node of one node. -/
import Derived.Test.YtdillheepidncaaGreatDoorBufEnd
import Derived.Test.YtdillheepidncaaGreatDoorNodeKid
import Derived.Test.YtdillheepidncaaGreatDoorKidBuf
import Derived.Test.YtdillheepidncaaGreatDoorKidFits
namespace Go.Proofs.YtdillheepidncaaGreatDoor
open Go Go.RowKit
set_option linter.unusedVariables false
set_option linter.unusedSimpArgs false

theorem kid_nodeIn {w : World} {g : Nat} (k : Int) (hk : -9223372036854775808 ≤ k ∧ k ≤ 9223372036854775807) (x : ByteArray) (hx : x.size ≤ maxLen) (h : w.heap[g]? = some (.cells #[.int .i64 33, .string x, .string ⟨#[]⟩, .int .u64 0, .slice none 0 0] 25 (0, 0))) :
    NodeIn w (· < w.heap.size) (.mk k ⟨#[]⟩ ⟨#[]⟩ 0 [.mk 33 x ⟨#[]⟩ 0 []]) (nodeU k ⟨#[]⟩ ⟨#[]⟩ 0 (some ⟨g, 0, none⟩) 1 1) :=
  .mk (ks := [.mk 33 x ⟨#[]⟩ 0 []]) g 0 (fun _ => nodeU 33 x ⟨#[]⟩ 0 none 0 0) hk (by omega) (by decide) (by decide) (by show 1 ≤ maxLen; decide) (by show 1 ≤ 1; decide) (fun _ => ⟨rfl, (Array.getElem?_eq_some_iff.1 h).1⟩)
    (fun i hi => by
      have h0 : i = 0 := by simpa using hi
      subst h0
      intro j hj
      rw [Lib.cell_of_heap h]
      show (#[Value.int .i64 33, .string x, .string ⟨#[]⟩, .int .u64 0, .slice none 0 0] : Array Value)[0 + 0 * 5 + j]? = _
      simp)
    (fun i hi => by
      have h0 : i = 0 := by simpa using hi
      subst h0
      exact .leaf (by omega) (by omega) hx (by decide) none 0)

theorem impl_end_other {w w8 : World} {r : Nat} (h1 : r ≠ w.heap.size) (h2 : r ≠ w.heap.size + 1) (v0 v1 v2 v3 v4 v5 : Value) :
    ((((((w8.setCell ⟨w.heap.size, 0, none⟩ v0).setCell ⟨w.heap.size, 1, none⟩ v1).setCell ⟨w.heap.size, 2, none⟩ v2).setCell ⟨w.heap.size, 3, none⟩ v3).setCell ⟨w.heap.size, 4, none⟩ v4).setCell ⟨w.heap.size + 1, 0, none⟩ v5).heap[r]? = w8.heap[r]? := by
  rw [Below.heap_setCell _ _ _ _ (by show r ≠ w.heap.size + 1; exact h2), Below.heap_setCell _ _ _ _ (by show r ≠ w.heap.size; exact h1), Below.heap_setCell _ _ _ _ (by show r ≠ w.heap.size; exact h1), Below.heap_setCell _ _ _ _ (by show r ≠ w.heap.size; exact h1), Below.heap_setCell _ _ _ _ (by show r ≠ w.heap.size; exact h1), Below.heap_setCell _ _ _ _ (by show r ≠ w.heap.size; exact h1)]

/-- A node of one identifier is returned, and true. -/
def KidRes (k : Int) (x : ByteArray) (w : World) (e : Ending) (w' : World) : Prop :=
  ∃ g, e = .returned (.tuple #[.agg #[.int .i64 k, .string ⟨#[]⟩, .string ⟨#[]⟩, .int .u64 0, .slice (some ⟨g, 0, none⟩) 1 1], .bool true]) ∧ w.heap.size ≤ g ∧ w'.heap[g]? = some (.cells #[.int .i64 33, .string x, .string ⟨#[]⟩, .int .u64 0, .slice none 0 0] 25 (0, 0)) ∧ Below w.heap.size w w'

end Go.Proofs.YtdillheepidncaaGreatDoor
