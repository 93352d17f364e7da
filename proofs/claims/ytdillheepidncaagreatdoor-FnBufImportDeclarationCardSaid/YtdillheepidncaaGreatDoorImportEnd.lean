/- What is read of an import. -/
import Derived.Test.YtdillheepidncaaGreatDoorBufEnd
import Derived.Test.YtdillheepidncaaGreatDoorNodeImport
import Derived.Test.YtdillheepidncaaGreatDoorImportTwo
import Derived.Test.YtdillheepidncaaGreatDoorImportFits
import Derived.Test.YtdillheepidncaaGreatDoorKidEnd
namespace Go.Proofs.YtdillheepidncaaGreatDoor
open Go Go.RowKit
set_option linter.unusedVariables false
set_option linter.unusedSimpArgs false

theorem import_nodeIn {w : World} {g : Nat} (kx : Int) (hk : -9223372036854775808 ≤ kx ∧ kx ≤ 9223372036854775807) (tx y : ByteArray) (htx : tx.size ≤ maxLen) (hy : y.size ≤ maxLen) (h : w.heap[g]? = some (.cells #[.int .i64 kx, .string tx, .string ⟨#[]⟩, .int .u64 0, .slice none 0 0, .int .i64 34, .string y, .string ⟨#[]⟩, .int .u64 0, .slice none 0 0] 25 (0, 0))) :
    NodeIn w (· < w.heap.size) (.mk 5 ⟨#[]⟩ ⟨#[]⟩ 0 [.mk kx tx ⟨#[]⟩ 0 [], .mk 34 y ⟨#[]⟩ 0 []]) (nodeU 5 ⟨#[]⟩ ⟨#[]⟩ 0 (some ⟨g, 0, none⟩) 2 2) :=
  .mk (ks := [.mk kx tx ⟨#[]⟩ 0 [], .mk 34 y ⟨#[]⟩ 0 []]) g 0 (fun i => if i = 0 then nodeU kx tx ⟨#[]⟩ 0 none 0 0 else nodeU 34 y ⟨#[]⟩ 0 none 0 0) (by omega) (by omega) (by decide) (by decide) (by show 2 ≤ maxLen; decide) (by show 2 ≤ 2; decide) (fun _ => ⟨rfl, (Array.getElem?_eq_some_iff.1 h).1⟩)
    (fun i hi => by
      have h0 : i = 0 ∨ i = 1 := by
        have : i < 2 := hi
        omega
      rcases h0 with rfl | rfl
      · intro j hj
        rw [Lib.cell_of_heap h]
        have hj5 : j < 5 := hj
        rcases j with _ | _ | _ | _ | _ | j <;> first | rfl | omega
      · intro j hj
        rw [Lib.cell_of_heap h]
        have hj5 : j < 5 := hj
        rcases j with _ | _ | _ | _ | _ | j <;> first | rfl | omega)
    (fun i hi => by
      have h0 : i = 0 ∨ i = 1 := by
        have : i < 2 := hi
        omega
      rcases h0 with rfl | rfl
      · exact .leaf hk (by omega) htx (by decide) none 0
      · exact .leaf (by omega) (by omega) hy (by decide) none 0)

/-- An import is returned, and true. -/
def ImportRes (kx : Int) (tx y : ByteArray) (w : World) (e : Ending) (w' : World) : Prop :=
  ∃ g, e = .returned (.tuple #[.agg #[.int .i64 5, .string ⟨#[]⟩, .string ⟨#[]⟩, .int .u64 0, .slice (some ⟨g, 0, none⟩) 2 2], .bool true]) ∧ w.heap.size ≤ g ∧ w'.heap[g]? = some (.cells #[.int .i64 kx, .string tx, .string ⟨#[]⟩, .int .u64 0, .slice none 0 0, .int .i64 34, .string y, .string ⟨#[]⟩, .int .u64 0, .slice none 0 0] 25 (0, 0)) ∧ Below w.heap.size w w'

set_option maxHeartbeats 2000000 in
set_option maxRecDepth 100000 in
/-- No identifier is made of none. -/
theorem fromIdentifier_none (w : World) :
    Calls Tryz.prog 53 #[.agg #[.pointer none, .slice none 0 0, .slice none 0 0, .string ⟨#[]⟩], .pointer none] w fun e w' => e = .returned (.pointer none) ∧ Below w.heap.size w w' := by
  have HB := Lib.hid ((Below.refl w.heap.size w).alloc (Nat.le_refl _) (.cells #[.pointer none, .slice none 0 0, .slice none 0 0, .string ⟨#[]⟩] 96))
  go_enter Tryz.func53, Tryz.ntmps53
  go_wp2
  go_ret
  exact ⟨rfl, HB.out⟩

end Go.Proofs.YtdillheepidncaaGreatDoor
