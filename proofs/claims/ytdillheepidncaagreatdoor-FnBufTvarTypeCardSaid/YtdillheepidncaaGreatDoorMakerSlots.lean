/- Slots of the maker: numbers, texts, locations. -/
import Derived.Test.YtdillheepidncaaGreatDoorMakerTable
namespace Go.Proofs.YtdillheepidncaaGreatDoor
open Go Go.RowKit
set_option linter.unusedVariables false
set_option linter.unusedSimpArgs false

/-- A slot as a value. -/
def slotV (i wd u : Int) (f : Value) : Value := .agg #[.int .i64 i, .int .i64 wd, .int .u64 u, f]

set_option maxHeartbeats 1000000 in
set_option maxRecDepth 100000 in
theorem number_any (i wd u : Int) (w : World) :
    Calls Tryz.prog 105 #[.int .i64 i, .int .i64 wd, .int .u64 u] w fun e w' => e = .returned (.agg #[.int .i64 i, .int .i64 wd, .int .u64 u, .nilFunc]) ∧ Below w.heap.size w w' := by
  go_enter Tryz.func105, Tryz.ntmps105
  go_wp2
  refine bodyPost_ret (v := .agg #[.int .i64 i, .int .i64 wd, .int .u64 u, .nilFunc]) (by simp [results, Tryz.results105, go_sem]) rfl ⟨rfl, (Below.refl _ w).alloc (Nat.le_refl _) _⟩

set_option maxHeartbeats 1000000 in
set_option maxRecDepth 100000 in
theorem textAt_any (i : Int) (s : ByteArray) (w : World) :
    Calls Tryz.prog 148 #[.int .i64 i, .string s] w fun e w' => e = .returned (.agg #[.int .i64 i, .int .i64 4, .int .u64 0, .func (.func 174) #[] #[.pointer (some ⟨w.heap.size, 0, none⟩)]]) ∧ w'.heap[w.heap.size]? = some (.cells #[.string s] 9 (0, 0)) ∧ Below w.heap.size w w' := by
  have hmf : ∀ (fn : Fn) (first cap : Array Value) (w : World), (Instr.makeFunc fn first cap).run Tryz.prog w = .ok (.func fn first cap) w := fun _ _ _ _ => rfl
  go_enter Tryz.func148, Tryz.ntmps148
  go_wp2
  have hb := (Below.refl w.heap.size w).alloc (Nat.le_refl _) (.cells #[.string s] 9)
  refine bodyPost_ret (v := .agg #[.int .i64 i, .int .i64 4, .int .u64 0, .func (.func 174) #[] #[.pointer (some ⟨w.heap.size, 0, none⟩)]]) (by simp [results, Tryz.results148, go_sem]) rfl ⟨rfl, ?_, hb.alloc hb.size _⟩
  exact (Below.heap_alloc _ _ _ (by rw [alloc_size]; omega)).trans (heap_alloc_new w _)

set_option maxHeartbeats 1000000 in
set_option maxRecDepth 100000 in
theorem textAt_ref (M b : Nat) (base : Bool) (out : List UInt8) (s : ByteArray) (hs : s.size < 1000000) (hout : out.length < 900000000) (w : World) (h : Mk M base out w) (hb : w.heap[b]? = some (.cells #[.string s] 9 (0, 0))) :
    Calls Tryz.prog 174 #[.pointer (some ⟨M, 0, none⟩), .pointer (some ⟨b, 0, none⟩)] w (AtPost M base (textB s.data.toList out).1 (textB s.data.toList out).2 w) := by
  have c0 : w.cell? ⟨b, 0, none⟩ = some (.string s) := by rw [Lib.cell_of_heap hb]; rfl
  have HT := Lib.hid (text_any M base out s hs hout w h)
  clear h hb
  go_enter Tryz.func174, Tryz.ntmps174
  go_wp2_with (go_at_call 175; with_reducible refine HT.out.mono ?_)
  rintro e w2 ⟨rfl, h1, h2⟩
  go_wp2
  go_ret
  exact ⟨rfl, h1, h2⟩

set_option maxHeartbeats 1000000 in
set_option maxRecDepth 100000 in
theorem locationAt_any (i : Int) (w : World) :
    Calls Tryz.prog 60 #[.int .i64 i] w fun e w' => e = .returned (.agg #[.int .i64 i, .int .i64 4, .int .u64 0, .func (.func 104) #[] #[]]) ∧ Below w.heap.size w w' := by
  go_enter Tryz.func60, Tryz.ntmps60
  go_wp2
  refine bodyPost_ret (v := .agg #[.int .i64 i, .int .i64 4, .int .u64 0, .func (.func 104) #[] #[]]) (by simp [results, Tryz.results60, go_sem]) rfl ⟨rfl, (Below.refl _ w).alloc (Nat.le_refl _) _⟩

end Go.Proofs.YtdillheepidncaaGreatDoor
