/- fbast: the readers of nodes. -/
import Derived.Test.YtdillheepidncaaGreatDoorGetTab
import Derived.Below
import Derived.Lib.BufferOwn
import Derived.Laws.IdiomStrings
namespace Go.Proofs.YtdillheepidncaaGreatDoor
open Go Go.RowKit
set_option linter.unusedVariables false
set_option linter.unusedSimpArgs false

/-- A reader is laid. -/
abbrev initW (w : World) (b : Nat) (v : Value) (p : Int) : World := (w.setCell ⟨b, 0, none⟩ v).setCell ⟨b, 1, none⟩ (.int .u32 p)

theorem row_setG {w : World} {g : Nat} {cur : Array Value} {T : TypeId} {fz : Nat × Nat} (h : w.heap[g]? = some (.cells cur T fz)) (i : Nat) (v : Value) : (w.setCell ⟨g, i, none⟩ v).heap[g]? = some (.cells (cur.setIfInBounds i v) T fz) := Lib.heap_setCell_same h v

theorem reads_below {w w' : World} (h : ∃ m, w' = w.drewN m) : Below w.heap.size w w' := by
  obtain ⟨m, rfl⟩ := h
  exact (Below.refl _ w).trans ⟨rfl, rfl, rfl, Nat.le_refl _, fun _ _ => rfl⟩

theorem TabAt.below {b g L c p : Nat} {bs : List UInt8} {w w' : World} (h : TabAt b g L c p bs w) (hb : Below w.heap.size w w') : TabAt b g L c p bs w' :=
  ⟨(hb.cell (p := ⟨b, 0, none⟩) h.bl).trans h.c0, (hb.cell (p := ⟨b, 1, none⟩) h.bl).trans h.c1, fun i hi => (hb.cell (p := ⟨g, i, none⟩) h.gl).trans (h.row i hi), h.len, h.cap, h.big, Nat.lt_of_lt_of_le h.gl hb.size, Nat.lt_of_lt_of_le h.bl hb.size⟩

/-- The bytes, and where they stand. -/
structure RowAt (g L c : Nat) (bs : List UInt8) (w : World) : Prop where
  row : RowIn w g bs
  len : bs.length = L
  cap : L ≤ c
  big : L < 1000000000
  gl : g < w.heap.size

theorem TabAt.rowAt {b g L c p : Nat} {bs : List UInt8} {w : World} (h : TabAt b g L c p bs w) : RowAt g L c bs w := ⟨h.row, h.len, h.cap, h.big, h.gl⟩

/-- A new reader. -/
theorem tab_made {g L c : Nat} {bs : List UInt8} {w : World} (h : RowAt g L c bs w) (p : Nat) (x0 x1 : Value) (T : TypeId) :
    TabAt w.heap.size g L c p bs (initW (w.alloc (.cells #[x0, x1] T)) w.heap.size (.slice (some ⟨g, 0, none⟩) L c) p) ∧ Below w.heap.size w (initW (w.alloc (.cells #[x0, x1] T)) w.heap.size (.slice (some ⟨g, 0, none⟩) L c) p) := by
  have hb := (((Below.refl _ w).alloc (Nat.le_refl _) (.cells #[x0, x1] T)).setCell (p := ⟨w.heap.size, 0, none⟩) (Nat.le_refl _) (.slice (some ⟨g, 0, none⟩) L c)).setCell (p := ⟨w.heap.size, 1, none⟩) (Nat.le_refl _) (.int .u32 (p : Int))
  have hr := row_setG (row_setG (heap_alloc_new w (.cells #[x0, x1] T)) 0 (.slice (some ⟨g, 0, none⟩) L c)) 1 (.int .u32 (p : Int))
  refine ⟨⟨?_, ?_, fun i hi => (hb.cell (p := ⟨g, i, none⟩) h.gl).trans (h.row i hi), h.len, h.cap, h.big, Nat.lt_of_lt_of_le h.gl hb.size, (Array.getElem?_eq_some_iff.1 hr).1⟩, hb⟩
  · rw [Lib.cell_of_heap hr]; rfl
  · rw [Lib.cell_of_heap hr]; rfl

/-- A reader is returned that stands at a place. -/
def NewTab (g L c p : Nat) (bs : List UInt8) (w : World) (e : Ending) (w' : World) : Prop :=
  ∃ r, e = .returned (.pointer (some ⟨r, 0, none⟩)) ∧ w.heap.size ≤ r ∧ TabAt r g L c p bs w' ∧ Below w.heap.size w w'


theorem offsetZ (b g L c p : Nat) (bs : List UInt8) (size : Nat) (places : List Nat) (hq : VtQ size places bs p) (h4 : 4 ≤ size) (hn : places.length < 1000) (i : Nat) (hi : i < places.length → places.getD i 0 = 0) (hi2 : i < 1000) (x : Int) (hx : x = 4 + 2 * i) (w : World) (h : TabAt b g L c p bs w) :
    Calls Tryz.prog 92 #[.pointer (some ⟨b, 0, none⟩), .int .u16 x] w fun e w' => e = .returned (.int .u16 0) ∧ ∃ m, w' = w.drewN m := by
  by_cases h1 : i < places.length
  · exact offset_there b g L c p bs size places hq h4 hn i h1 x hx 0 (hi h1) w h
  · exact offset_none b g L c p bs size places hq h4 hn i (by omega) hi2 x hx w h


set_option maxHeartbeats 1000000 in
set_option maxRecDepth 100000 in
theorem initBaseNode (b g L c : Nat) (x0 x1 : Value) (q : Int) (w : World) (h : w.heap[b]? = some (.cells #[x0, x1] 330 (0, 0))) :
    Calls Tryz.prog 94 #[.pointer (some ⟨b, 0, none⟩), .slice (some ⟨g, 0, none⟩) L c, .int .u32 q] w fun e w' => e = .returned (.tuple #[]) ∧ w' = initW w b (.slice (some ⟨g, 0, none⟩) L c) q := by
  have c0 : w.cell? ⟨b, 0, none⟩ = some x0 := by rw [Lib.cell_of_heap h]; rfl
  have c1 : w.cell? ⟨b, 1, none⟩ = some x1 := by rw [Lib.cell_of_heap h]; rfl
  have f0 := Lib.frozen_of_heap h 0
  have f1 := Lib.frozen_of_heap h 1
  go_enter Tryz.func94, Tryz.ntmps94
  go_wp2
  go_end0
  exact ⟨rfl, rfl⟩


set_option maxHeartbeats 1000000 in
set_option maxRecDepth 100000 in
theorem initSourceLocation (b g L c : Nat) (x0 x1 : Value) (q : Int) (w : World) (h : w.heap[b]? = some (.cells #[x0, x1] 357 (0, 0))) :
    Calls Tryz.prog 136 #[.pointer (some ⟨b, 0, none⟩), .slice (some ⟨g, 0, none⟩) L c, .int .u32 q] w fun e w' => e = .returned (.tuple #[]) ∧ w' = initW w b (.slice (some ⟨g, 0, none⟩) L c) q := by
  have c0 : w.cell? ⟨b, 0, none⟩ = some x0 := by rw [Lib.cell_of_heap h]; rfl
  have c1 : w.cell? ⟨b, 1, none⟩ = some x1 := by rw [Lib.cell_of_heap h]; rfl
  have f0 := Lib.frozen_of_heap h 0
  have f1 := Lib.frozen_of_heap h 1
  go_enter Tryz.func136, Tryz.ntmps136
  go_wp2
  go_end0
  exact ⟨rfl, rfl⟩


set_option maxHeartbeats 1000000 in
set_option maxRecDepth 100000 in
theorem initPosition (b g L c : Nat) (x0 x1 : Value) (q : Int) (w : World) (h : w.heap[b]? = some (.cells #[x0, x1] 386 (0, 0))) :
    Calls Tryz.prog 166 #[.pointer (some ⟨b, 0, none⟩), .slice (some ⟨g, 0, none⟩) L c, .int .u32 q] w fun e w' => e = .returned (.tuple #[]) ∧ w' = initW w b (.slice (some ⟨g, 0, none⟩) L c) q := by
  have c0 : w.cell? ⟨b, 0, none⟩ = some x0 := by rw [Lib.cell_of_heap h]; rfl
  have c1 : w.cell? ⟨b, 1, none⟩ = some x1 := by rw [Lib.cell_of_heap h]; rfl
  have f0 := Lib.frozen_of_heap h 0
  have f1 := Lib.frozen_of_heap h 1
  go_enter Tryz.func166, Tryz.ntmps166
  go_wp2
  go_end0
  exact ⟨rfl, rfl⟩


set_option maxHeartbeats 1000000 in
set_option maxRecDepth 100000 in
theorem initStringLiteral (b g L c : Nat) (x0 x1 : Value) (q : Int) (w : World) (h : w.heap[b]? = some (.cells #[x0, x1] 336 (0, 0))) :
    Calls Tryz.prog 108 #[.pointer (some ⟨b, 0, none⟩), .slice (some ⟨g, 0, none⟩) L c, .int .u32 q] w fun e w' => e = .returned (.tuple #[]) ∧ w' = initW w b (.slice (some ⟨g, 0, none⟩) L c) q := by
  have c0 : w.cell? ⟨b, 0, none⟩ = some x0 := by rw [Lib.cell_of_heap h]; rfl
  have c1 : w.cell? ⟨b, 1, none⟩ = some x1 := by rw [Lib.cell_of_heap h]; rfl
  have f0 := Lib.frozen_of_heap h 0
  have f1 := Lib.frozen_of_heap h 1
  go_enter Tryz.func108, Tryz.ntmps108
  go_wp2
  go_end0
  exact ⟨rfl, rfl⟩


set_option maxHeartbeats 1000000 in
set_option maxRecDepth 100000 in
theorem initIdentifier (b g L c : Nat) (x0 x1 : Value) (q : Int) (w : World) (h : w.heap[b]? = some (.cells #[x0, x1] 332 (0, 0))) :
    Calls Tryz.prog 97 #[.pointer (some ⟨b, 0, none⟩), .slice (some ⟨g, 0, none⟩) L c, .int .u32 q] w fun e w' => e = .returned (.tuple #[]) ∧ w' = initW w b (.slice (some ⟨g, 0, none⟩) L c) q := by
  have c0 : w.cell? ⟨b, 0, none⟩ = some x0 := by rw [Lib.cell_of_heap h]; rfl
  have c1 : w.cell? ⟨b, 1, none⟩ = some x1 := by rw [Lib.cell_of_heap h]; rfl
  have f0 := Lib.frozen_of_heap h 0
  have f1 := Lib.frozen_of_heap h 1
  go_enter Tryz.func97, Tryz.ntmps97
  go_wp2
  go_end0
  exact ⟨rfl, rfl⟩


set_option maxHeartbeats 1000000 in
set_option maxRecDepth 100000 in
theorem initTvarType (b g L c : Nat) (x0 x1 : Value) (q : Int) (w : World) (h : w.heap[b]? = some (.cells #[x0, x1] 246 (0, 0))) :
    Calls Tryz.prog 56 #[.pointer (some ⟨b, 0, none⟩), .slice (some ⟨g, 0, none⟩) L c, .int .u32 q] w fun e w' => e = .returned (.tuple #[]) ∧ w' = initW w b (.slice (some ⟨g, 0, none⟩) L c) q := by
  have c0 : w.cell? ⟨b, 0, none⟩ = some x0 := by rw [Lib.cell_of_heap h]; rfl
  have c1 : w.cell? ⟨b, 1, none⟩ = some x1 := by rw [Lib.cell_of_heap h]; rfl
  have f0 := Lib.frozen_of_heap h 0
  have f1 := Lib.frozen_of_heap h 1
  go_enter Tryz.func56, Tryz.ntmps56
  go_wp2
  go_end0
  exact ⟨rfl, rfl⟩


set_option maxHeartbeats 1000000 in
set_option maxRecDepth 100000 in
theorem initImportDeclaration (b g L c : Nat) (x0 x1 : Value) (q : Int) (w : World) (h : w.heap[b]? = some (.cells #[x0, x1] 258 (0, 0))) :
    Calls Tryz.prog 65 #[.pointer (some ⟨b, 0, none⟩), .slice (some ⟨g, 0, none⟩) L c, .int .u32 q] w fun e w' => e = .returned (.tuple #[]) ∧ w' = initW w b (.slice (some ⟨g, 0, none⟩) L c) q := by
  have c0 : w.cell? ⟨b, 0, none⟩ = some x0 := by rw [Lib.cell_of_heap h]; rfl
  have c1 : w.cell? ⟨b, 1, none⟩ = some x1 := by rw [Lib.cell_of_heap h]; rfl
  have f0 := Lib.frozen_of_heap h 0
  have f1 := Lib.frozen_of_heap h 1
  go_enter Tryz.func65, Tryz.ntmps65
  go_wp2
  go_end0
  exact ⟨rfl, rfl⟩


end Go.Proofs.YtdillheepidncaaGreatDoor
