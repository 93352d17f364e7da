/- Slots of the maker: numbers, texts, locations. The maker's location: a table of two numbers. The maker's table of what all nodes have: its location. Slots of literals: one text, or one number. A node's slots, of the kinds that have one text or one number. The tables of nodes with one text or one number, with and without what all nodes have. The maker's node of one slot. The maker's node of one slot, with what all nodes have. The whole flatbuffer. The maker's node over any slots. The maker's slots of nodes. The maker's slots of nodes with kids. -/
import Derived.Test.YtgceklahjdbipaaGreatDoorMakerTable
import Derived.Test.YtgceklahjdbipaaGreatDoorClass
import Derived.Test.YtgceklahjdbipaaGreatDoorTree
import Derived.ArgAppend
import Derived.Deep.RegionHeld3
namespace Go.Proofs.YtgceklahjdbipaaGreatDoor
open Go Go.RowKit
set_option linter.unusedVariables false
set_option linter.unusedSimpArgs false

/-- A slot as a value. -/
def slotV (i wd u : Int) (f : Value) : Value := .agg #[.int .i64 i, .int .i64 wd, .int .u64 u, f]

set_option maxHeartbeats 1000000 in
set_option maxRecDepth 100000 in
theorem number_any (i wd u : Int) (w : World) :
    Calls Tryz.prog 132 #[.int .i64 i, .int .i64 wd, .int .u64 u] w fun e w' => e = .returned (.agg #[.int .i64 i, .int .i64 wd, .int .u64 u, .nilFunc]) ∧ Below w.heap.size w w' := by
  go_enter Tryz.func132, Tryz.ntmps132
  go_wp2
  refine bodyPost_ret (v := .agg #[.int .i64 i, .int .i64 wd, .int .u64 u, .nilFunc]) (by simp [results, Tryz.results132, go_sem]) rfl ⟨rfl, (Below.refl _ w).alloc (Nat.le_refl _) _⟩

set_option maxHeartbeats 1000000 in
set_option maxRecDepth 100000 in
theorem textAt_any (i : Int) (s : ByteArray) (w : World) :
    Calls Tryz.prog 195 #[.int .i64 i, .string s] w fun e w' => e = .returned (.agg #[.int .i64 i, .int .i64 4, .int .u64 0, .func (.func 221) #[] #[.pointer (some ⟨w.heap.size, 0, none⟩)]]) ∧ w'.heap[w.heap.size]? = some (.cells #[.string s] 9 (0, 0)) ∧ Below w.heap.size w w' := by
  have hmf : ∀ (fn : Fn) (first cap : Array Value) (w : World), (Instr.makeFunc fn first cap).run Tryz.prog w = .ok (.func fn first cap) w := fun _ _ _ _ => rfl
  go_enter Tryz.func195, Tryz.ntmps195
  go_wp2
  have hb := (Below.refl w.heap.size w).alloc (Nat.le_refl _) (.cells #[.string s] 9)
  refine bodyPost_ret (v := .agg #[.int .i64 i, .int .i64 4, .int .u64 0, .func (.func 221) #[] #[.pointer (some ⟨w.heap.size, 0, none⟩)]]) (by simp [results, Tryz.results195, go_sem]) rfl ⟨rfl, ?_, hb.alloc hb.size _⟩
  exact (Below.heap_alloc _ _ _ (by rw [alloc_size]; omega)).trans (heap_alloc_new w _)

set_option maxHeartbeats 1000000 in
set_option maxRecDepth 100000 in
theorem textAt_ref (M b : Nat) (base : Bool) (out : List UInt8) (s : ByteArray) (hs : s.size < 1000000) (hout : out.length < 900000000) (w : World) (h : Mk M base out w) (hb : w.heap[b]? = some (.cells #[.string s] 9 (0, 0))) :
    Calls Tryz.prog 221 #[.pointer (some ⟨M, 0, none⟩), .pointer (some ⟨b, 0, none⟩)] w (AtPost M base (textB s.data.toList out).1 (textB s.data.toList out).2 w) := by
  have c0 : w.cell? ⟨b, 0, none⟩ = some (.string s) := by rw [Lib.cell_of_heap hb]; rfl
  have HT := Lib.hid (text_any M base out s hs hout w h)
  clear h hb
  go_enter Tryz.func221, Tryz.ntmps221
  go_wp2_with (go_at_call 222; with_reducible refine HT.out.mono ?_)
  rintro e w2 ⟨rfl, h1, h2⟩
  go_wp2
  go_ret
  exact ⟨rfl, h1, h2⟩

set_option maxHeartbeats 1000000 in
set_option maxRecDepth 100000 in
theorem locationAt_any (i : Int) (w : World) :
    Calls Tryz.prog 68 #[.int .i64 i] w fun e w' => e = .returned (.agg #[.int .i64 i, .int .i64 4, .int .u64 0, .func (.func 131) #[] #[]]) ∧ Below w.heap.size w w' := by
  go_enter Tryz.func68, Tryz.ntmps68
  go_wp2
  refine bodyPost_ret (v := .agg #[.int .i64 i, .int .i64 4, .int .u64 0, .func (.func 131) #[] #[]]) (by simp [results, Tryz.results68, go_sem]) rfl ⟨rfl, (Below.refl _ w).alloc (Nat.le_refl _) _⟩

def numQ (i wd u : Nat) : SlotQ := ⟨⟨i, wd, u, none⟩, 0, fun _ _ => True⟩
def locFs : List SlotQ := [numQ 1 8 0, numQ 2 8 0]
def locB : List UInt8 → List UInt8 × Nat := tableB (locFs.map SlotQ.s)

theorem loc_layout : layout (locFs.map SlotQ.s) = ([0, 8, 16], 24) := by decide
theorem loc_ok : PartOk locB (12 + 2 * 3 + 24 + 0) (TabQ 24 [0, 8, 16] locFs) :=
  table_ok locFs [0, 8, 16] 24 loc_layout rfl (by decide) (by decide) (by decide) (by decide) (by decide) (by decide) (by
    simp only [locFs, List.map_cons, List.map_nil, List.pairwise_cons]
    refine ⟨fun b hb => ?_, ⟨fun b hb => by simp at hb, List.Pairwise.nil⟩⟩
    simp at hb
    subst hb
    left
    decide) (fun f hf P hP => by
    simp [locFs, numQ] at hf
    rcases hf with rfl | rfl <;> cases hP)

theorem loc_pair : (locFs.map SlotQ.s).Pairwise (Apart [0, 8, 16]) := by
  simp only [locFs, List.map_cons, List.map_nil, List.pairwise_cons]
  refine ⟨fun b hb => ?_, ⟨fun b hb => by simp at hb, List.Pairwise.nil⟩⟩
  simp at hb
  subst hb
  left
  decide

theorem loc_none (f : SlotQ) (hf : f ∈ locFs) (P : List UInt8 → List UInt8 × Nat) (hP : f.s.ref = some P) : f.s.width = 4 ∧ PartOk P f.sz f.Q := by
  simp [locFs, numQ] at hf
  rcases hf with rfl | rfl <;> cases hP

/-- Slots in a block of their own, made at last. -/
theorem moves_below {M : Nat} {w w' : World} (hM : M < w.heap.size) (hb : Below w.heap.size w w') : Moves M w w' := (Moves.refl M w).below hb hM

set_option maxHeartbeats 4000000 in
set_option maxRecDepth 100000 in
theorem locationAt_ref (M : Nat) (base : Bool) (out : List UInt8) (hout : out.length + 42 < 900000000) (w : World) (h : Mk M base out w) :
    Calls Tryz.prog 131 #[.pointer (some ⟨M, 0, none⟩)] w (AtPost M base (locB out).1 (locB out).2 w) := by
  have H := Lib.hid h
  have hM := h.lt
  clear h
  go_enter Tryz.func131, Tryz.ntmps131
  go_wp2_with (go_at_call 132; with_reducible refine (number_any 1 8 0 _).mono ?_)
  rintro e w1 ⟨rfl, hb1⟩
  go_wp2_with (go_at_call 132; with_reducible refine (number_any 2 8 0 _).mono ?_)
  rintro e w2 ⟨rfl, hb2⟩
  have hb12 : Below w.heap.size w w2 := hb1.trans (hb2.mono hb1.size)
  have hb3 := hb12.alloc hb12.size (.cells #[.int .i64 1, .int .i64 8, .int .u64 0, .nilFunc, .int .i64 2, .int .i64 8, .int .u64 0, .nilFunc] 267)
  have hm3 : Mk M base out (w2.alloc (.cells #[.int .i64 1, .int .i64 8, .int .u64 0, .nilFunc, .int .i64 2, .int .i64 8, .int .u64 0, .nilFunc] 267)) := H.out.below hb3
  have hob : MkOther M w2.heap.size (w2.alloc (.cells #[.int .i64 1, .int .i64 8, .int .u64 0, .nilFunc, .int .i64 2, .int .i64 8, .int .u64 0, .nilFunc] 267)) := MkAt.newer (H.out.below hb12) (Nat.le_refl _) (((Below.refl _ w2).alloc (Nat.le_refl _) _).cell (p := ⟨M, 0, none⟩) (Nat.lt_of_lt_of_le hM hb12.size))
  have hrow := heap_alloc_new w2 (.cells #[.int .i64 1, .int .i64 8, .int .u64 0, .nilFunc, .int .i64 2, .int .i64 8, .int .u64 0, .nilFunc] 267)
  have hmv := moves_below hM hb3
  have HT : Hid (Calls Tryz.prog 67 #[.pointer (some ⟨M, 0, none⟩), .slice (some ⟨w2.heap.size, 0, none⟩) 2 2] (w2.alloc (.cells #[.int .i64 1, .int .i64 8, .int .u64 0, .nilFunc, .int .i64 2, .int .i64 8, .int .u64 0, .nilFunc] 267)) fun e w' => e = .returned (.int .i64 (locB out).2) ∧ Mk M base (locB out).1 w' ∧ Moves M w w') := Lib.hid (by
    refine (table_any locFs [0, 8, 16] 24 loc_layout rfl (by decide) (by decide) (by decide) (by decide) (by decide) (by decide) loc_pair loc_none (by decide) (by decide) (by decide) M base out w2.heap.size 0 2 (fun _ => .nilFunc) _ hm3 hob ⟨(Array.getElem?_eq_some_iff.1 hrow).1, fun k hk => ?_⟩ (fun k hk => ?_) (by simp [locFs, numQ, szSum]; omega)).mono ?_
    · have hk2 : k < 2 := hk
      match k, hk2 with
      | 0, _ => refine ⟨?_, ?_, ?_, ?_⟩ <;> (rw [Lib.cell_of_heap hrow]; rfl)
      | 1, _ => refine ⟨?_, ?_, ?_, ?_⟩ <;> (rw [Lib.cell_of_heap hrow]; rfl)
    · have hk2 : k < 2 := hk
      match k, hk2 with
      | 0, _ => rfl
      | 1, _ => rfl
    · rintro e w' ⟨h1, h2, h3⟩
      exact ⟨h1, h2, hmv.trans h3⟩)
  clear hb1 hb2 hb12 hb3 hm3 hob hrow hmv
  go_wp2_with (go_at_call 67; with_reducible refine HT.out.mono ?_)
  rintro e w4 ⟨rfl, h1, h2⟩
  go_wp2
  go_ret
  exact ⟨rfl, h1, h2⟩

def baseFs : List SlotQ := [⟨⟨0, 4, 0, some locB⟩, 42, TabQ 24 [0, 8, 16] locFs⟩]
def baseB : List UInt8 → List UInt8 × Nat := tableB (baseFs.map SlotQ.s)

theorem base_layout : layout (baseFs.map SlotQ.s) = ([4], 8) := rfl
theorem base_pair : (baseFs.map SlotQ.s).Pairwise (Apart [4]) := by simp [baseFs]
theorem base_refs (f : SlotQ) (hf : f ∈ baseFs) (P : List UInt8 → List UInt8 × Nat) (hP : f.s.ref = some P) : f.s.width = 4 ∧ PartOk P f.sz f.Q := by
  simp [baseFs] at hf
  subst hf
  simp at hP
  subst hP
  exact ⟨rfl, loc_ok⟩
theorem base_all {p : SlotQ → Prop} (h : p ⟨⟨0, 4, 0, some locB⟩, 42, TabQ 24 [0, 8, 16] locFs⟩) : ∀ f ∈ baseFs, p f := by
  intro f hf
  simp [baseFs] at hf
  rw [hf]
  exact h
theorem base_ok : PartOk baseB (12 + 2 * 1 + 8 + szSum baseFs) (TabQ 8 [4] baseFs) :=
  table_ok baseFs [4] 8 base_layout rfl (by decide) (by decide) (by decide) (by decide) (base_all (by decide)) (base_all (by decide)) base_pair base_refs

set_option maxHeartbeats 4000000 in
set_option maxRecDepth 100000 in
theorem base_ref (M : Nat) (base : Bool) (out : List UInt8) (hout : out.length + 64 < 900000000) (w : World) (h : Mk M base out w) :
    Calls Tryz.prog 66 #[.pointer (some ⟨M, 0, none⟩)] w (AtPost M base (baseB out).1 (baseB out).2 w) := by
  have H := Lib.hid h
  have hM := h.lt
  clear h
  go_enter Tryz.func66, Tryz.ntmps66
  go_wp2_with (go_at_call 68; with_reducible refine (locationAt_any 0 _).mono ?_)
  rintro e w2 ⟨rfl, hb12⟩
  have hb3 := hb12.alloc hb12.size (.cells #[.int .i64 0, .int .i64 4, .int .u64 0, .func (.func 131) #[] #[]] 267)
  have hm3 : Mk M base out (w2.alloc (.cells #[.int .i64 0, .int .i64 4, .int .u64 0, .func (.func 131) #[] #[]] 267)) := H.out.below hb3
  have hob : MkOther M w2.heap.size (w2.alloc (.cells #[.int .i64 0, .int .i64 4, .int .u64 0, .func (.func 131) #[] #[]] 267)) := MkAt.newer (H.out.below hb12) (Nat.le_refl _) (((Below.refl _ w2).alloc (Nat.le_refl _) _).cell (p := ⟨M, 0, none⟩) (Nat.lt_of_lt_of_le hM hb12.size))
  have hrow := heap_alloc_new w2 (.cells #[.int .i64 0, .int .i64 4, .int .u64 0, .func (.func 131) #[] #[]] 267)
  have hmv := moves_below hM hb3
  have HT : Hid (Calls Tryz.prog 67 #[.pointer (some ⟨M, 0, none⟩), .slice (some ⟨w2.heap.size, 0, none⟩) 1 1] (w2.alloc (.cells #[.int .i64 0, .int .i64 4, .int .u64 0, .func (.func 131) #[] #[]] 267)) fun e w' => e = .returned (.int .i64 (baseB out).2) ∧ Mk M base (baseB out).1 w' ∧ Moves M w w') := Lib.hid (by
    refine (table_any baseFs [4] 8 base_layout rfl (by decide) (by decide) (by decide) (by decide) (base_all (by decide)) (base_all (by decide)) base_pair base_refs (base_all (by decide)) (base_all (by decide)) (by decide) M base out w2.heap.size 0 1 (fun _ => .func (.func 131) #[] #[]) _ hm3 hob ⟨(Array.getElem?_eq_some_iff.1 hrow).1, fun k hk => ?_⟩ (fun k hk => ?_) (by simp [baseFs, szSum]; omega)).mono ?_
    · have hk2 : k < 1 := hk
      match k, hk2 with
      | 0, _ => refine ⟨?_, ?_, ?_, ?_⟩ <;> (rw [Lib.cell_of_heap hrow]; rfl)
    · have hk2 : k < 1 := hk
      match k, hk2 with
      | 0, _ => exact ⟨_, _, rfl, fun args W => Tryz.call131 args W, fun W o1 _ h1 h2 => locationAt_ref M base o1 h2 W h1⟩
    · rintro e w' ⟨h1, h2, h3⟩
      exact ⟨h1, h2, hmv.trans h3⟩)
  clear hb12 hb3 hm3 hob hrow hmv
  go_wp2_with (go_at_call 67; with_reducible refine HT.out.mono ?_)
  rintro e w4 ⟨rfl, h1, h2⟩
  go_wp2
  go_ret
  exact ⟨rfl, h1, h2⟩

def textQ (i : Nat) (s : ByteArray) : SlotQ := ⟨⟨i, 4, 0, some (textB s.data.toList)⟩, s.size + 9, TextAt s.data.toList⟩

/-- One slot, in a new block. -/
def OneSlot (M : Nat) (base : Bool) (q : SlotQ) (w : World) (e : Ending) (w' : World) : Prop :=
  ∃ B f, e = .returned (.slice (some ⟨B, 0, none⟩) 1 1) ∧ w'.heap[B]? = some (.cells #[.int .i64 q.s.idx, .int .i64 q.s.width, .int .u64 q.s.num, f] 267 (0, 0)) ∧ w.heap.size ≤ B ∧ Below w.heap.size w w' ∧ FnOk M base w' f q.s q.sz

theorem text_fnOk {M : Nat} {base : Bool} {w' : World} {b : Nat} {s : ByteArray} (i : Nat) (hs : s.size < 1000000) (h : OtherAt M b (.cells #[.string s] 9 (0, 0)) w') : FnOk M base w' (.func (.func 221) #[] #[.pointer (some ⟨b, 0, none⟩)]) (textQ i s).s (textQ i s).sz :=
  ⟨_, _, rfl, fun args W => Tryz.call221 args W, fun W o1 hm h1 h2 => textAt_ref M b base o1 s hs (by omega) W h1 (h.go hm).1⟩

set_option maxHeartbeats 4000000 in
set_option maxRecDepth 100000 in
theorem literal_text (M : Nat) (base : Bool) (out : List UInt8) (k : Int) (hk : k = 33 ∨ k = 34 ∨ k = 42) (t m : ByteArray) (u : Int) (kids : Value) (hkids : ∃ a n c, kids = .slice a n c) (ht : t.size < 1000000) (w : World) (h : Mk M base out w) :
    Calls Tryz.prog 128 #[.agg #[.int .i64 k, .string t, .string m, .int .u64 u, kids]] w (OneSlot M base (textQ 1 t) w) := by
  obtain ⟨a, n, c, rfl⟩ := hkids
  have H := Lib.hid h
  have hM := h.lt
  have hb0 := (Below.refl w.heap.size w).alloc (Nat.le_refl _) (.cells #[.int .i64 k, .string t, .string m, .int .u64 u, .slice a n c] 25)
  have HB0 := Lib.hid hb0
  clear h hb0
  rcases hk with rfl | rfl | rfl
  all_goals
    go_enter Tryz.func128, Tryz.ntmps128
    go_wp2_with (go_at_call 195; with_reducible refine (textAt_any 1 t _).mono ?_)
    rintro e w2 ⟨rfl, hbox, hb2⟩
    have hb12 : Below w.heap.size w w2 := HB0.out.trans (hb2.mono HB0.out.size)
    have hob : OtherAt M _ _ w2 := ⟨hbox, MkAt.newer (w' := w2) (H.out.below HB0.out) (Nat.le_refl _) (hb2.cell (p := ⟨M, 0, none⟩) (Nat.lt_of_lt_of_le hM HB0.out.size))⟩
    have hb3 := Below.refl w2.heap.size w2
    rw [alloc_size] at hob
    go_wp2
    go_ret
    refine ⟨_, _, rfl, heap_alloc_new w2 _, hb12.size, hb12.alloc hb12.size _, text_fnOk 1 ht (hob.go (moves_below (Nat.lt_of_lt_of_le hM hb12.size) (hb3.alloc (Nat.le_refl _) _)))⟩

/-- A number's slot. -/
theorem num_fnOk {M : Nat} {base : Bool} {w' : World} (i wd u : Nat) : FnOk M base w' .nilFunc (numQ i wd u).s (numQ i wd u).sz := rfl

set_option maxHeartbeats 4000000 in
set_option maxRecDepth 100000 in
theorem literal_num (M : Nat) (base : Bool) (out : List UInt8) (k : Int) (hk : k = 36 ∨ k = 37 ∨ k = 38) (t m : ByteArray) (u : Nat) (kids : Value) (hkids : ∃ a n c, kids = .slice a n c) (w : World) (h : Mk M base out w) :
    Calls Tryz.prog 128 #[.agg #[.int .i64 k, .string t, .string m, .int .u64 u, kids]] w (OneSlot M base (numQ 1 8 u) w) := by
  obtain ⟨a, n, c, rfl⟩ := hkids
  have hb0 := (Below.refl w.heap.size w).alloc (Nat.le_refl _) (.cells #[.int .i64 k, .string t, .string m, .int .u64 (u : Int), .slice a n c] 25)
  have HB0 := Lib.hid hb0
  clear h hb0
  rcases hk with rfl | rfl | rfl
  all_goals
    go_enter Tryz.func128, Tryz.ntmps128
    go_wp2_with (go_at_call 132; with_reducible refine (number_any 1 8 u _).mono ?_)
    rintro e w2 ⟨rfl, hb2⟩
    have hb12 : Below w.heap.size w w2 := HB0.out.trans (hb2.mono HB0.out.size)
    go_wp2
    go_ret
    exact ⟨_, _, rfl, heap_alloc_new w2 _, hb12.size, hb12.alloc hb12.size _, num_fnOk 1 8 u⟩

set_option maxHeartbeats 4000000 in
set_option maxRecDepth 100000 in
theorem statement_bad (M : Nat) (base : Bool) (out : List UInt8) (t m : ByteArray) (u : Int) (kids : Value) (hkids : ∃ a n c, kids = .slice a n c) (ht : t.size < 1000000) (w : World) (h : Mk M base out w) :
    Calls Tryz.prog 130 #[.agg #[.int .i64 7, .string t, .string m, .int .u64 u, kids]] w (OneSlot M base (textQ 1 t) w) := by
  obtain ⟨a, n, c, rfl⟩ := hkids
  have H := Lib.hid h
  have hM := h.lt
  have hb0 := (Below.refl w.heap.size w).alloc (Nat.le_refl _) (.cells #[.int .i64 7, .string t, .string m, .int .u64 u, .slice a n c] 25)
  have HB0 := Lib.hid hb0
  clear h hb0
  all_goals
    go_enter Tryz.func130, Tryz.ntmps130
    go_wp2_with (go_at_call 195; with_reducible refine (textAt_any 1 t _).mono ?_)
    rintro e w2 ⟨rfl, hbox, hb2⟩
    have hb12 : Below w.heap.size w w2 := HB0.out.trans (hb2.mono HB0.out.size)
    have hob : OtherAt M _ _ w2 := ⟨hbox, MkAt.newer (w' := w2) (H.out.below HB0.out) (Nat.le_refl _) (hb2.cell (p := ⟨M, 0, none⟩) (Nat.lt_of_lt_of_le hM HB0.out.size))⟩
    have hb3 := Below.refl w2.heap.size w2
    rw [alloc_size] at hob
    go_wp2
    go_ret
    refine ⟨_, _, rfl, heap_alloc_new w2 _, hb12.size, hb12.alloc hb12.size _, text_fnOk 1 ht (hob.go (moves_below (Nat.lt_of_lt_of_le hM hb12.size) (hb3.alloc (Nat.le_refl _) _)))⟩


theorem not_type (k : Int) (hk : ¬ typeB k) {w : World} {e : Ending} {w' : World} (h : YesB (typeB k) w e w') : e = .returned (.bool false) ∧ Below w.heap.size w w' := by
  obtain ⟨b, rfl, hb, hbel⟩ := h
  cases b with
  | true => exact absurd (hb rfl) hk
  | false => exact ⟨rfl, hbel⟩

theorem OneSlot.from {M : Nat} {base : Bool} {q : SlotQ} {w W : World} {e : Ending} {w' : World} (hb : Below w.heap.size w W) (h : OneSlot M base q W e w') : OneSlot M base q w e w' := by
  obtain ⟨B, f, h1, h2, h3, h4, h5⟩ := h
  exact ⟨B, f, h1, h2, Nat.le_trans hb.size h3, hb.trans (h4.mono hb.size), h5⟩

set_option maxHeartbeats 4000000 in
set_option maxRecDepth 100000 in
theorem slots_lit (M : Nat) (base : Bool) (out : List UInt8) (q : SlotQ) (k : Nat) (hk : 33 ≤ k ∧ k < 44) (t m : ByteArray) (u : Int) (kids : Value) (hkids : ∃ a n c, kids = .slice a n c) (w : World) (h : Mk M base out w)
    (hl : ∀ W, Mk M base out W → Calls Tryz.prog 128 #[.agg #[.int .i64 k, .string t, .string m, .int .u64 u, kids]] W (OneSlot M base q W)) :
    Calls Tryz.prog 65 #[.pointer (some ⟨M, 0, none⟩), .agg #[.int .i64 k, .string t, .string m, .int .u64 u, kids]] w (OneSlot M base q w) := by
  obtain ⟨a, n, c, rfl⟩ := hkids
  have hb0 := (Below.refl w.heap.size w).alloc (Nat.le_refl _) (.cells #[.int .i64 (k : Int), .string t, .string m, .int .u64 u, .slice a n c] 25)
  have hrow := heap_alloc_new w (.cells #[.int .i64 (k : Int), .string t, .string m, .int .u64 u, .slice a n c] 25)
  have HB0 := Lib.hid hb0
  have HR0 := Lib.hid hrow
  have HM0 := Lib.hid (h.below hb0)
  have HL := Lib.hid hl
  have HNT : Hid (¬ typeB (k : Int)) := Lib.hid (by unfold typeB; omega)
  obtain ⟨hk1, hk2⟩ := hk
  have g44 : decide ((44 : Int) ≤ k) = false := by simp; omega
  have g33 : decide ((33 : Int) ≤ k) = true := by simp; omega
  clear h hb0 hrow hl
  go_enter Tryz.func65, Tryz.ntmps65
  go_wp2_with (go_at_call 126; with_reducible refine (isType_any k _).mono ?_)
  intro e w2 hy
  obtain ⟨rfl, hb2⟩ := not_type _ HNT.out hy
  have hr2 := (hb2.block w.heap.size (Array.getElem?_eq_some_iff.1 HR0.out).1).trans HR0.out
  have hb12 : Below w.heap.size w w2 := HB0.out.trans (hb2.mono HB0.out.size)
  have c0 : w2.cell? ⟨w.heap.size, 0, none⟩ = some (.int .i64 k) := by rw [Lib.cell_of_heap hr2]; rfl
  have c1 : w2.cell? ⟨w.heap.size, 1, none⟩ = some (.string t) := by rw [Lib.cell_of_heap hr2]; rfl
  have c2 : w2.cell? ⟨w.heap.size, 2, none⟩ = some (.string m) := by rw [Lib.cell_of_heap hr2]; rfl
  have c3 : w2.cell? ⟨w.heap.size, 3, none⟩ = some (.int .u64 u) := by rw [Lib.cell_of_heap hr2]; rfl
  have c4 : w2.cell? ⟨w.heap.size, 4, none⟩ = some (.slice a n c) := by rw [Lib.cell_of_heap hr2]; rfl
  have HLW := Lib.hid (HL.out w2 (HM0.out.below hb2))
  clear hy hb2 hr2
  go_wp2_with (go_at_call 128; with_reducible refine HLW.out.mono ?_)
  intro e w3 h3
  obtain ⟨B, f, rfl, h4⟩ := h3
  go_wp2
  go_ret
  exact OneSlot.from hb12 ⟨B, f, rfl, h4⟩

set_option maxHeartbeats 4000000 in
set_option maxRecDepth 100000 in
theorem slots_bad (M : Nat) (base : Bool) (out : List UInt8) (q : SlotQ) (t m : ByteArray) (u : Int) (kids : Value) (hkids : ∃ a n c, kids = .slice a n c) (w : World) (h : Mk M base out w)
    (hl : ∀ W, Mk M base out W → Calls Tryz.prog 130 #[.agg #[.int .i64 7, .string t, .string m, .int .u64 u, kids]] W (OneSlot M base q W)) :
    Calls Tryz.prog 65 #[.pointer (some ⟨M, 0, none⟩), .agg #[.int .i64 7, .string t, .string m, .int .u64 u, kids]] w (OneSlot M base q w) := by
  obtain ⟨a, n, c, rfl⟩ := hkids
  have hb0 := (Below.refl w.heap.size w).alloc (Nat.le_refl _) (.cells #[.int .i64 7, .string t, .string m, .int .u64 u, .slice a n c] 25)
  have hrow := heap_alloc_new w (.cells #[.int .i64 7, .string t, .string m, .int .u64 u, .slice a n c] 25)
  have HB0 := Lib.hid hb0
  have HR0 := Lib.hid hrow
  have HM0 := Lib.hid (h.below hb0)
  have HL := Lib.hid hl
  have HNT : Hid (¬ typeB 7) := Lib.hid (by unfold typeB; omega)
  clear h hb0 hrow hl
  go_enter Tryz.func65, Tryz.ntmps65
  go_wp2_with (go_at_call 126; with_reducible refine (isType_any 7 _).mono ?_)
  intro e w2 hy
  obtain ⟨rfl, hb2⟩ := not_type _ HNT.out hy
  have hr2 := (hb2.block w.heap.size (Array.getElem?_eq_some_iff.1 HR0.out).1).trans HR0.out
  have hb12 : Below w.heap.size w w2 := HB0.out.trans (hb2.mono HB0.out.size)
  have c0 : w2.cell? ⟨w.heap.size, 0, none⟩ = some (.int .i64 7) := by rw [Lib.cell_of_heap hr2]; rfl
  have c1 : w2.cell? ⟨w.heap.size, 1, none⟩ = some (.string t) := by rw [Lib.cell_of_heap hr2]; rfl
  have c2 : w2.cell? ⟨w.heap.size, 2, none⟩ = some (.string m) := by rw [Lib.cell_of_heap hr2]; rfl
  have c3 : w2.cell? ⟨w.heap.size, 3, none⟩ = some (.int .u64 u) := by rw [Lib.cell_of_heap hr2]; rfl
  have c4 : w2.cell? ⟨w.heap.size, 4, none⟩ = some (.slice a n c) := by rw [Lib.cell_of_heap hr2]; rfl
  have HLW := Lib.hid (HL.out w2 (HM0.out.below hb2))
  clear hy hb2 hr2
  go_wp2_with (go_at_call 130; with_reducible refine HLW.out.mono ?_)
  intro e w3 h3
  obtain ⟨B, f, rfl, h4⟩ := h3
  go_wp2
  go_ret
  exact OneSlot.from hb12 ⟨B, f, rfl, h4⟩

/-- What table_any asks of slots. -/
structure TabGood (fs : List SlotQ) (places : List Nat) (size : Nat) : Prop where
  pl : layout (fs.map SlotQ.s) = (places, size)
  most : most1 (fs.map SlotQ.s) = places.length
  few : places.length < 1000
  s4 : 4 ≤ size
  s6 : size < 60000
  ps : ∀ p ∈ places, p < 65536
  lo : ∀ f ∈ fs, 4 ≤ plc places f.s
  fit : ∀ f ∈ fs, plc places f.s + f.s.width ≤ size
  ap : (fs.map SlotQ.s).Pairwise (Apart places)
  ok : ∀ f ∈ fs, ∀ P, f.s.ref = some P → f.s.width = 4 ∧ PartOk P f.sz f.Q
  wid : ∀ f ∈ fs, 0 < f.s.width ∧ f.s.width ≤ 8
  num : ∀ f ∈ fs, f.s.num < 18446744073709551616
  len : fs.length ≤ 100

theorem TabGood.part {fs : List SlotQ} {places : List Nat} {size : Nat} (h : TabGood fs places size) : PartOk (tableB (fs.map SlotQ.s)) (12 + 2 * places.length + size + szSum fs) (TabQ size places fs) :=
  table_ok fs places size h.pl h.most h.few h.s4 h.s6 h.ps h.lo h.fit h.ap h.ok

/-- What all nodes have, as a slot. -/
def baseQ : SlotQ := ⟨⟨0, 4, 0, some baseB⟩, 64, TabQ 8 [4] baseFs⟩

theorem one_all {q : SlotQ} {p : SlotQ → Prop} (h : p q) : ∀ f ∈ [q], p f := by
  intro f hf
  rw [List.mem_singleton] at hf
  rw [hf]
  exact h
theorem two_all {q r : SlotQ} {p : SlotQ → Prop} (h : p q) (h2 : p r) : ∀ f ∈ [q, r], p f := by
  intro f hf
  rcases List.mem_cons.1 hf with rfl | hf
  · exact h
  · rw [List.mem_singleton] at hf
    rw [hf]
    exact h2

theorem text_part (i : Nat) (t : ByteArray) (ht : t.size < 1000000) (P : List UInt8 → List UInt8 × Nat) (hP : (textQ i t).s.ref = some P) : (textQ i t).s.width = 4 ∧ PartOk P (textQ i t).sz (textQ i t).Q := by
  obtain rfl : textB t.data.toList = P := by
    unfold textQ at hP
    exact Option.some.inj hP
  exact ⟨rfl, text_ok t.data.toList ht⟩
theorem base_part (P : List UInt8 → List UInt8 × Nat) (hP : baseQ.s.ref = some P) : baseQ.s.width = 4 ∧ PartOk P baseQ.sz baseQ.Q := by
  obtain rfl : baseB = P := by
    unfold baseQ at hP
    exact Option.some.inj hP
  exact ⟨rfl, base_ok⟩

theorem good_text1 (t : ByteArray) (ht : t.size < 1000000) : TabGood [textQ 1 t] [0, 4] 8 :=
  ⟨by simp [layout, most1, placeOne, alignUp, textQ, baseQ, numQ], by simp [most1, textQ, baseQ, numQ], by decide, by decide, by decide, by decide, one_all (by show 4 ≤ 4; omega), one_all (by show 4 + 4 ≤ 8; omega), by simp, one_all (text_part 1 t ht), one_all (by show 0 < 4 ∧ 4 ≤ 8; omega), one_all (by show 0 < 18446744073709551616; omega), by simp⟩
theorem good_text2 (t : ByteArray) (ht : t.size < 1000000) : TabGood [textQ 1 t, baseQ] [8, 4] 12 :=
  ⟨by simp [layout, most1, placeOne, alignUp, textQ, baseQ, numQ], by simp [most1, textQ, baseQ, numQ], by decide, by decide, by decide, by decide, two_all (by show 4 ≤ 4; omega) (by show 4 ≤ 8; omega), two_all (by show 4 + 4 ≤ 12; omega) (by show 8 + 4 ≤ 12; omega), by
    simp only [List.map_cons, List.map_nil, List.pairwise_cons]
    refine ⟨fun b hb => ?_, ⟨fun b hb => by simp at hb, List.Pairwise.nil⟩⟩
    rw [List.mem_singleton] at hb; rw [hb]; left; show 4 + 4 ≤ 8; omega, two_all (text_part 1 t ht) base_part, two_all (by show 0 < 4 ∧ 4 ≤ 8; omega) (by show 0 < 4 ∧ 4 ≤ 8; omega), two_all (by show 0 < 18446744073709551616; omega) (by show 0 < 18446744073709551616; omega), by simp⟩
theorem good_num1 (u : Nat) (hu : u < 18446744073709551616) : TabGood [numQ 1 8 u] [0, 8] 16 :=
  ⟨by simp [layout, most1, placeOne, alignUp, textQ, baseQ, numQ], by simp [most1, textQ, baseQ, numQ], by decide, by decide, by decide, by decide, one_all (by show 4 ≤ 8; omega), one_all (by show 8 + 8 ≤ 16; omega), by simp, one_all (fun P hP => by cases hP), one_all (by show 0 < 8 ∧ 8 ≤ 8; omega), one_all hu, by simp⟩
theorem good_num2 (u : Nat) (hu : u < 18446744073709551616) : TabGood [numQ 1 8 u, baseQ] [16, 8] 20 :=
  ⟨by simp [layout, most1, placeOne, alignUp, textQ, baseQ, numQ], by simp [most1, textQ, baseQ, numQ], by decide, by decide, by decide, by decide, two_all (by show 4 ≤ 8; omega) (by show 4 ≤ 16; omega), two_all (by show 8 + 8 ≤ 20; omega) (by show 16 + 4 ≤ 20; omega), by
    simp only [List.map_cons, List.map_nil, List.pairwise_cons]
    refine ⟨fun b hb => ?_, ⟨fun b hb => by simp at hb, List.Pairwise.nil⟩⟩
    rw [List.mem_singleton] at hb; rw [hb]; left; show 8 + 8 ≤ 16; omega, two_all (fun P hP => by cases hP) base_part, two_all (by show 0 < 8 ∧ 8 ≤ 8; omega) (by show 0 < 4 ∧ 4 ≤ 8; omega), two_all hu (by show 0 < 18446744073709551616; omega), by simp⟩

set_option maxHeartbeats 4000000 in
set_option maxRecDepth 100000 in
theorem node_plain (M : Nat) (out : List UInt8) (q : SlotQ) (places : List Nat) (size : Nat) (hg : TabGood [q] places size) (k : Int) (t m : ByteArray) (u : Int) (kids : Value) (hkids : ∃ a n c, kids = .slice a n c) (w : World) (h : Mk M false out w)
    (hs : ∀ W, Mk M false out W → Calls Tryz.prog 65 #[.pointer (some ⟨M, 0, none⟩), .agg #[.int .i64 k, .string t, .string m, .int .u64 u, kids]] W (OneSlot M false q W))
    (hout : out.length + (12 + 2 * places.length + size + szSum [q]) < 900000000) :
    Calls Tryz.prog 22 #[.pointer (some ⟨M, 0, none⟩), .agg #[.int .i64 k, .string t, .string m, .int .u64 u, kids]] w (AtPost M false (tableB [q.s] out).1 (tableB [q.s] out).2 w) := by
  obtain ⟨a, n, c, rfl⟩ := hkids
  have hM := h.lt
  have hb0 := (Below.refl w.heap.size w).alloc (Nat.le_refl _) (.cells #[.int .i64 k, .string t, .string m, .int .u64 u, .slice a n c] 25)
  have HB0 := Lib.hid hb0
  have HS := Lib.hid (hs _ (h.below hb0))
  have H := Lib.hid h
  have HG := Lib.hid hg
  clear hs h hb0 hg
  go_enter Tryz.func22, Tryz.ntmps22
  go_wp2_with (go_at_call 65; with_reducible refine HS.out.mono ?_)
  rintro e w2 ⟨B, f, rfl, hrow, hB, hb2, hf⟩
  have hb12 : Below w.heap.size w w2 := HB0.out.trans (hb2.mono HB0.out.size)
  have hm2 : Mk M false out w2 := H.out.below hb12
  obtain ⟨_, _, _, c1, _⟩ := hm2.form
  have hob : MkOther M B w2 := MkAt.newer (w' := w2) H.out (Nat.le_trans HB0.out.size hB) (hb12.cell (p := ⟨M, 0, none⟩) hM)
  have hmv := moves_below hM hb12
  have HT : Hid (Calls Tryz.prog 67 #[.pointer (some ⟨M, 0, none⟩), .slice (some ⟨B, 0, none⟩) 1 1] w2 fun e w' => e = .returned (.int .i64 (tableB [q.s] out).2) ∧ Mk M false (tableB [q.s] out).1 w' ∧ Moves M w w') := Lib.hid (by
    have g := HG.out
    refine (table_any [q] places size g.pl g.most g.few g.s4 g.s6 g.ps g.lo g.fit g.ap g.ok g.wid g.num g.len M false out B 0 1 (fun _ => f) _ hm2 hob ⟨(Array.getElem?_eq_some_iff.1 hrow).1, fun k hk => ?_⟩ (fun k hk => ?_) hout).mono ?_
    · have hk2 : k < 1 := hk
      match k, hk2 with
      | 0, _ => refine ⟨?_, ?_, ?_, ?_⟩ <;> (rw [Lib.cell_of_heap hrow]; rfl)
    · have hk2 : k < 1 := hk
      match k, hk2 with
      | 0, _ => exact hf
    · rintro e w' ⟨h1, h2, h3⟩
      exact ⟨h1, h2, hmv.trans h3⟩)
  clear hrow hB hb2 hf hb12 hm2 hob hmv
  go_wp2_with (go_at_call 67; with_reducible refine HT.out.mono ?_)
  rintro e w4 ⟨rfl, h1, h2⟩
  go_wp2
  go_ret
  exact ⟨rfl, h1, h2⟩

theorem FnOk.go {M : Nat} {base : Bool} {w w' : World} {f : Value} {s : SlotP} {sz : Nat} (h : FnOk M base w f s sz) (hm : Moves M w w') : FnOk M base w' f s sz := by
  unfold FnOk at h ⊢
  split at h
  · exact h
  · obtain ⟨fid, caps, e, hc, hcall⟩ := h
    exact ⟨fid, caps, e, hc, fun W out h1 h2 h3 => hcall W out (hm.trans h1) h2 h3⟩

theorem slot_info : (Tryz.prog.info? 267).map (fun i => (i.zero, i.size, i.bytes)) = some (some (.agg #[.int .i64 0, .int .i64 0, .int .u64 0, .nilFunc]), 4, 32) := by kernel_rfl

set_option maxHeartbeats 4000000 in
set_option maxRecDepth 100000 in
theorem node_base (M : Nat) (out : List UInt8) (q : SlotQ) (places : List Nat) (size : Nat) (hg : TabGood [q, baseQ] places size) (k : Int) (hk40 : (k == 40) = false) (t m : ByteArray) (u : Int) (kids : Value) (hkids : ∃ a n c, kids = .slice a n c) (w : World) (h : Mk M true out w)
    (hs : ∀ W, Mk M true out W → Calls Tryz.prog 65 #[.pointer (some ⟨M, 0, none⟩), .agg #[.int .i64 k, .string t, .string m, .int .u64 u, kids]] W (OneSlot M true q W))
    (hout : out.length + (12 + 2 * places.length + size + szSum [q, baseQ]) < 900000000) :
    Calls Tryz.prog 22 #[.pointer (some ⟨M, 0, none⟩), .agg #[.int .i64 k, .string t, .string m, .int .u64 u, kids]] w (AtPost M true (tableB [q.s, baseQ.s] out).1 (tableB [q.s, baseQ.s] out).2 w) := by
  obtain ⟨a, n, c, rfl⟩ := hkids
  have hM := h.lt
  have hb0 := (Below.refl w.heap.size w).alloc (Nat.le_refl _) (.cells #[.int .i64 k, .string t, .string m, .int .u64 u, .slice a n c] 25)
  have HB0 := Lib.hid hb0
  have HS := Lib.hid (hs _ (h.below hb0))
  have H := Lib.hid h
  have HG := Lib.hid hg
  clear hs h hb0 hg
  go_enter Tryz.func22, Tryz.ntmps22
  go_wp2_with (go_at_call 65; with_reducible refine HS.out.mono ?_)
  rintro e w2 ⟨B, f, rfl, hrow, hB, hb2, hf⟩
  have hb12 : Below w.heap.size w w2 := HB0.out.trans (hb2.mono HB0.out.size)
  have hm2 : Mk M true out w2 := H.out.below hb12
  obtain ⟨_, _, _, c1, _⟩ := hm2.form
  have hob : MkOther M B w2 := MkAt.newer (w' := w2) H.out (Nat.le_trans HB0.out.size hB) (hb12.cell (p := ⟨M, 0, none⟩) hM)
  obtain ⟨i0, hi0, hz0, hz1, hz2⟩ := info_parts slot_info
  have hf1 : f.oneCell' = true := by
    unfold FnOk at hf
    split at hf
    · rw [hf]; rfl
    · obtain ⟨fid, caps, e, _⟩ := hf
      rw [e]; rfl
  have HOB := Lib.hid hob
  have HROW := Lib.hid hrow
  have HF := Lib.hid hf
  have HM2 := Lib.hid hm2
  have HB12 := Lib.hid hb12
  have hMl := hm2.lt
  have hbox : w2.cell? ⟨w.heap.size, 0, none⟩ = some (.int .i64 k) := (hb2.cell (p := ⟨w.heap.size, 0, none⟩) (by show w.heap.size < (w.alloc _).heap.size; rw [alloc_size]; omega)).trans (by rw [Lib.cell_of_heap (heap_alloc_new w _)]; rfl)
  clear hrow hB hb2 hf hb12 hm2 hob
  go_wp2_with (at_builtin; refine wpList_append_grows _ rfl _ _ 262 rfl 267 i0 _ 4 32 Tryz.underlying262 hi0 hz0 hz1 hz2 rfl (by decide) (some ⟨B, 0, none⟩) 1 1 [.int .i64 q.s.idx, .int .i64 q.s.width, .int .u64 q.s.num, f] rfl (by simp) rfl ?c1 ⟨w2.heap.size, 0, none⟩ 1 1 [.int .i64 0, .int .i64 4, .int .u64 0, .func (.func 66) #[] #[]] rfl rfl ?c2 ?c3 (by decide) (by decide) (by decide) ?_)
  case c1 =>
    intro b hb j x hx
    cases hb
    exact World.news_of_block (cs := #[.int .i64 q.s.idx, .int .i64 q.s.width, .int .u64 q.s.num, f]) (t := 267) (fr := (0, 0)) ((Below.heap_alloc w2 _ _ (Array.getElem?_eq_some_iff.1 HROW.out).1).trans HROW.out) j x hx
  case c2 => exact World.news_of_block (cs := #[.int .i64 0, .int .i64 4, .int .u64 0, .func (.func 66) #[] #[]]) (t := 267) (fr := (0, 0)) (heap_alloc_new w2 _)
  case c3 => intro x hx; simp at hx; rcases hx with rfl | rfl | rfl | rfl <;> rfl
  intro v' w5 hown hg5
  have hal := (Below.refl w2.heap.size w2).alloc (Nat.le_refl _) (.cells #[.int .i64 0, .int .i64 4, .int .u64 0, .func (.func 66) #[] #[]] 267)
  have hb5 : Below w2.heap.size w2 w5 := hal.grown hg5 hal.size (by simp)
  obtain ⟨g, cp, rfl, hg1, hg2⟩ := hown.form (by decide)
  have hg1' : w2.heap.size ≤ g := by omega
  have hm5 : Mk M true out w5 := HM2.out.below hb5
  have hob5 : MkOther M g w5 := MkAt.newer (w' := w5) HM2.out hg1' (hb5.cell (p := ⟨M, 0, none⟩) hMl)
  have hmv5 := (moves_below hM HB12.out).trans (moves_below hMl hb5)
  have hf5 := HF.out.go (moves_below hMl hb5)
  have hcell := fun (j : Nat) (x : Value) (hx : ([.int .i64 q.s.idx, .int .i64 q.s.width, .int .u64 q.s.num, f] ++ [.int .i64 0, .int .i64 4, .int .u64 0, .func (.func 66) #[] #[]] : List Value)[j]? = some x) => (show w5.cell? ⟨g, 0 + j, none⟩ = some x from by have := hown.cells (g := g) rfl j x hx; rwa [show (⟨g, 0, none⟩ : Addr).add j = ⟨g, 0 + j, none⟩ by unfold Addr.add; split <;> simp_all] at this)
  have HT : Hid (Calls Tryz.prog 67 #[.pointer (some ⟨M, 0, none⟩), .slice (some ⟨g, 0, none⟩) (1 + 1) cp] w5 fun e w' => e = .returned (.int .i64 (tableB [q.s, baseQ.s] out).2) ∧ Mk M true (tableB [q.s, baseQ.s] out).1 w' ∧ Moves M w w') := Lib.hid (by
    have gg := HG.out
    refine (table_any [q, baseQ] places size gg.pl gg.most gg.few gg.s4 gg.s6 gg.ps gg.lo gg.fit gg.ap gg.ok gg.wid gg.num gg.len M true out g 0 cp (fun k => if k = 0 then f else .func (.func 66) #[] #[]) _ hm5 hob5 ⟨hg2, fun k hk => ?_⟩ (fun k hk => ?_) hout).mono ?_
    · have hk2 : k < 2 := hk
      match k, hk2 with
      | 0, _ => exact ⟨hcell 0 _ rfl, hcell 1 _ rfl, hcell 2 _ rfl, hcell 3 _ rfl⟩
      | 1, _ => exact ⟨hcell 4 _ rfl, hcell 5 _ rfl, hcell 6 _ rfl, hcell 7 _ rfl⟩
    · have hk2 : k < 2 := hk
      match k, hk2 with
      | 0, _ => exact hf5
      | 1, _ => exact ⟨_, _, rfl, fun args W => Tryz.call66 args W, fun W o1 _ h1 h2 => base_ref M true o1 h2 W h1⟩
    · rintro e w' ⟨h1, h2, h3⟩
      exact ⟨h1, h2, hmv5.trans h3⟩)
  clear hown hg5 hal hb5 hg1 hg2 hg1' hm5 hob5 hmv5 hf5 hcell
  go_wp2_with (go_at_call 67; with_reducible refine HT.out.mono ?_)
  rintro e w6 ⟨rfl, h1, h2⟩
  go_wp2
  go_ret
  exact ⟨rfl, h1, h2⟩

/-- What a buffer that is made is: its bytes stand in new blocks. -/
def BufPost (bs : List UInt8) (w : World) (e : Ending) (w' : World) : Prop :=
  ∃ g c, e = .returned (.slice (some ⟨g, 0, none⟩) bs.length c) ∧ BytesIn w' ⟨g, 0, none⟩ bs ∧ Below w.heap.size w w' ∧ bs.length ≤ c ∧ g < w'.heap.size

theorem buf_start (w : World) (ob : Obj) (base : Bool) :
    Mk (w.heap.size + 1 + 1) base (List.replicate 4 0) (((w.alloc ob).alloc (.cells #[.int .u8 0, .int .u8 0, .int .u8 0, .int .u8 0] 5)).alloc (.cells #[.slice (some ⟨w.heap.size + 1, 0, none⟩) 4 4, .bool base] 55)) ∧
    Below w.heap.size w (((w.alloc ob).alloc (.cells #[.int .u8 0, .int .u8 0, .int .u8 0, .int .u8 0] 5)).alloc (.cells #[.slice (some ⟨w.heap.size + 1, 0, none⟩) 4 4, .bool base] 55)) ∧
    ∀ r, r < w.heap.size → MkOther (w.heap.size + 1 + 1) r (((w.alloc ob).alloc (.cells #[.int .u8 0, .int .u8 0, .int .u8 0, .int .u8 0] 5)).alloc (.cells #[.slice (some ⟨w.heap.size + 1, 0, none⟩) 4 4, .bool base] 55)) := by
  have b0 := (Below.refl w.heap.size w).alloc (Nat.le_refl _) ob
  have b1 := b0.alloc b0.size (.cells #[.int .u8 0, .int .u8 0, .int .u8 0, .int .u8 0] 5)
  have b2 := b1.alloc b1.size (.cells #[.slice (some ⟨w.heap.size + 1, 0, none⟩) 4 4, .bool base] 55)
  have e0 : (w.alloc ob).heap.size = w.heap.size + 1 := alloc_size _ _
  have e1 : ((w.alloc ob).alloc (.cells #[.int .u8 0, .int .u8 0, .int .u8 0, .int .u8 0] 5)).heap.size = w.heap.size + 1 + 1 := by rw [alloc_size, e0]
  have r1 := heap_alloc_new (w.alloc ob) (.cells #[.int .u8 0, .int .u8 0, .int .u8 0, .int .u8 0] 5)
  have r2 := heap_alloc_new ((w.alloc ob).alloc (.cells #[.int .u8 0, .int .u8 0, .int .u8 0, .int .u8 0] 5)) (.cells #[.slice (some ⟨w.heap.size + 1, 0, none⟩) 4 4, .bool base] 55)
  have r3 := (Below.heap_alloc _ (.cells #[.slice (some ⟨w.heap.size + 1, 0, none⟩) 4 4, .bool base] 55) _ (Array.getElem?_eq_some_iff.1 r1).1).trans r1
  rw [e1] at r2
  rw [e0] at r3
  refine ⟨⟨_, r2, ⟨by simp [Lib.byteCells], .inr ⟨w.heap.size + 1, 4, _, rfl, Nat.zero_le _, r3, by decide, by decide, rfl, rfl⟩⟩, ?_⟩, b2, fun r hr => ⟨by omega, fun v hv => ?_⟩⟩
  · show some (w.heap.size + 1) ≠ some (w.heap.size + 1 + 1)
    intro e
    injection e with e
    omega
  · rw [Lib.cell_of_heap r2] at hv
    obtain rfl : Value.slice (some ⟨w.heap.size + 1, 0, none⟩) 4 4 = v := by simpa using hv
    show some (w.heap.size + 1) ≠ some r
    intro e
    injection e with e
    omega

theorem below_moves {M : Nat} {w W w' : World} (hb : Below w.heap.size w W) (ho : ∀ r, r < w.heap.size → MkOther M r W) (hm : Moves M W w') : Below w.heap.size w w' :=
  ⟨hm.os.trans hb.os, hm.tape.trans hb.tape, hm.output.trans hb.output, Nat.le_trans hb.size hm.size, fun r hr => (hm.keep r (Nat.lt_of_lt_of_le hr hb.size) (ho r hr)).1.trans (hb.block r hr)⟩

set_option maxHeartbeats 4000000 in
set_option maxRecDepth 100000 in
theorem buffer_any (base : Bool) (P : List UInt8 → List UInt8 × Nat) (sz : Nat) (Q : List UInt8 → Nat → Prop) (hP : PartOk P sz Q) (hsz : sz < 800000000) (k : Int) (t m : ByteArray) (u : Int) (kids : Value) (hkids : ∃ a n c, kids = .slice a n c) (w : World)
    (hn : ∀ M W, Mk M base (List.replicate 4 0) W → Below w.heap.size w W → (∀ r, r < w.heap.size → MkOther M r W) → Calls Tryz.prog 22 #[.pointer (some ⟨M, 0, none⟩), .agg #[.int .i64 k, .string t, .string m, .int .u64 u, kids]] W (AtPost M base (P (List.replicate 4 0)).1 (P (List.replicate 4 0)).2 W)) :
    Calls Tryz.prog 10 #[.agg #[.int .i64 k, .string t, .string m, .int .u64 u, kids], .bool base] w (BufPost (wholeB P) w) := by
  obtain ⟨a, n, c, rfl⟩ := hkids
  obtain ⟨h1, h2, h3, h4, h5, -⟩ := hP (List.replicate 4 0) (by simp; omega)
  simp only [List.length_replicate] at h1 h2 h4
  have hmc : madeCells #[.int .u8 0] 4 = #[.int .u8 0, .int .u8 0, .int .u8 0, .int .u8 0] := by
    apply Array.ext
    · simp [size_madeCells]
    · intro i h1 h2
      simp [madeCells, Nat.mod_one]
      rw [size_madeCells] at h1
      match i, h1 with
      | 0, _ => rfl
      | 1, _ => rfl
      | 2, _ => rfl
      | 3, _ => rfl
  have hmk : ∀ W : World, (Instr.makeSlice 30 (.int .i64 4) (.int .i64 4)).run Tryz.prog W = .ok (.slice (some ⟨W.heap.size, 0, none⟩) 4 4) (W.alloc (.cells #[.int .u8 0, .int .u8 0, .int .u8 0, .int .u8 0] 5)) := by
    intro W
    obtain ⟨i0, hi, hz0, hz1, hz2⟩ := byte_info
    have := run_make W 30 5 i0 _ Tryz.underlying30 hi hz0 .i64 .i64 4 4 (by omega) (by omega) (by rw [hz2]; omega) (by omega)
    rw [this, hz1, show (Value.int .u8 0).cells = #[.int .u8 0] from rfl, show Int.toNat 4 = 4 from rfl, Nat.mul_one, hmc]
  have HWB : Hid (wholeB P = padTo 8 0 (patch (P (List.replicate 4 0)).1 0 (leB (P (List.replicate 4 0)).2 4))) := Lib.hid rfl
  generalize (P (List.replicate 4 0)).1 = O1 at *
  generalize (P (List.replicate 4 0)).2 = AT at *
  generalize wholeB P = WB at *
  go_enter Tryz.func10, Tryz.ntmps10
  obtain ⟨s0, s1, s2⟩ := buf_start w (.cells #[.int .i64 k, .string t, .string m, .int .u64 u, .slice a n c] 25) base
  have HN := Lib.hid (hn _ _ s0 s1 s2)
  have S1 := Lib.hid s1
  have S2 := Lib.hid s2
  clear s0 s1 s2 hn hP
  go_wp2_with (go_at_call 22; with_reducible refine HN.out.mono ?_)
  rintro e w2 ⟨rfl, hm2, hmv2⟩
  have HB2 := Lib.hid (below_moves S1.out S2.out hmv2)
  have HS2 := Lib.hid (fun r (hr : r < w.heap.size) => (hmv2.keep r (Nat.lt_of_lt_of_le hr S1.out.size) (S2.out r hr)).2)
  clear hmv2 S1 S2 HN hmk hmc
  obtain ⟨L1, hL1⟩ : ∃ L1, L1 = O1.length := ⟨_, rfl⟩
  rw [← hL1] at h5 h1 h2
  have HL1 : Hid (O1.length = L1) := Lib.hid hL1.symm
  clear hL1
  generalize hMd : w.heap.size + 1 + 1 = M at *
  have HMd := Lib.hid hMd
  clear hMd
  obtain ⟨ad, cp, hr2⟩ := Mk.row hm2
  rw [HL1.out] at hr2
  obtain ⟨g, rfl, hc1, hc2⟩ := hr2.ptr HL1.out (by omega)
  have hwr1 := wrap_nat AT (AT : Int) rfl (by omega)
  have HLI : Hid (∀ W, Calls Tryz.prog 23 #[.int .u64 (AT : Int), .int .i64 4] W (LitPost2 AT 4 W)) := little_u AT 4 (AT : Int) rfl (by decide) (by decide) (by omega)
  have c0 := hr2.c0
  have c0d : w2.drew.cell? ⟨M, 0, none⟩ = _ := c0
  have f0 := hr2.f0 0
  have hM2 := hr2.lt
  have HR2 := Lib.hid hr2
  clear hr2 hm2
  go_upto_region 3 with fail
  go_region_held3 (fun w' => w'.cell? ⟨M, 0, none⟩ = some (.slice (some ⟨g, 0, none⟩) L1 cp)) (first | go_keep | exact c05 | exact hr6.c0) (first
    | (refine step_mk_copy (by rfl) _ _ (by rfl) M base O1 L1 HL1.out g cp HR5.out 0 L1 cp (by rfl) (leB AT 4) 4 (leB_length 4 _) (by omega) (by omega) ⟨g5, 0, none⟩ c5 (by rfl) HN5.out 4 (by rfl) ?_; intro w6 hr6 hmv6)
    | (go_at_call 23; ((with_reducible refine (HLI.out _).mono ?_)); rintro e w5 ⟨g5, c5, rfl, hn5, hb5⟩; have HN5 := Lib.hid hn5; have HR5 := Lib.hid (HR2.out.drew.below hb5); have c05 := HR5.out.c0; have f05 := HR5.out.f0 0))
  all_goals
    have HMV6 := Lib.hid (hmv6 w2.drew ((Moves.refl M w2.drew).below hb5 hM2))
    have HM6 := Lib.hid hr6.mk
    have HPD : Hid (Calls Tryz.prog 24 #[.pointer (some ⟨M, 0, none⟩), .int .i64 8, .int .i64 0] w6 (PadPost M base 8 0 (patch O1 0 (leB AT 4)) w6)) := Lib.hid (pad_any M base 8 0 (patch O1 0 (leB AT 4)) (by decide) (by decide) (by decide) (by rw [patch_length _ _ _ (by rw [leB_length, HL1.out]; omega), HL1.out]; omega) w6 HM6.out)
    clear hr6 hmv6 HN5 HR5 hn5 hb5 c05 f05
    go_wp2_with fail
    ((with_reducible refine HPD.out.mono ?_))
    rintro e w7 ⟨rfl, hm7, hmv7⟩
    rw [← HWB.out] at hm7
    obtain ⟨ad7, cp7, hr7⟩ := Mk.row hm7
    have hwl : 0 < WB.length := by
      rw [HWB.out]
      have h9 := (padTo_spec 8 0 (by decide) (patch O1 0 (leB AT 4))).1
      rw [patch_length _ _ _ (by rw [leB_length, HL1.out]; omega), HL1.out] at h9
      omega
    obtain ⟨g7, rfl, hd1, hd2⟩ := hr7.ptr rfl hwl
    have d0 := hr7.c0
    have HB7 := Lib.hid (below_moves (W := w2.drew) HB2.out.drew HS2.out (HMV6.out.trans hmv7))
    have HBY := Lib.hid (hr7.2.1.cells (g := g7) rfl)
    have hg7 : g7 < w7.heap.size := (hr7.2.1.lt g7 rfl).2
    clear hmv7 hr7 hm7
    go_wp2
    go_ret
    exact ⟨g7, cp7, rfl, HBY.out, HB7.out, hd1, hg7⟩

/-- The cells of slots, each with what it refers to. -/
def slotCells (l : List (SlotQ × Value)) : List Value := l.flatMap fun p => [.int .i64 p.1.s.idx, .int .i64 p.1.s.width, .int .u64 p.1.s.num, p.2]

theorem slotCells_length (l : List (SlotQ × Value)) : (slotCells l).length = l.length * 4 := by
  induction l with
  | nil => rfl
  | cons p l ih =>
    unfold slotCells at ih ⊢
    rw [List.flatMap_cons, List.length_append, ih, List.length_cons]
    show 4 + l.length * 4 = (l.length + 1) * 4
    omega

theorem slotCells_append (a b : List (SlotQ × Value)) : slotCells (a ++ b) = slotCells a ++ slotCells b := by simp [slotCells]

theorem slotCells_at (l : List (SlotQ × Value)) (k j : Nat) (hk : k < l.length) (hj : j < 4) :
    (slotCells l)[k * 4 + j]? = [Value.int .i64 l[k].1.s.idx, .int .i64 l[k].1.s.width, .int .u64 l[k].1.s.num, l[k].2][j]? := by
  induction l generalizing k with
  | nil => exact absurd hk (Nat.not_lt_zero _)
  | cons p l ih =>
    unfold slotCells
    rw [List.flatMap_cons]
    cases k with
    | zero =>
      rw [List.getElem?_append_left (by show 0 * 4 + j < 4; omega), Nat.zero_mul, Nat.zero_add]
      rfl
    | succ k =>
      rw [List.getElem?_append_right (by show 4 ≤ (k + 1) * 4 + j; omega)]
      have h := ih k (by simpa using hk)
      unfold slotCells at h
      rw [show (k + 1) * 4 + j - [Value.int .i64 p.1.s.idx, .int .i64 p.1.s.width, .int .u64 p.1.s.num, p.2].length = k * 4 + j by show (k + 1) * 4 + j - 4 = k * 4 + j; omega, h]
      rfl

/-- What a slot refers to is written in every world in which the blocks that D takes stand as they do here. -/
def FnD (M : Nat) (base : Bool) (D : Nat → Prop) (w : World) (f : Value) (s : SlotP) (sz : Nat) : Prop := ∀ W, (∀ r, D r → W.heap[r]? = w.heap[r]? ∧ MkOther M r W) → FnOk M base W f s sz

/-- Slots in a row of the call's own; what they refer to lies elsewhere. -/
def SlotsPost (M : Nat) (base : Bool) (fs : List SlotQ) (w : World) (e : Ending) (w' : World) : Prop :=
  ∃ (v : Value) (l : List (SlotQ × Value)) (D : Nat → Prop), e = .returned v ∧ l.map Prod.fst = fs ∧ w'.ownsRow w.heap.size 267 4 v l.length (slotCells l) ∧ Below w.heap.size w w' ∧
    (∀ r, D r → r < w'.heap.size ∧ MkOther M r w' ∧ v.ownBlock ≠ some r) ∧ ∀ p ∈ l, FnD M base D w' p.2 p.1.s p.1.sz

theorem FnOk.one {M : Nat} {base : Bool} {w : World} {f : Value} {s : SlotP} {sz : Nat} (h : FnOk M base w f s sz) : f.oneCell' = true := by
  unfold FnOk at h
  split at h
  · rw [h]; rfl
  · obtain ⟨fid, caps, e, _⟩ := h
    rw [e]; rfl

theorem slotCells_one {M : Nat} {base : Bool} {w : World} {l : List (SlotQ × Value)} (h : ∀ p ∈ l, FnOk M base w p.2 p.1.s p.1.sz) : ∀ u ∈ slotCells l, u.oneCell' = true := by
  intro u hu
  unfold slotCells at hu
  obtain ⟨p, hp, hu⟩ := List.mem_flatMap.1 hu
  simp only [List.mem_cons, List.mem_nil_iff, or_false] at hu
  rcases hu with rfl | rfl | rfl | rfl
  · rfl
  · rfl
  · rfl
  · exact (h p hp).one

/-- A table over slots in a row. -/
theorem table_row (fs : List SlotQ) (places : List Nat) (size : Nat) (hg : TabGood fs places size) (M : Nat) (base : Bool) (out : List UInt8) (l : List (SlotQ × Value)) (hl : l.map Prod.fst = fs) (hl0 : 0 < l.length) (v : Value) (n0 : Nat) (w : World) (h : Mk M base out w)
    (hown : w.ownsRow n0 267 4 v l.length (slotCells l)) (hB : ∀ r, v.ownBlock = some r → MkOther M r w) (hfn : ∀ p ∈ l, FnOk M base w p.2 p.1.s p.1.sz)
    (hout : out.length + (12 + 2 * places.length + size + szSum fs) < 900000000) :
    Calls Tryz.prog 67 #[.pointer (some ⟨M, 0, none⟩), v] w (AtPost M base (tableB (fs.map SlotQ.s) out).1 (tableB (fs.map SlotQ.s) out).2 w) := by
  subst hl
  obtain ⟨g, cp, rfl, hg1, hg2⟩ := hown.form hl0
  have hcell := fun (j : Nat) (x : Value) (hx : (slotCells l)[j]? = some x) => (show w.cell? ⟨g, 0 + j, none⟩ = some x from by have := hown.cells (g := g) rfl j x hx; rwa [show (⟨g, 0, none⟩ : Addr).add j = ⟨g, 0 + j, none⟩ by unfold Addr.add; split <;> simp_all] at this)
  have hlen : (l.map Prod.fst).length = l.length := List.length_map ..
  have ht := table_any (l.map Prod.fst) places size hg.pl hg.most hg.few hg.s4 hg.s6 hg.ps hg.lo hg.fit hg.ap hg.ok hg.wid hg.num hg.len M base out g 0 cp (fun k => (l.getD k (baseQ, .nilFunc)).2) w h (hB g rfl) ⟨hg2, fun k hk => ?_⟩ (fun k hk => ?_) hout
  · rw [hlen] at ht
    exact ht
  · have hk2 : k < l.length := by simpa using hk
    have e1 : (List.map SlotQ.s (List.map Prod.fst l))[k] = l[k].1.s := by simp
    have e2 : l.getD k (baseQ, .nilFunc) = l[k] := by simp [List.getD, hk2]
    rw [e1]
    simp only [e2]
    refine ⟨?_, ?_, ?_, ?_⟩
    · exact hcell (k * 4) _ (slotCells_at l k 0 hk2 (by decide))
    · exact hcell (k * 4 + 1) _ (slotCells_at l k 1 hk2 (by decide))
    · exact hcell (k * 4 + 2) _ (slotCells_at l k 2 hk2 (by decide))
    · exact hcell (k * 4 + 3) _ (slotCells_at l k 3 hk2 (by decide))
  · have hk2 : k < l.length := by simpa using hk
    have e1 : (List.map Prod.fst l)[k] = l[k].1 := by simp
    have e2 : l.getD k (baseQ, .nilFunc) = l[k] := by simp [List.getD, hk2]
    rw [e1]
    simp only [e2]
    exact hfn _ (List.getElem_mem hk2)

set_option maxHeartbeats 4000000 in
set_option maxRecDepth 100000 in
theorem node_many (M : Nat) (out : List UInt8) (fs : List SlotQ) (h0 : 0 < fs.length) (places : List Nat) (size : Nat) (hg : TabGood fs places size) (k : Int) (t m : ByteArray) (u : Int) (kids : Value) (hkids : ∃ a n c, kids = .slice a n c) (w : World) (h : Mk M false out w)
    (hs : ∀ W, Mk M false out W → Below w.heap.size w W → Calls Tryz.prog 65 #[.pointer (some ⟨M, 0, none⟩), .agg #[.int .i64 k, .string t, .string m, .int .u64 u, kids]] W (SlotsPost M false fs W))
    (hout : out.length + (12 + 2 * places.length + size + szSum fs) < 900000000) :
    Calls Tryz.prog 22 #[.pointer (some ⟨M, 0, none⟩), .agg #[.int .i64 k, .string t, .string m, .int .u64 u, kids]] w (AtPost M false (tableB (fs.map SlotQ.s) out).1 (tableB (fs.map SlotQ.s) out).2 w) := by
  obtain ⟨a, n, c, rfl⟩ := hkids
  have hM := h.lt
  have hb0 := (Below.refl w.heap.size w).alloc (Nat.le_refl _) (.cells #[.int .i64 k, .string t, .string m, .int .u64 u, .slice a n c] 25)
  have HB0 := Lib.hid hb0
  have HS := Lib.hid (hs _ (h.below hb0) hb0)
  have H := Lib.hid h
  have HG := Lib.hid hg
  clear hs h hb0 hg
  go_enter Tryz.func22, Tryz.ntmps22
  go_wp2_with (go_at_call 65; with_reducible refine HS.out.mono ?_)
  rintro e w2 ⟨v, l, D, rfl, hl, hown, hb2, hD, hfd⟩
  have hf : ∀ p ∈ l, FnOk M false w2 p.2 p.1.s p.1.sz := fun p hp => hfd p hp w2 fun r hr => ⟨rfl, (hD r hr).2.1⟩
  clear hD hfd
  have hb12 : Below w.heap.size w w2 := HB0.out.trans (hb2.mono HB0.out.size)
  have hm2 : Mk M false out w2 := H.out.below hb12
  obtain ⟨_, _, _, c1, _⟩ := hm2.form
  have hl0 : 0 < l.length := by
    have e := congrArg List.length hl
    rw [List.length_map] at e
    omega
  have hob : ∀ r, v.ownBlock = some r → MkOther M r w2 := fun r hr => MkAt.newer (w' := w2) H.out (Nat.le_trans HB0.out.size (hown.lt r hr).1) (hb12.cell (p := ⟨M, 0, none⟩) hM)
  have hmv := moves_below hM hb12
  have HT : Hid (Calls Tryz.prog 67 #[.pointer (some ⟨M, 0, none⟩), v] w2 fun e w' => e = .returned (.int .i64 (tableB (fs.map SlotQ.s) out).2) ∧ Mk M false (tableB (fs.map SlotQ.s) out).1 w' ∧ Moves M w w') := Lib.hid (by
    refine (table_row fs places size HG.out M false out l hl hl0 v _ w2 hm2 hown hob hf hout).mono ?_
    rintro e w' ⟨h1, h2, h3⟩
    exact ⟨h1, h2, hmv.trans h3⟩)
  clear hown hb2 hf hb12 hm2 hob hmv
  go_wp2_with (go_at_call 67; with_reducible refine HT.out.mono ?_)
  rintro e w4 ⟨rfl, h1, h2⟩
  go_wp2
  go_ret
  exact ⟨rfl, h1, h2⟩

set_option maxHeartbeats 4000000 in
set_option maxRecDepth 100000 in
theorem node_many_base (M : Nat) (out : List UInt8) (fs : List SlotQ) (places : List Nat) (size : Nat) (hg : TabGood (fs ++ [baseQ]) places size) (k : Int) (hk40 : (k == 40) = false) (t m : ByteArray) (u : Int) (kids : Value) (hkids : ∃ a n c, kids = .slice a n c) (w : World) (h : Mk M true out w)
    (hs : ∀ W, Mk M true out W → Below w.heap.size w W → Calls Tryz.prog 65 #[.pointer (some ⟨M, 0, none⟩), .agg #[.int .i64 k, .string t, .string m, .int .u64 u, kids]] W (SlotsPost M true fs W))
    (hout : out.length + (12 + 2 * places.length + size + szSum (fs ++ [baseQ])) < 900000000) :
    Calls Tryz.prog 22 #[.pointer (some ⟨M, 0, none⟩), .agg #[.int .i64 k, .string t, .string m, .int .u64 u, kids]] w (AtPost M true (tableB ((fs ++ [baseQ]).map SlotQ.s) out).1 (tableB ((fs ++ [baseQ]).map SlotQ.s) out).2 w) := by
  obtain ⟨a, n, c, rfl⟩ := hkids
  have hM := h.lt
  have hb0 := (Below.refl w.heap.size w).alloc (Nat.le_refl _) (.cells #[.int .i64 k, .string t, .string m, .int .u64 u, .slice a n c] 25)
  have HB0 := Lib.hid hb0
  have HS := Lib.hid (hs _ (h.below hb0) hb0)
  have H := Lib.hid h
  have HG := Lib.hid hg
  have hfl : fs.length + 1 ≤ 100 := by have := hg.len; simpa using this
  clear hs h hb0 hg
  obtain ⟨TB, hTB⟩ : ∃ TB, TB = tableB ((fs ++ [baseQ]).map SlotQ.s) out := ⟨_, rfl⟩
  rw [← hTB]
  have HTB := Lib.hid hTB
  clear hTB
  go_enter Tryz.func22, Tryz.ntmps22
  go_wp2_with (go_at_call 65; with_reducible refine HS.out.mono ?_)
  rintro e w2 ⟨v, l, D, rfl, hl, hown, hb2, hD, hf⟩
  have HD := Lib.hid hD
  clear hD
  have hll : l.length = fs.length := by
    have e := congrArg List.length hl
    rw [List.length_map] at e
    exact e
  have hlm : l.length + 1 ≤ maxLen := by unfold maxLen; omega
  have hlb : (l.length + 1) * 32 ≤ 140737488355328 := by omega
  have hb12 : Below w.heap.size w w2 := HB0.out.trans (hb2.mono HB0.out.size)
  have hm2 : Mk M true out w2 := H.out.below hb12
  obtain ⟨_, _, _, c1, _⟩ := hm2.form
  obtain ⟨i0, hi0, hz0, hz1, hz2⟩ := info_parts slot_info
  have HOW := Lib.hid hown
  have HLM := Lib.hid hlm
  have HLB := Lib.hid hlb
  have HF := Lib.hid hf
  have HM2 := Lib.hid hm2
  have HB12 := Lib.hid hb12
  have HL := Lib.hid hl
  have hMl := hm2.lt
  have hbox : w2.cell? ⟨w.heap.size, 0, none⟩ = some (.int .i64 k) := (hb2.cell (p := ⟨w.heap.size, 0, none⟩) (by show w.heap.size < (w.alloc _).heap.size; rw [alloc_size]; omega)).trans (by rw [Lib.cell_of_heap (heap_alloc_new w _)]; rfl)
  clear hown hb2 hf hb12 hm2 hll hl hlm hlb
  go_wp2_with (at_builtin; refine wpList_append_own2 rfl _ _ 262 rfl (w.heap.size + 1) 267 i0 _ 4 32 Tryz.underlying262 hi0 hz0 hz1 hz2 rfl (by decide) v l.length (slotCells l) rfl ?own ⟨w2.heap.size, 0, none⟩ 1 1 [.int .i64 0, .int .i64 4, .int .u64 0, .func (.func 66) #[] #[]] rfl rfl ?c2 ?c3 HLM.out HLB.out ?c4 ?_)
  case own =>
    have h1 := HOW.out
    rw [alloc_size] at h1
    exact World.ownsRow.kept h1 (grownBy_below ((Below.refl _ w2).alloc (Nat.le_refl _) _)) (hown_or h1)
  case c2 => exact World.news_of_block (cs := #[.int .i64 0, .int .i64 4, .int .u64 0, .func (.func 66) #[] #[]]) (t := 267) (fr := (0, 0)) (heap_alloc_new w2 _)
  case c3 => intro x hx; simp at hx; rcases hx with rfl | rfl | rfl | rfl <;> rfl
  case c4 => exact Nat.le_trans (by have := HOW.out; have h2 := HB12.out.size; rw [alloc_size]; omega) (Nat.le_refl _)
  intro v' w5 hown hg5 hgb
  have hal := (Below.refl w2.heap.size w2).alloc (Nat.le_refl _) (.cells #[.int .i64 0, .int .i64 4, .int .u64 0, .func (.func 66) #[] #[]] 267)
  have hwk : ∀ r, v.ownBlock = some r → w.heap.size ≤ r := fun r hr => by
    have h1 := (HOW.out.lt r hr).1
    rw [alloc_size] at h1
    omega
  have hb5 : Below w.heap.size w w5 := (HB12.out.alloc HB12.out.size _).grown hg5 (HB12.out.alloc HB12.out.size _).size hwk
  have hm5 : Mk M true out w5 := H.out.below hb5
  have hMv : v.ownBlock ≠ some M := fun e => by have := hwk M e; omega
  have hob5 : ∀ r, v'.ownBlock = some r → MkOther M r w5 := fun r hr => MkAt.newer (w' := w5) H.out (by have := (hown.lt r hr).1; omega) (hb5.cell (p := ⟨M, 0, none⟩) hM)
  have hf5 : ∀ p ∈ l ++ [(baseQ, .func (.func 66) #[] #[])], FnOk M true w5 p.2 p.1.s p.1.sz := fun p hp => by
    rcases List.mem_append.1 hp with h1 | h1
    · refine HF.out p h1 w5 fun r hr => ?_
      obtain ⟨d1, d2, d3⟩ := HD.out r hr
      refine ⟨(hg5.block r (Nat.lt_of_lt_of_le d1 hal.size) (fun e => d3 e.symm)).trans (Below.heap_alloc _ _ _ d1), d2.1, fun x hx => d2.2 x ?_⟩
      rw [← hx]
      have e1 : (w2.alloc (.cells #[.int .i64 0, .int .i64 4, .int .u64 0, .func (.func 66) #[] #[]] 267)).heap[M]? = w2.heap[M]? := Below.heap_alloc _ _ _ hMl
      exact (World.cell?_of_block ((hg5.block M (Nat.lt_of_lt_of_le hMl hal.size) (fun e => hMv e.symm)).trans e1)).symm
    · rw [List.mem_singleton] at h1
      rw [h1]
      exact ⟨_, _, rfl, fun args W => Tryz.call66 args W, fun W o1 _ h1 h2 => base_ref M true o1 h2 W h1⟩
  have hl5 : (l ++ [(baseQ, Value.func (.func 66) #[] #[])]).map Prod.fst = fs ++ [baseQ] := by rw [List.map_append, HL.out]; rfl
  have hown5 : w5.ownsRow (w.heap.size + 1) 267 4 v' (l ++ [(baseQ, Value.func (.func 66) #[] #[])]).length (slotCells (l ++ [(baseQ, Value.func (.func 66) #[] #[])])) := by
    rw [slotCells_append, List.length_append]
    exact hown
  have hmv5 := moves_below hM hb5
  have HT : Hid (Calls Tryz.prog 67 #[.pointer (some ⟨M, 0, none⟩), v'] w5 fun e w' => e = .returned (.int .i64 TB.2) ∧ Mk M true TB.1 w' ∧ Moves M w w') := Lib.hid (by
    rw [HTB.out]
    refine (table_row (fs ++ [baseQ]) places size HG.out M true out _ hl5 (by simp) v' _ w5 hm5 hown5 hob5 hf5 hout).mono ?_
    rintro e w' ⟨h1, h2, h3⟩
    exact ⟨h1, h2, hmv5.trans h3⟩)
  clear hown hg5 hgb hal hb5 hm5 hob5 hf5 hl5 hown5 hmv5 hwk hMv
  go_wp2_with (go_at_call 67; with_reducible refine HT.out.mono ?_)
  rintro e w6 ⟨rfl, h1, h2⟩
  go_wp2
  go_ret
  exact ⟨rfl, h1, h2⟩

/-- A node's table is written, wherever the maker has come to, while the tree's blocks stand. -/
def NodeWrites (M : Nat) (base : Bool) (N : Nat) (tr : Tr) (v : Value) (P : List UInt8 → List UInt8 × Nat) (sz : Nat) : Prop :=
  ∀ W out, Mk M base out W → NodeIn W (· < N) tr v → (∀ r, r < N → MkOther M r W) → N ≤ W.heap.size → out.length + sz < 900000000 →
    Calls Tryz.prog 22 #[.pointer (some ⟨M, 0, none⟩), v] W (AtPost M base (P out).1 (P out).2 W)

set_option maxHeartbeats 1000000 in
set_option maxRecDepth 100000 in
theorem nodeAt_any (i : Int) (k : Int) (t m : ByteArray) (u : Int) (a : Option Addr) (n c : Nat) (w : World) :
    Calls Tryz.prog 190 #[.int .i64 i, .agg #[.int .i64 k, .string t, .string m, .int .u64 u, .slice a n c]] w fun e w' => e = .returned (.agg #[.int .i64 i, .int .i64 4, .int .u64 0, .func (.func 216) #[] #[.pointer (some ⟨w.heap.size, 0, none⟩)]]) ∧ w'.heap[w.heap.size]? = some (.cells #[.int .i64 k, .string t, .string m, .int .u64 u, .slice a n c] 25 (0, 0)) ∧ Below w.heap.size w w' := by
  have hmf : ∀ (fn : Fn) (first cap : Array Value) (w : World), (Instr.makeFunc fn first cap).run Tryz.prog w = .ok (.func fn first cap) w := fun _ _ _ _ => rfl
  go_enter Tryz.func190, Tryz.ntmps190
  go_wp2
  have hb := (Below.refl w.heap.size w).alloc (Nat.le_refl _) (.cells #[.int .i64 k, .string t, .string m, .int .u64 u, .slice a n c] 25)
  refine bodyPost_ret (v := .agg #[.int .i64 i, .int .i64 4, .int .u64 0, .func (.func 216) #[] #[.pointer (some ⟨w.heap.size, 0, none⟩)]]) (by simp [results, Tryz.results190, go_sem]) rfl ⟨rfl, ?_, hb.alloc hb.size _⟩
  exact (Below.heap_alloc _ _ _ (by rw [alloc_size]; omega)).trans (heap_alloc_new w _)

set_option maxHeartbeats 1000000 in
set_option maxRecDepth 100000 in
theorem nodeAt_ref (M b : Nat) (base : Bool) (out : List UInt8) (k : Int) (t m : ByteArray) (u : Int) (a : Option Addr) (n c : Nat) (P : List UInt8 → List UInt8 × Nat) (w : World) (hb : w.heap[b]? = some (.cells #[.int .i64 k, .string t, .string m, .int .u64 u, .slice a n c] 25 (0, 0)))
    (hn : Calls Tryz.prog 22 #[.pointer (some ⟨M, 0, none⟩), .agg #[.int .i64 k, .string t, .string m, .int .u64 u, .slice a n c]] w (AtPost M base (P out).1 (P out).2 w)) :
    Calls Tryz.prog 216 #[.pointer (some ⟨M, 0, none⟩), .pointer (some ⟨b, 0, none⟩)] w (AtPost M base (P out).1 (P out).2 w) := by
  have c0 : w.cell? ⟨b, 0, none⟩ = some (.int .i64 k) := by rw [Lib.cell_of_heap hb]; rfl
  have c1 : w.cell? ⟨b, 1, none⟩ = some (.string t) := by rw [Lib.cell_of_heap hb]; rfl
  have c2 : w.cell? ⟨b, 2, none⟩ = some (.string m) := by rw [Lib.cell_of_heap hb]; rfl
  have c3 : w.cell? ⟨b, 3, none⟩ = some (.int .u64 u) := by rw [Lib.cell_of_heap hb]; rfl
  have c4 : w.cell? ⟨b, 4, none⟩ = some (.slice a n c) := by rw [Lib.cell_of_heap hb]; rfl
  have HT := Lib.hid hn
  clear hn hb
  go_enter Tryz.func216, Tryz.ntmps216
  go_wp2_with (go_at_call 22; with_reducible refine HT.out.mono ?_)
  rintro e w2 ⟨rfl, h1, h2⟩
  go_wp2
  go_ret
  exact ⟨rfl, h1, h2⟩

/-- A slot that refers to a node. -/
def kidQ (i : Nat) (P : List UInt8 → List UInt8 × Nat) (sz : Nat) (Q : List UInt8 → Nat → Prop) : SlotQ := ⟨⟨i, 4, 0, some P⟩, sz, Q⟩

theorem kid_FnD {M : Nat} {base : Bool} {N b i sz : Nat} {tr : Tr} {k : Int} {t m : ByteArray} {u : Int} {a : Option Addr} {n c : Nat} {P : List UInt8 → List UInt8 × Nat} {Q : List UInt8 → Nat → Prop} {w : World}
    (hw : NodeWrites M base N tr (nodeU k t m u a n c) P sz) (hN : N ≤ w.heap.size) (ht : NodeIn w (· < N) tr (nodeU k t m u a n c))
    (hb : w.heap[b]? = some (.cells #[.int .i64 k, .string t, .string m, .int .u64 u, .slice a n c] 25 (0, 0))) :
    FnD M base (fun r => r < N ∨ r = b) w (.func (.func 216) #[] #[.pointer (some ⟨b, 0, none⟩)]) (kidQ i P sz Q).s (kidQ i P sz Q).sz := by
  intro W hW
  have hbl := (Array.getElem?_eq_some_iff.1 hb).1
  refine ⟨_, _, rfl, fun args W => Tryz.call216 args W, fun W' out hm hmk hsz => ?_⟩
  have hlt : ∀ r, r < w.heap.size → W.heap[r]? = w.heap[r]? → r < W.heap.size := fun r hr e => by
    rw [Array.getElem?_eq_getElem hr] at e
    exact (Array.getElem?_eq_some_iff.1 e).1
  have h1 := hW b (.inr rfl)
  have h2 := hm.keep b (hlt b hbl h1.1) h1.2
  have hbox := (h2.1.trans h1.1).trans hb
  have hkeep : ∀ r, r < N → W'.heap[r]? = w.heap[r]? ∧ MkOther M r W' := fun r hr => by
    have h3 := hW r (.inl hr)
    have h4 := hm.keep r (hlt r (Nat.lt_of_lt_of_le hr hN) h3.1) h3.2
    exact ⟨h4.1.trans h3.1, h4.2⟩
  have hNW : N ≤ W'.heap.size := by
    rcases Nat.eq_zero_or_pos N with h0 | h0
    · omega
    · have h5 := hlt (N - 1) (by omega) (hW (N - 1) (.inl (by omega))).1
      have := hm.size
      omega
  exact nodeAt_ref M b base out k t m u a n c P W' hbox (hw W' out hmk (ht.keep fun r hr => (hkeep r hr).1) (fun r hr => (hkeep r hr).2) hNW hsz)

theorem MkOther.below {M r : Nat} {w w' : World} (h : MkOther M r w) (hM : M < w.heap.size) (hb : Below w.heap.size w w') : MkOther M r w' :=
  ⟨h.1, fun v hv => h.2 v (by rw [← hb.cell (p := ⟨M, 0, none⟩) hM]; exact hv)⟩

theorem own_base {w : World} {b b' : Nat} {e : TypeId} {z : Nat} {v : Value} {n : Nat} {xs : List Value} (h : w.ownsRow b e z v n xs) (hb : b' ≤ b) : w.ownsRow b' e z v n xs :=
  ⟨h.1, h.2.imp id fun ⟨g, cap, cur, h1, h2, h3⟩ => ⟨g, cap, cur, h1, Nat.le_trans hb h2, h3⟩⟩

theorem SlotsPost.from {M : Nat} {base : Bool} {fs : List SlotQ} {w W : World} {e : Ending} {w' : World} (hb : Below w.heap.size w W) (h : SlotsPost M base fs W e w') : SlotsPost M base fs w e w' := by
  obtain ⟨v, l, D, h1, h2, h3, h4, h5, h6⟩ := h
  exact ⟨v, l, D, h1, h2, own_base h3 hb.size, hb.trans (h4.mono hb.size), h5, h6⟩

/-- One slot of a node, in a new row. -/
theorem kid_slots {M : Nat} {base : Bool} {N i sz B : Nat} {out : List UInt8} {tr : Tr} {k : Int} {t m : ByteArray} {u : Int} {a : Option Addr} {n c : Nat} {P : List UInt8 → List UInt8 × Nat} {Q : List UInt8 → Nat → Prop} {w w1 w2 : World}
    (h : Mk M base out w) (hN : N ≤ w.heap.size) (ho : ∀ r, r < N → MkOther M r w) (hw : NodeWrites M base N tr (nodeU k t m u a n c) P sz) (ht : NodeIn w (· < N) tr (nodeU k t m u a n c)) (hb1 : Below w.heap.size w w1) (hb2 : Below w1.heap.size w1 w2) (hB : B = w1.heap.size)
    (hb : w2.heap[B]? = some (.cells #[.int .i64 k, .string t, .string m, .int .u64 u, .slice a n c] 25 (0, 0))) :
    SlotsPost M base [kidQ i P sz Q] w (.returned (.slice (some ⟨w2.heap.size, 0, none⟩) 1 1)) (w2.alloc (.cells #[.int .i64 i, .int .i64 4, .int .u64 0, .func (.func 216) #[] #[.pointer (some ⟨B, 0, none⟩)]] 267)) := by
  subst hB
  have hM := h.lt
  have hb12 : Below w.heap.size w w2 := hb1.trans (hb2.mono hb1.size)
  have hb3 := hb12.alloc hb12.size (.cells #[.int .i64 i, .int .i64 4, .int .u64 0, .func (.func 216) #[] #[.pointer (some ⟨w1.heap.size, 0, none⟩)]] 267)
  have hrow := heap_alloc_new w2 (.cells #[.int .i64 i, .int .i64 4, .int .u64 0, .func (.func 216) #[] #[.pointer (some ⟨w1.heap.size, 0, none⟩)]] 267)
  have hbl := (Array.getElem?_eq_some_iff.1 hb).1
  have hbox := (Below.heap_alloc w2 (.cells #[.int .i64 i, .int .i64 4, .int .u64 0, .func (.func 216) #[] #[.pointer (some ⟨w1.heap.size, 0, none⟩)]] 267) _ hbl).trans hb
  have hsz3 : (w2.alloc (.cells #[.int .i64 i, .int .i64 4, .int .u64 0, .func (.func 216) #[] #[.pointer (some ⟨w1.heap.size, 0, none⟩)]] 267)).heap.size = w2.heap.size + 1 := alloc_size _ _
  refine ⟨_, [(kidQ i P sz Q, .func (.func 216) #[] #[.pointer (some ⟨w1.heap.size, 0, none⟩)])], fun r => r < N ∨ r = w1.heap.size, rfl, rfl, ⟨rfl, .inr ⟨w2.heap.size, 1, _, rfl, hb12.size, hrow, Nat.le_refl _, by decide, rfl, rfl⟩⟩, hb3, fun r hr => ?_, fun p hp => ?_⟩
  · rcases hr with hr | rfl
    · refine ⟨by have := hb12.size; omega, (ho r hr).below hM hb3, ?_⟩
      show some w2.heap.size ≠ some r
      intro e
      have e2 := Option.some.inj e
      have := hb12.size
      omega
    · refine ⟨by omega, MkAt.newer (h.below hb1) (Nat.le_refl _) ?_, ?_⟩
      · exact ((hb2.alloc hb2.size _).cell (p := ⟨M, 0, none⟩) (Nat.lt_of_lt_of_le hM hb1.size))
      · show some w2.heap.size ≠ some w1.heap.size
        intro e
        have e2 := Option.some.inj e
        omega
  · rw [List.mem_singleton] at hp
    rw [hp]
    exact kid_FnD hw (Nat.le_trans hN hb3.size) (ht.keep (Keep.of_below hb3 hN)) hbox

set_option maxHeartbeats 4000000 in
set_option maxRecDepth 100000 in
theorem typeSlots_kid (M : Nat) (base : Bool) (out : List UInt8) (N : Nat) (k : Int) (hk : k = 45 ∨ k = 46) (t m : ByteArray) (u : Int) (kid : Tr) (a : Option Addr) (c : Nat) (P : List UInt8 → List UInt8 × Nat) (sz : Nat) (Q : List UInt8 → Nat → Prop) (w : World) (h : Mk M base out w) (hN : N ≤ w.heap.size) (ho : ∀ r, r < N → MkOther M r w)
    (hv : NodeIn w (· < N) (.mk k t m u [kid]) (nodeU k t m u a 1 c)) (hw : ∀ v, NodeWrites M base N kid v P sz) :
    Calls Tryz.prog 127 #[.agg #[.int .i64 k, .string t, .string m, .int .u64 u, .slice a 1 c]] w (SlotsPost M base [kidQ 1 P sz Q] w) := by
  obtain ⟨b, o, rfl, hbN, hkid⟩ := hv.kidsAt (by simp)
  have hb0 := (Below.refl w.heap.size w).alloc (Nat.le_refl _) (.cells #[.int .i64 k, .string t, .string m, .int .u64 u, .slice (some ⟨b, o, none⟩) 1 c] 25)
  obtain ⟨a', c', hn0, d0, d1, d2, d3, d4⟩ := hkid _ (Keep.of_below hb0 hN) 0 (by simp)
  obtain ⟨a2, c2, hn2, e0, e1, e2, e3, e4⟩ := hkid w (Keep.refl _ w) 0 (by simp)
  have haa : a2 = a' ∧ c2 = c' := by
    have hbl : b < w.heap.size := Nat.lt_of_lt_of_le hbN hN
    have e := (hb0.cell (p := ⟨b, o + 0 * 5 + 4, none⟩) hbl)
    rw [d4, e4] at e
    simp at e
    exact ⟨e.1.symm, e.2.symm⟩
  obtain ⟨rfl, rfl⟩ := haa
  simp only [List.getElem_cons_zero, Nat.zero_mul, Nat.add_zero] at hn0 d0 d1 d2 d3 d4 hn2
  have H := Lib.hid h
  have HO := Lib.hid ho
  have HW := Lib.hid (hw (nodeU kid.kind kid.text kid.more kid.num a2 kid.kids.length c2))
  have HB0 := Lib.hid hb0
  have HN2 := Lib.hid hn2
  clear h ho hw hv hkid hn0 hn2 e0 e1 e2 e3 e4 hb0
  generalize kid.kind = kk at *
  generalize kid.text = tt at *
  generalize kid.more = mm at *
  generalize kid.num = nn at *
  generalize kid.kids.length = ll at *
  rcases hk with rfl | rfl
  all_goals
    go_enter Tryz.func127, Tryz.ntmps127
    go_wp2_with (go_at_call 190; with_reducible refine (nodeAt_any 1 kk tt mm nn a2 ll c2 _).mono ?_)
    rintro e w2 ⟨rfl, hbox, hb2⟩
    rw [alloc_size] at hbox
    have HPOST := Lib.hid (kid_slots (i := 1) (B := w.heap.size + 1) (Q := Q) H.out hN HO.out HW.out HN2.out HB0.out hb2 (by rw [alloc_size]) hbox)
    clear hbox hb2
    go_wp2
    go_ret
    exact HPOST.out

/-- The slots of a type's node are its typeSlots. -/
theorem type_or (k : Int) (hk : 44 ≤ k) : decide ((44 : Int) ≤ k) = true := by simpa using hk

set_option maxHeartbeats 4000000 in
set_option maxRecDepth 100000 in
theorem slots_type (M : Nat) (base : Bool) (out : List UInt8) (fs : List SlotQ) (k : Int) (hk : 44 ≤ k) (t m : ByteArray) (u : Int) (a : Option Addr) (n c : Nat) (w : World) (h : Mk M base out w)
    (hl : ∀ W, Mk M base out W → Below w.heap.size w W → Calls Tryz.prog 127 #[.agg #[.int .i64 k, .string t, .string m, .int .u64 u, .slice a n c]] W (SlotsPost M base fs W)) :
    Calls Tryz.prog 65 #[.pointer (some ⟨M, 0, none⟩), .agg #[.int .i64 k, .string t, .string m, .int .u64 u, .slice a n c]] w (SlotsPost M base fs w) := by
  have hb0 := (Below.refl w.heap.size w).alloc (Nat.le_refl _) (.cells #[.int .i64 (k : Int), .string t, .string m, .int .u64 u, .slice a n c] 25)
  have hrow := heap_alloc_new w (.cells #[.int .i64 (k : Int), .string t, .string m, .int .u64 u, .slice a n c] 25)
  have HB0 := Lib.hid hb0
  have HR0 := Lib.hid hrow
  have HM0 := Lib.hid (h.below hb0)
  have HL := Lib.hid hl
  have g44 := type_or k hk
  clear h hb0 hrow hl
  go_enter Tryz.func65, Tryz.ntmps65
  go_wp2_with (go_at_call 126; with_reducible refine (isType_any k _).mono ?_)
  rintro e w2 ⟨b, rfl, _, hb2⟩
  have hr2 := (hb2.block w.heap.size (Array.getElem?_eq_some_iff.1 HR0.out).1).trans HR0.out
  have hb12 : Below w.heap.size w w2 := HB0.out.trans (hb2.mono HB0.out.size)
  have c0 : w2.cell? ⟨w.heap.size, 0, none⟩ = some (.int .i64 k) := by rw [Lib.cell_of_heap hr2]; rfl
  have c1 : w2.cell? ⟨w.heap.size, 1, none⟩ = some (.string t) := by rw [Lib.cell_of_heap hr2]; rfl
  have c2 : w2.cell? ⟨w.heap.size, 2, none⟩ = some (.string m) := by rw [Lib.cell_of_heap hr2]; rfl
  have c3 : w2.cell? ⟨w.heap.size, 3, none⟩ = some (.int .u64 u) := by rw [Lib.cell_of_heap hr2]; rfl
  have c4 : w2.cell? ⟨w.heap.size, 4, none⟩ = some (.slice a n c) := by rw [Lib.cell_of_heap hr2]; rfl
  have HLW := Lib.hid (HL.out w2 (HM0.out.below hb2) hb12)
  clear hb2 hr2
  cases b with
  | true =>
    go_wp2_with (go_at_call 127; with_reducible refine HLW.out.mono ?_)
    rintro e w3 ⟨v, l, D, rfl, h4⟩
    go_wp2
    go_ret
    exact SlotsPost.from hb12 ⟨v, l, D, rfl, h4⟩
  | false =>
    go_wp2_with (go_at_call 127; with_reducible refine HLW.out.mono ?_)
    rintro e w3 ⟨v, l, D, rfl, h4⟩
    go_wp2
    go_ret
    exact SlotsPost.from hb12 ⟨v, l, D, rfl, h4⟩

end Go.Proofs.YtgceklahjdbipaaGreatDoor
