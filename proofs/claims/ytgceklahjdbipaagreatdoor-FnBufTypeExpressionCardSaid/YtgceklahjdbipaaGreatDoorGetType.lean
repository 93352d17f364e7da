/- fbast: the readers of types. -/
import Derived.Test.YtgceklahjdbipaaGreatDoorUnion
import Derived.Test.YtgceklahjdbipaaGreatDoorGetLeaf
namespace Go.Proofs.YtgceklahjdbipaaGreatDoor
open Go Go.RowKit
set_option linter.unusedVariables false
set_option linter.unusedSimpArgs false


set_option maxHeartbeats 1000000 in
set_option maxRecDepth 100000 in
theorem initArrayType (b g L c : Nat) (x0 x1 : Value) (q : Int) (w : World) (h : w.heap[b]? = some (.cells #[x0, x1] 349 (0, 0))) :
    Calls Tryz.prog 117 #[.pointer (some ⟨b, 0, none⟩), .slice (some ⟨g, 0, none⟩) L c, .int .u32 q] w fun e w' => e = .returned (.tuple #[]) ∧ w' = initW w b (.slice (some ⟨g, 0, none⟩) L c) q := by
  have c0 : w.cell? ⟨b, 0, none⟩ = some x0 := by rw [Lib.cell_of_heap h]; rfl
  have c1 : w.cell? ⟨b, 1, none⟩ = some x1 := by rw [Lib.cell_of_heap h]; rfl
  have f0 := Lib.frozen_of_heap h 0
  have f1 := Lib.frozen_of_heap h 1
  go_enter Tryz.func117, Tryz.ntmps117
  go_wp2
  go_end0
  exact ⟨rfl, rfl⟩


set_option maxHeartbeats 1000000 in
set_option maxRecDepth 100000 in
theorem initDictType (b g L c : Nat) (x0 x1 : Value) (q : Int) (w : World) (h : w.heap[b]? = some (.cells #[x0, x1] 260 (0, 0))) :
    Calls Tryz.prog 64 #[.pointer (some ⟨b, 0, none⟩), .slice (some ⟨g, 0, none⟩) L c, .int .u32 q] w fun e w' => e = .returned (.tuple #[]) ∧ w' = initW w b (.slice (some ⟨g, 0, none⟩) L c) q := by
  have c0 : w.cell? ⟨b, 0, none⟩ = some x0 := by rw [Lib.cell_of_heap h]; rfl
  have c1 : w.cell? ⟨b, 1, none⟩ = some x1 := by rw [Lib.cell_of_heap h]; rfl
  have f0 := Lib.frozen_of_heap h 0
  have f1 := Lib.frozen_of_heap h 1
  go_enter Tryz.func64, Tryz.ntmps64
  go_wp2
  go_end0
  exact ⟨rfl, rfl⟩


set_option maxHeartbeats 1000000 in
set_option maxRecDepth 100000 in
theorem initPropertyType (b g L c : Nat) (x0 x1 : Value) (q : Int) (w : World) (h : w.heap[b]? = some (.cells #[x0, x1] 277 (0, 0))) :
    Calls Tryz.prog 81 #[.pointer (some ⟨b, 0, none⟩), .slice (some ⟨g, 0, none⟩) L c, .int .u32 q] w fun e w' => e = .returned (.tuple #[]) ∧ w' = initW w b (.slice (some ⟨g, 0, none⟩) L c) q := by
  have c0 : w.cell? ⟨b, 0, none⟩ = some x0 := by rw [Lib.cell_of_heap h]; rfl
  have c1 : w.cell? ⟨b, 1, none⟩ = some x1 := by rw [Lib.cell_of_heap h]; rfl
  have f0 := Lib.frozen_of_heap h 0
  have f1 := Lib.frozen_of_heap h 1
  go_enter Tryz.func81, Tryz.ntmps81
  go_wp2
  go_end0
  exact ⟨rfl, rfl⟩


set_option maxHeartbeats 1000000 in
set_option maxRecDepth 100000 in
theorem initParameterType (b g L c : Nat) (x0 x1 : Value) (q : Int) (w : World) (h : w.heap[b]? = some (.cells #[x0, x1] 276 (0, 0))) :
    Calls Tryz.prog 76 #[.pointer (some ⟨b, 0, none⟩), .slice (some ⟨g, 0, none⟩) L c, .int .u32 q] w fun e w' => e = .returned (.tuple #[]) ∧ w' = initW w b (.slice (some ⟨g, 0, none⟩) L c) q := by
  have c0 : w.cell? ⟨b, 0, none⟩ = some x0 := by rw [Lib.cell_of_heap h]; rfl
  have c1 : w.cell? ⟨b, 1, none⟩ = some x1 := by rw [Lib.cell_of_heap h]; rfl
  have f0 := Lib.frozen_of_heap h 0
  have f1 := Lib.frozen_of_heap h 1
  go_enter Tryz.func76, Tryz.ntmps76
  go_wp2
  go_end0
  exact ⟨rfl, rfl⟩


set_option maxHeartbeats 1000000 in
set_option maxRecDepth 100000 in
theorem initTypeConstraint (b g L c : Nat) (x0 x1 : Value) (q : Int) (w : World) (h : w.heap[b]? = some (.cells #[x0, x1] 280 (0, 0))) :
    Calls Tryz.prog 139 #[.pointer (some ⟨b, 0, none⟩), .slice (some ⟨g, 0, none⟩) L c, .int .u32 q] w fun e w' => e = .returned (.tuple #[]) ∧ w' = initW w b (.slice (some ⟨g, 0, none⟩) L c) q := by
  have c0 : w.cell? ⟨b, 0, none⟩ = some x0 := by rw [Lib.cell_of_heap h]; rfl
  have c1 : w.cell? ⟨b, 1, none⟩ = some x1 := by rw [Lib.cell_of_heap h]; rfl
  have f0 := Lib.frozen_of_heap h 0
  have f1 := Lib.frozen_of_heap h 1
  go_enter Tryz.func139, Tryz.ntmps139
  go_wp2
  go_end0
  exact ⟨rfl, rfl⟩


set_option maxHeartbeats 1000000 in
set_option maxRecDepth 100000 in
theorem initRecordType (b g L c : Nat) (x0 x1 : Value) (q : Int) (w : World) (h : w.heap[b]? = some (.cells #[x0, x1] 352 (0, 0))) :
    Calls Tryz.prog 119 #[.pointer (some ⟨b, 0, none⟩), .slice (some ⟨g, 0, none⟩) L c, .int .u32 q] w fun e w' => e = .returned (.tuple #[]) ∧ w' = initW w b (.slice (some ⟨g, 0, none⟩) L c) q := by
  have c0 : w.cell? ⟨b, 0, none⟩ = some x0 := by rw [Lib.cell_of_heap h]; rfl
  have c1 : w.cell? ⟨b, 1, none⟩ = some x1 := by rw [Lib.cell_of_heap h]; rfl
  have f0 := Lib.frozen_of_heap h 0
  have f1 := Lib.frozen_of_heap h 1
  go_enter Tryz.func119, Tryz.ntmps119
  go_wp2
  go_end0
  exact ⟨rfl, rfl⟩


set_option maxHeartbeats 1000000 in
set_option maxRecDepth 100000 in
theorem initFunctionType (b g L c : Nat) (x0 x1 : Value) (q : Int) (w : World) (h : w.heap[b]? = some (.cells #[x0, x1] 355 (0, 0))) :
    Calls Tryz.prog 121 #[.pointer (some ⟨b, 0, none⟩), .slice (some ⟨g, 0, none⟩) L c, .int .u32 q] w fun e w' => e = .returned (.tuple #[]) ∧ w' = initW w b (.slice (some ⟨g, 0, none⟩) L c) q := by
  have c0 : w.cell? ⟨b, 0, none⟩ = some x0 := by rw [Lib.cell_of_heap h]; rfl
  have c1 : w.cell? ⟨b, 1, none⟩ = some x1 := by rw [Lib.cell_of_heap h]; rfl
  have f0 := Lib.frozen_of_heap h 0
  have f1 := Lib.frozen_of_heap h 1
  go_enter Tryz.func121, Tryz.ntmps121
  go_wp2
  go_end0
  exact ⟨rfl, rfl⟩


set_option maxHeartbeats 1000000 in
set_option maxRecDepth 100000 in
theorem initTypeExpression (b g L c : Nat) (x0 x1 : Value) (q : Int) (w : World) (h : w.heap[b]? = some (.cells #[x0, x1] 290 (0, 0))) :
    Calls Tryz.prog 89 #[.pointer (some ⟨b, 0, none⟩), .slice (some ⟨g, 0, none⟩) L c, .int .u32 q] w fun e w' => e = .returned (.tuple #[]) ∧ w' = initW w b (.slice (some ⟨g, 0, none⟩) L c) q := by
  have c0 : w.cell? ⟨b, 0, none⟩ = some x0 := by rw [Lib.cell_of_heap h]; rfl
  have c1 : w.cell? ⟨b, 1, none⟩ = some x1 := by rw [Lib.cell_of_heap h]; rfl
  have f0 := Lib.frozen_of_heap h 0
  have f1 := Lib.frozen_of_heap h 1
  go_enter Tryz.func89, Tryz.ntmps89
  go_wp2
  go_end0
  exact ⟨rfl, rfl⟩


set_option maxHeartbeats 4000000 in
set_option maxRecDepth 100000 in
theorem baseNodeArrayType_there (b g L c at_ : Nat) (bs : List UInt8) (size : Nat) (places : List Nat) (hq : VtQ size places bs at_) (h4 : 4 ≤ size) (hn : places.length < 1000) (hi : 0 < places.length) (v : Nat) (hv : places.getD 0 0 = v) (hv0 : 0 < v) (hv1 : v < 60000)
    (to : Nat) (hle : at_ + v ≤ to) (hr : rd bs (at_ + v) 4 = to - (at_ + v)) (hto : to + 4 ≤ bs.length) (w : World) (h : TabAt b g L c at_ bs w) :
    Calls Tryz.prog 176 #[.pointer (some ⟨b, 0, none⟩), .pointer none] w (NewTab g L c to bs w) := by
  have c0 := h.c0
  have c1 := h.c1
  have hlen := h.len
  have hbig := h.big
  have hat := hq.2.2.2.2
  have hne : ((v : Int) == 0) = false := by simp; omega
  have hw0 : IntKind.u32.wrap (v : Int) = v := by rw [IntKind.wrap_u32]; omega
  have hw1 : IntKind.u32.wrap ((v : Int) + at_) = ((at_ + v : Nat) : Int) := by rw [IntKind.wrap_u32]; omega
  have HO : Hid (∀ W, TabAt b g L c at_ bs W → Calls Tryz.prog 110 #[.pointer (some ⟨b, 0, none⟩), .int .u16 4] W fun e w' => e = .returned (.int .u16 v) ∧ ∃ m, w' = W.drewN m) :=
    Lib.hid fun W hW => offset_there b g L c at_ bs size places hq h4 hn 0 hi 4 (by omega) v hv W hW
  have HI : Hid (∀ W, TabAt b g L c at_ bs W → Calls Tryz.prog 111 #[.pointer (some ⟨b, 0, none⟩), .int .u32 (at_ + v : Nat)] W fun e w' => e = .returned (.int .u32 to) ∧ ∃ m, w' = W.drewN m) :=
    Lib.hid fun W hW => indirect_any b g L c at_ bs (at_ + v) to hle hr (by omega) (by omega) W hW
  have H := Lib.hid h
  clear h hq
  go_enter Tryz.func176, Tryz.ntmps176
  go_wp2_with fail
  ((with_reducible refine (HO.out _ H.out).mono ?_))
  rintro e w1 ⟨rfl, hm1⟩
  have HB1 := Lib.hid (reads_below hm1)
  have h1 : TabAt b g L c at_ bs w1 := by obtain ⟨m, rfl⟩ := hm1; exact H.out.drewN m
  have H1 := Lib.hid h1
  have d0 := h1.c0
  have d1 := h1.c1
  have a0 : ∀ n o, ((w1.drewN n).alloc o).cell? ⟨b, 0, none⟩ = some (.slice (some ⟨g, 0, none⟩) L c) := fun n o => (Below.cell ((Below.refl w1.heap.size (w1.drewN n)).alloc (Nat.le_refl _) o) (p := ⟨b, 0, none⟩) h1.bl).trans d0
  have a1 : ∀ n o, ((w1.drewN n).alloc o).cell? ⟨b, 1, none⟩ = some (.int .u32 at_) := fun n o => (Below.cell ((Below.refl w1.heap.size (w1.drewN n)).alloc (Nat.le_refl _) o) (p := ⟨b, 1, none⟩) h1.bl).trans d1
  have HIN : Hid (∀ n, Calls Tryz.prog 112 #[.pointer (some ⟨w1.heap.size, 0, none⟩), .slice (some ⟨g, 0, none⟩) L c, .int .u32 to] ((w1.drewN n).alloc (.cells #[.slice none 0 0, .int .u32 0] 341)) fun e w' => e = .returned (.tuple #[]) ∧ TabAt w1.heap.size g L c to bs w' ∧ Below w1.heap.size w1 w') := Lib.hid fun n => by
    have hr : RowAt g L c bs (w1.drewN n) := ⟨h1.row, h1.len, h1.cap, h1.big, h1.gl⟩
    refine (initBaseNode w1.heap.size g L c _ _ to _ (heap_alloc_new (w1.drewN n) _)).mono ?_
    rintro e w' ⟨rfl, rfl⟩
    have h2 := tab_made hr to (.slice none 0 0) (.int .u32 0) 341
    exact ⟨rfl, h2.1, (reads_below (w := w1) ⟨n, rfl⟩).trans h2.2⟩
  clear hm1 c0 c1 h1
  go_wp2
  go_quiet ((go_at_call 111; refine Calls.quiet_of (HI.out _ (H1.out.drewN _))))
  go_wp2_with fail
  ((with_reducible refine (HIN.out _).mono ?_))
  rintro e w3 ⟨rfl, h3, hb3⟩
  go_wp2
  go_ret
  exact ⟨_, rfl, HB1.out.size, h3, HB1.out.trans (hb3.mono HB1.out.size)⟩


set_option maxHeartbeats 4000000 in
set_option maxRecDepth 100000 in
theorem baseNodeArrayType_none (b g L c at_ : Nat) (bs : List UInt8) (size : Nat) (places : List Nat) (hq : VtQ size places bs at_) (h4 : 4 ≤ size) (hn : places.length < 1000) (hi : 0 < places.length → places.getD 0 0 = 0) (w : World) (h : TabAt b g L c at_ bs w) :
    Calls Tryz.prog 176 #[.pointer (some ⟨b, 0, none⟩), .pointer none] w fun e w' => e = .returned (.pointer none) ∧ ∃ m, w' = w.drewN m := by
  have c0 := h.c0
  have c1 := h.c1
  have HO : Hid (∀ W, TabAt b g L c at_ bs W → Calls Tryz.prog 110 #[.pointer (some ⟨b, 0, none⟩), .int .u16 4] W fun e w' => e = .returned (.int .u16 0) ∧ ∃ m, w' = W.drewN m) :=
    Lib.hid fun W hW => offsetZ b g L c at_ bs size places hq h4 hn 0 hi (by omega) 4 (by omega) W hW
  have H := Lib.hid h
  clear h hq
  go_enter Tryz.func176, Tryz.ntmps176
  go_wp2_with fail
  ((with_reducible refine (HO.out _ H.out).mono ?_))
  rintro e w1 ⟨rfl, m1, rfl⟩
  go_wp2
  go_ret
  exact ⟨rfl, _, rfl⟩


set_option maxHeartbeats 4000000 in
set_option maxRecDepth 100000 in
theorem elementTypeArrayType_there (b g L c at_ : Nat) (bs : List UInt8) (size : Nat) (places : List Nat) (hq : VtQ size places bs at_) (h4 : 4 ≤ size) (hn : places.length < 1000) (hi : 1 < places.length) (v : Nat) (hv : places.getD 1 0 = v) (hv0 : 0 < v) (hv1 : v < 60000) (u : Nat) (hr : rd bs (at_ + v) 1 = u) (hf : at_ + v + 1 ≤ bs.length) (w : World) (h : TabAt b g L c at_ bs w) :
    Calls Tryz.prog 178 #[.pointer (some ⟨b, 0, none⟩)] w fun e w' => e = .returned (.int .u8 u) ∧ ∃ m, w' = w.drewN m := by
  have c0 := h.c0
  have c1 := h.c1
  have hlen := h.len
  have hbig := h.big
  have hat := hq.2.2.2.2
  have hne : ((v : Int) == 0) = false := by simp; omega
  have hw0 : IntKind.u32.wrap (v : Int) = v := by rw [IntKind.wrap_u32]; omega
  have hw1 : IntKind.u32.wrap ((v : Int) + at_) = ((at_ + v : Nat) : Int) := by rw [IntKind.wrap_u32]; omega
  have HO : Hid (∀ W, TabAt b g L c at_ bs W → Calls Tryz.prog 110 #[.pointer (some ⟨b, 0, none⟩), .int .u16 6] W fun e w' => e = .returned (.int .u16 v) ∧ ∃ m, w' = W.drewN m) :=
    Lib.hid fun W hW => offset_there b g L c at_ bs size places hq h4 hn 1 hi 6 (by omega) v hv W hW
  have HV : Hid (∀ W, TabAt b g L c at_ bs W → Calls Tryz.prog 124 #[.pointer (some ⟨b, 0, none⟩), .int .u32 (at_ + v : Nat)] W fun e w' => e = .returned (.int .u8 u) ∧ ∃ m, w' = W.drewN m) :=
    Lib.hid fun W hW => tGetByte b g L c at_ bs (at_ + v) u (by omega) hr W hW
  have H := Lib.hid h
  clear h hq
  go_enter Tryz.func178, Tryz.ntmps178
  go_wp2_with fail
  ((with_reducible refine (HO.out _ H.out).mono ?_))
  rintro e w1 ⟨rfl, hm1⟩
  have HM1 := Lib.hid hm1
  have h1 : TabAt b g L c at_ bs w1 := by obtain ⟨m, rfl⟩ := hm1; exact H.out.drewN m
  have H1 := Lib.hid h1
  have d0 := h1.c0
  have d1 := h1.c1
  clear hm1 c0 c1 h1
  go_wp2
  go_quiet ((go_at_call 124; refine Calls.quiet_of (HV.out _ (H1.out.drewN _))))
  go_wp2
  go_ret
  obtain ⟨m, hm⟩ := HM1.out
  rw [hm, World.drewN_drewN]
  exact ⟨rfl, _, rfl⟩


set_option maxHeartbeats 4000000 in
set_option maxRecDepth 100000 in
theorem elementArrayType_there (b g L c at_ : Nat) (bs : List UInt8) (size : Nat) (places : List Nat) (hq : VtQ size places bs at_) (h4 : 4 ≤ size) (hn : places.length < 1000) (hi : 2 < places.length) (v : Nat) (hv : places.getD 2 0 = v) (hv0 : 0 < v) (hv1 : v < 60000) (to : Nat) (hle : at_ + v ≤ to) (hr : rd bs (at_ + v) 4 = to - (at_ + v)) (hto : to + 4 ≤ bs.length)
    (r : Nat) (x0 x1 : Value) (hrb : r ≠ b) (hrg : r ≠ g) (w : World) (h : TabAt b g L c at_ bs w) (hr0 : w.heap[r]? = some (.cells #[x0, x1] 258 (0, 0))) :
    Calls Tryz.prog 177 #[.pointer (some ⟨b, 0, none⟩), .pointer (some ⟨r, 0, none⟩)] w fun e w' => e = .returned (.bool true) ∧ ∃ m, w' = unionW (w.drewN m) r (.slice (some ⟨g, 0, none⟩) L c) to := by
  have c0 := h.c0
  have c1 := h.c1
  have hlen := h.len
  have hbig := h.big
  have hat := hq.2.2.2.2
  have hne : ((v : Int) == 0) = false := by simp; omega
  have hw0 : IntKind.u32.wrap (v : Int) = v := by rw [IntKind.wrap_u32]; omega
  have HO : Hid (∀ W, TabAt b g L c at_ bs W → Calls Tryz.prog 110 #[.pointer (some ⟨b, 0, none⟩), .int .u16 8] W fun e w' => e = .returned (.int .u16 v) ∧ ∃ m, w' = W.drewN m) :=
    Lib.hid fun W hW => offset_there b g L c at_ bs size places hq h4 hn 2 hi 8 (by omega) v hv W hW
  have HU : Hid (∀ m, Calls Tryz.prog 123 #[.pointer (some ⟨b, 0, none⟩), .pointer (some ⟨r, 0, none⟩), .int .u32 v] (w.drewN m) fun e w' => e = .returned (.tuple #[]) ∧ ∃ m', w' = unionW ((w.drewN m).drewN m') r (.slice (some ⟨g, 0, none⟩) L c) to) :=
    Lib.hid fun m => union_any b g L c at_ bs v to hle hr (by omega) (by omega) r x0 x1 hrb hrg (w.drewN m) (h.drewN m) hr0
  have H := Lib.hid h
  clear h hq hr0
  go_enter Tryz.func177, Tryz.ntmps177
  go_wp2_with fail
  ((with_reducible refine (HO.out _ H.out).mono ?_))
  rintro e w1 ⟨rfl, m1, rfl⟩
  go_wp2_with fail
  ((with_reducible refine (HU.out _).mono ?_))
  rintro e w2 ⟨rfl, m2, rfl⟩
  rw [World.drewN_drewN]
  go_wp2
  go_ret
  exact ⟨rfl, _, rfl⟩


set_option maxHeartbeats 4000000 in
set_option maxRecDepth 100000 in
theorem baseNodeDictType_there (b g L c at_ : Nat) (bs : List UInt8) (size : Nat) (places : List Nat) (hq : VtQ size places bs at_) (h4 : 4 ≤ size) (hn : places.length < 1000) (hi : 0 < places.length) (v : Nat) (hv : places.getD 0 0 = v) (hv0 : 0 < v) (hv1 : v < 60000)
    (to : Nat) (hle : at_ + v ≤ to) (hr : rd bs (at_ + v) 4 = to - (at_ + v)) (hto : to + 4 ≤ bs.length) (w : World) (h : TabAt b g L c at_ bs w) :
    Calls Tryz.prog 56 #[.pointer (some ⟨b, 0, none⟩), .pointer none] w (NewTab g L c to bs w) := by
  have c0 := h.c0
  have c1 := h.c1
  have hlen := h.len
  have hbig := h.big
  have hat := hq.2.2.2.2
  have hne : ((v : Int) == 0) = false := by simp; omega
  have hw0 : IntKind.u32.wrap (v : Int) = v := by rw [IntKind.wrap_u32]; omega
  have hw1 : IntKind.u32.wrap ((v : Int) + at_) = ((at_ + v : Nat) : Int) := by rw [IntKind.wrap_u32]; omega
  have HO : Hid (∀ W, TabAt b g L c at_ bs W → Calls Tryz.prog 110 #[.pointer (some ⟨b, 0, none⟩), .int .u16 4] W fun e w' => e = .returned (.int .u16 v) ∧ ∃ m, w' = W.drewN m) :=
    Lib.hid fun W hW => offset_there b g L c at_ bs size places hq h4 hn 0 hi 4 (by omega) v hv W hW
  have HI : Hid (∀ W, TabAt b g L c at_ bs W → Calls Tryz.prog 111 #[.pointer (some ⟨b, 0, none⟩), .int .u32 (at_ + v : Nat)] W fun e w' => e = .returned (.int .u32 to) ∧ ∃ m, w' = W.drewN m) :=
    Lib.hid fun W hW => indirect_any b g L c at_ bs (at_ + v) to hle hr (by omega) (by omega) W hW
  have H := Lib.hid h
  clear h hq
  go_enter Tryz.func56, Tryz.ntmps56
  go_wp2_with fail
  ((with_reducible refine (HO.out _ H.out).mono ?_))
  rintro e w1 ⟨rfl, hm1⟩
  have HB1 := Lib.hid (reads_below hm1)
  have h1 : TabAt b g L c at_ bs w1 := by obtain ⟨m, rfl⟩ := hm1; exact H.out.drewN m
  have H1 := Lib.hid h1
  have d0 := h1.c0
  have d1 := h1.c1
  have a0 : ∀ n o, ((w1.drewN n).alloc o).cell? ⟨b, 0, none⟩ = some (.slice (some ⟨g, 0, none⟩) L c) := fun n o => (Below.cell ((Below.refl w1.heap.size (w1.drewN n)).alloc (Nat.le_refl _) o) (p := ⟨b, 0, none⟩) h1.bl).trans d0
  have a1 : ∀ n o, ((w1.drewN n).alloc o).cell? ⟨b, 1, none⟩ = some (.int .u32 at_) := fun n o => (Below.cell ((Below.refl w1.heap.size (w1.drewN n)).alloc (Nat.le_refl _) o) (p := ⟨b, 1, none⟩) h1.bl).trans d1
  have HIN : Hid (∀ n, Calls Tryz.prog 112 #[.pointer (some ⟨w1.heap.size, 0, none⟩), .slice (some ⟨g, 0, none⟩) L c, .int .u32 to] ((w1.drewN n).alloc (.cells #[.slice none 0 0, .int .u32 0] 341)) fun e w' => e = .returned (.tuple #[]) ∧ TabAt w1.heap.size g L c to bs w' ∧ Below w1.heap.size w1 w') := Lib.hid fun n => by
    have hr : RowAt g L c bs (w1.drewN n) := ⟨h1.row, h1.len, h1.cap, h1.big, h1.gl⟩
    refine (initBaseNode w1.heap.size g L c _ _ to _ (heap_alloc_new (w1.drewN n) _)).mono ?_
    rintro e w' ⟨rfl, rfl⟩
    have h2 := tab_made hr to (.slice none 0 0) (.int .u32 0) 341
    exact ⟨rfl, h2.1, (reads_below (w := w1) ⟨n, rfl⟩).trans h2.2⟩
  clear hm1 c0 c1 h1
  go_wp2
  go_quiet ((go_at_call 111; refine Calls.quiet_of (HI.out _ (H1.out.drewN _))))
  go_wp2_with fail
  ((with_reducible refine (HIN.out _).mono ?_))
  rintro e w3 ⟨rfl, h3, hb3⟩
  go_wp2
  go_ret
  exact ⟨_, rfl, HB1.out.size, h3, HB1.out.trans (hb3.mono HB1.out.size)⟩


set_option maxHeartbeats 4000000 in
set_option maxRecDepth 100000 in
theorem baseNodeDictType_none (b g L c at_ : Nat) (bs : List UInt8) (size : Nat) (places : List Nat) (hq : VtQ size places bs at_) (h4 : 4 ≤ size) (hn : places.length < 1000) (hi : 0 < places.length → places.getD 0 0 = 0) (w : World) (h : TabAt b g L c at_ bs w) :
    Calls Tryz.prog 56 #[.pointer (some ⟨b, 0, none⟩), .pointer none] w fun e w' => e = .returned (.pointer none) ∧ ∃ m, w' = w.drewN m := by
  have c0 := h.c0
  have c1 := h.c1
  have HO : Hid (∀ W, TabAt b g L c at_ bs W → Calls Tryz.prog 110 #[.pointer (some ⟨b, 0, none⟩), .int .u16 4] W fun e w' => e = .returned (.int .u16 0) ∧ ∃ m, w' = W.drewN m) :=
    Lib.hid fun W hW => offsetZ b g L c at_ bs size places hq h4 hn 0 hi (by omega) 4 (by omega) W hW
  have H := Lib.hid h
  clear h hq
  go_enter Tryz.func56, Tryz.ntmps56
  go_wp2_with fail
  ((with_reducible refine (HO.out _ H.out).mono ?_))
  rintro e w1 ⟨rfl, m1, rfl⟩
  go_wp2
  go_ret
  exact ⟨rfl, _, rfl⟩


set_option maxHeartbeats 4000000 in
set_option maxRecDepth 100000 in
theorem keyTypeDictType_there (b g L c at_ : Nat) (bs : List UInt8) (size : Nat) (places : List Nat) (hq : VtQ size places bs at_) (h4 : 4 ≤ size) (hn : places.length < 1000) (hi : 1 < places.length) (v : Nat) (hv : places.getD 1 0 = v) (hv0 : 0 < v) (hv1 : v < 60000) (u : Nat) (hr : rd bs (at_ + v) 1 = u) (hf : at_ + v + 1 ≤ bs.length) (w : World) (h : TabAt b g L c at_ bs w) :
    Calls Tryz.prog 60 #[.pointer (some ⟨b, 0, none⟩)] w fun e w' => e = .returned (.int .u8 u) ∧ ∃ m, w' = w.drewN m := by
  have c0 := h.c0
  have c1 := h.c1
  have hlen := h.len
  have hbig := h.big
  have hat := hq.2.2.2.2
  have hne : ((v : Int) == 0) = false := by simp; omega
  have hw0 : IntKind.u32.wrap (v : Int) = v := by rw [IntKind.wrap_u32]; omega
  have hw1 : IntKind.u32.wrap ((v : Int) + at_) = ((at_ + v : Nat) : Int) := by rw [IntKind.wrap_u32]; omega
  have HO : Hid (∀ W, TabAt b g L c at_ bs W → Calls Tryz.prog 110 #[.pointer (some ⟨b, 0, none⟩), .int .u16 6] W fun e w' => e = .returned (.int .u16 v) ∧ ∃ m, w' = W.drewN m) :=
    Lib.hid fun W hW => offset_there b g L c at_ bs size places hq h4 hn 1 hi 6 (by omega) v hv W hW
  have HV : Hid (∀ W, TabAt b g L c at_ bs W → Calls Tryz.prog 124 #[.pointer (some ⟨b, 0, none⟩), .int .u32 (at_ + v : Nat)] W fun e w' => e = .returned (.int .u8 u) ∧ ∃ m, w' = W.drewN m) :=
    Lib.hid fun W hW => tGetByte b g L c at_ bs (at_ + v) u (by omega) hr W hW
  have H := Lib.hid h
  clear h hq
  go_enter Tryz.func60, Tryz.ntmps60
  go_wp2_with fail
  ((with_reducible refine (HO.out _ H.out).mono ?_))
  rintro e w1 ⟨rfl, hm1⟩
  have HM1 := Lib.hid hm1
  have h1 : TabAt b g L c at_ bs w1 := by obtain ⟨m, rfl⟩ := hm1; exact H.out.drewN m
  have H1 := Lib.hid h1
  have d0 := h1.c0
  have d1 := h1.c1
  clear hm1 c0 c1 h1
  go_wp2
  go_quiet ((go_at_call 124; refine Calls.quiet_of (HV.out _ (H1.out.drewN _))))
  go_wp2
  go_ret
  obtain ⟨m, hm⟩ := HM1.out
  rw [hm, World.drewN_drewN]
  exact ⟨rfl, _, rfl⟩


set_option maxHeartbeats 4000000 in
set_option maxRecDepth 100000 in
theorem keyDictType_there (b g L c at_ : Nat) (bs : List UInt8) (size : Nat) (places : List Nat) (hq : VtQ size places bs at_) (h4 : 4 ≤ size) (hn : places.length < 1000) (hi : 2 < places.length) (v : Nat) (hv : places.getD 2 0 = v) (hv0 : 0 < v) (hv1 : v < 60000) (to : Nat) (hle : at_ + v ≤ to) (hr : rd bs (at_ + v) 4 = to - (at_ + v)) (hto : to + 4 ≤ bs.length)
    (r : Nat) (x0 x1 : Value) (hrb : r ≠ b) (hrg : r ≠ g) (w : World) (h : TabAt b g L c at_ bs w) (hr0 : w.heap[r]? = some (.cells #[x0, x1] 258 (0, 0))) :
    Calls Tryz.prog 59 #[.pointer (some ⟨b, 0, none⟩), .pointer (some ⟨r, 0, none⟩)] w fun e w' => e = .returned (.bool true) ∧ ∃ m, w' = unionW (w.drewN m) r (.slice (some ⟨g, 0, none⟩) L c) to := by
  have c0 := h.c0
  have c1 := h.c1
  have hlen := h.len
  have hbig := h.big
  have hat := hq.2.2.2.2
  have hne : ((v : Int) == 0) = false := by simp; omega
  have hw0 : IntKind.u32.wrap (v : Int) = v := by rw [IntKind.wrap_u32]; omega
  have HO : Hid (∀ W, TabAt b g L c at_ bs W → Calls Tryz.prog 110 #[.pointer (some ⟨b, 0, none⟩), .int .u16 8] W fun e w' => e = .returned (.int .u16 v) ∧ ∃ m, w' = W.drewN m) :=
    Lib.hid fun W hW => offset_there b g L c at_ bs size places hq h4 hn 2 hi 8 (by omega) v hv W hW
  have HU : Hid (∀ m, Calls Tryz.prog 123 #[.pointer (some ⟨b, 0, none⟩), .pointer (some ⟨r, 0, none⟩), .int .u32 v] (w.drewN m) fun e w' => e = .returned (.tuple #[]) ∧ ∃ m', w' = unionW ((w.drewN m).drewN m') r (.slice (some ⟨g, 0, none⟩) L c) to) :=
    Lib.hid fun m => union_any b g L c at_ bs v to hle hr (by omega) (by omega) r x0 x1 hrb hrg (w.drewN m) (h.drewN m) hr0
  have H := Lib.hid h
  clear h hq hr0
  go_enter Tryz.func59, Tryz.ntmps59
  go_wp2_with fail
  ((with_reducible refine (HO.out _ H.out).mono ?_))
  rintro e w1 ⟨rfl, m1, rfl⟩
  go_wp2_with fail
  ((with_reducible refine (HU.out _).mono ?_))
  rintro e w2 ⟨rfl, m2, rfl⟩
  rw [World.drewN_drewN]
  go_wp2
  go_ret
  exact ⟨rfl, _, rfl⟩


set_option maxHeartbeats 4000000 in
set_option maxRecDepth 100000 in
theorem valTypeDictType_there (b g L c at_ : Nat) (bs : List UInt8) (size : Nat) (places : List Nat) (hq : VtQ size places bs at_) (h4 : 4 ≤ size) (hn : places.length < 1000) (hi : 3 < places.length) (v : Nat) (hv : places.getD 3 0 = v) (hv0 : 0 < v) (hv1 : v < 60000) (u : Nat) (hr : rd bs (at_ + v) 1 = u) (hf : at_ + v + 1 ≤ bs.length) (w : World) (h : TabAt b g L c at_ bs w) :
    Calls Tryz.prog 62 #[.pointer (some ⟨b, 0, none⟩)] w fun e w' => e = .returned (.int .u8 u) ∧ ∃ m, w' = w.drewN m := by
  have c0 := h.c0
  have c1 := h.c1
  have hlen := h.len
  have hbig := h.big
  have hat := hq.2.2.2.2
  have hne : ((v : Int) == 0) = false := by simp; omega
  have hw0 : IntKind.u32.wrap (v : Int) = v := by rw [IntKind.wrap_u32]; omega
  have hw1 : IntKind.u32.wrap ((v : Int) + at_) = ((at_ + v : Nat) : Int) := by rw [IntKind.wrap_u32]; omega
  have HO : Hid (∀ W, TabAt b g L c at_ bs W → Calls Tryz.prog 110 #[.pointer (some ⟨b, 0, none⟩), .int .u16 10] W fun e w' => e = .returned (.int .u16 v) ∧ ∃ m, w' = W.drewN m) :=
    Lib.hid fun W hW => offset_there b g L c at_ bs size places hq h4 hn 3 hi 10 (by omega) v hv W hW
  have HV : Hid (∀ W, TabAt b g L c at_ bs W → Calls Tryz.prog 124 #[.pointer (some ⟨b, 0, none⟩), .int .u32 (at_ + v : Nat)] W fun e w' => e = .returned (.int .u8 u) ∧ ∃ m, w' = W.drewN m) :=
    Lib.hid fun W hW => tGetByte b g L c at_ bs (at_ + v) u (by omega) hr W hW
  have H := Lib.hid h
  clear h hq
  go_enter Tryz.func62, Tryz.ntmps62
  go_wp2_with fail
  ((with_reducible refine (HO.out _ H.out).mono ?_))
  rintro e w1 ⟨rfl, hm1⟩
  have HM1 := Lib.hid hm1
  have h1 : TabAt b g L c at_ bs w1 := by obtain ⟨m, rfl⟩ := hm1; exact H.out.drewN m
  have H1 := Lib.hid h1
  have d0 := h1.c0
  have d1 := h1.c1
  clear hm1 c0 c1 h1
  go_wp2
  go_quiet ((go_at_call 124; refine Calls.quiet_of (HV.out _ (H1.out.drewN _))))
  go_wp2
  go_ret
  obtain ⟨m, hm⟩ := HM1.out
  rw [hm, World.drewN_drewN]
  exact ⟨rfl, _, rfl⟩


set_option maxHeartbeats 4000000 in
set_option maxRecDepth 100000 in
theorem valDictType_there (b g L c at_ : Nat) (bs : List UInt8) (size : Nat) (places : List Nat) (hq : VtQ size places bs at_) (h4 : 4 ≤ size) (hn : places.length < 1000) (hi : 4 < places.length) (v : Nat) (hv : places.getD 4 0 = v) (hv0 : 0 < v) (hv1 : v < 60000) (to : Nat) (hle : at_ + v ≤ to) (hr : rd bs (at_ + v) 4 = to - (at_ + v)) (hto : to + 4 ≤ bs.length)
    (r : Nat) (x0 x1 : Value) (hrb : r ≠ b) (hrg : r ≠ g) (w : World) (h : TabAt b g L c at_ bs w) (hr0 : w.heap[r]? = some (.cells #[x0, x1] 258 (0, 0))) :
    Calls Tryz.prog 61 #[.pointer (some ⟨b, 0, none⟩), .pointer (some ⟨r, 0, none⟩)] w fun e w' => e = .returned (.bool true) ∧ ∃ m, w' = unionW (w.drewN m) r (.slice (some ⟨g, 0, none⟩) L c) to := by
  have c0 := h.c0
  have c1 := h.c1
  have hlen := h.len
  have hbig := h.big
  have hat := hq.2.2.2.2
  have hne : ((v : Int) == 0) = false := by simp; omega
  have hw0 : IntKind.u32.wrap (v : Int) = v := by rw [IntKind.wrap_u32]; omega
  have HO : Hid (∀ W, TabAt b g L c at_ bs W → Calls Tryz.prog 110 #[.pointer (some ⟨b, 0, none⟩), .int .u16 12] W fun e w' => e = .returned (.int .u16 v) ∧ ∃ m, w' = W.drewN m) :=
    Lib.hid fun W hW => offset_there b g L c at_ bs size places hq h4 hn 4 hi 12 (by omega) v hv W hW
  have HU : Hid (∀ m, Calls Tryz.prog 123 #[.pointer (some ⟨b, 0, none⟩), .pointer (some ⟨r, 0, none⟩), .int .u32 v] (w.drewN m) fun e w' => e = .returned (.tuple #[]) ∧ ∃ m', w' = unionW ((w.drewN m).drewN m') r (.slice (some ⟨g, 0, none⟩) L c) to) :=
    Lib.hid fun m => union_any b g L c at_ bs v to hle hr (by omega) (by omega) r x0 x1 hrb hrg (w.drewN m) (h.drewN m) hr0
  have H := Lib.hid h
  clear h hq hr0
  go_enter Tryz.func61, Tryz.ntmps61
  go_wp2_with fail
  ((with_reducible refine (HO.out _ H.out).mono ?_))
  rintro e w1 ⟨rfl, m1, rfl⟩
  go_wp2_with fail
  ((with_reducible refine (HU.out _).mono ?_))
  rintro e w2 ⟨rfl, m2, rfl⟩
  rw [World.drewN_drewN]
  go_wp2
  go_ret
  exact ⟨rfl, _, rfl⟩


set_option maxHeartbeats 4000000 in
set_option maxRecDepth 100000 in
theorem rootDictType (g L c to : Nat) (bs : List UInt8) (hr : rd bs 0 4 = to) (ht : to ≤ L) (h4 : 4 ≤ L) (w : World) (h : RowAt g L c bs w) :
    Calls Tryz.prog 21 #[.slice (some ⟨g, 0, none⟩) L c, .int .u32 0] w (NewTab g L c to bs w) := by
  have hlen := h.len
  have hbig := h.big
  have hcap := h.cap
  have hw1 : IntKind.u32.wrap (to : Int) = to := by rw [IntKind.wrap_u32]; omega
  have HG : Hid (Calls Tryz.prog 63 #[.slice (some ⟨g, 0, none⟩) L c] w fun e w' => e = .returned (.int .u32 to) ∧ ∃ m, w' = w.drewN m) :=
    Lib.hid (getUOffset_any g 0 L c bs to w h.row (by omega) (by omega) hr (by omega))
  have HIN : Hid (∀ n, Calls Tryz.prog 64 #[.pointer (some ⟨w.heap.size, 0, none⟩), .slice (some ⟨g, 0, none⟩) L c, .int .u32 to] ((w.drewN n).alloc (.cells #[.slice none 0 0, .int .u32 0] 260)) fun e w' => e = .returned (.tuple #[]) ∧ TabAt w.heap.size g L c to bs w' ∧ Below w.heap.size w w') := Lib.hid fun n => by
    have hr : RowAt g L c bs (w.drewN n) := ⟨h.row, h.len, h.cap, h.big, h.gl⟩
    refine (initDictType w.heap.size g L c _ _ to _ (heap_alloc_new (w.drewN n) _)).mono ?_
    rintro e w' ⟨rfl, rfl⟩
    have h2 := tab_made hr to (.slice none 0 0) (.int .u32 0) 260
    exact ⟨rfl, h2.1, (reads_below (w := w) ⟨n, rfl⟩).trans h2.2⟩
  clear h
  go_enter Tryz.func21, Tryz.ntmps21
  go_wp2_with fail
  ((with_reducible refine HG.out.mono ?_))
  rintro e w1 ⟨rfl, m1, rfl⟩
  go_wp2_with fail
  ((with_reducible refine (HIN.out _).mono ?_))
  rintro e w3 ⟨rfl, h3, hb3⟩
  go_wp2
  go_ret
  exact ⟨_, rfl, Nat.le_refl _, h3, hb3⟩


set_option maxHeartbeats 4000000 in
set_option maxRecDepth 100000 in
theorem baseNodePropertyType_there (b g L c at_ : Nat) (bs : List UInt8) (size : Nat) (places : List Nat) (hq : VtQ size places bs at_) (h4 : 4 ≤ size) (hn : places.length < 1000) (hi : 0 < places.length) (v : Nat) (hv : places.getD 0 0 = v) (hv0 : 0 < v) (hv1 : v < 60000)
    (to : Nat) (hle : at_ + v ≤ to) (hr : rd bs (at_ + v) 4 = to - (at_ + v)) (hto : to + 4 ≤ bs.length) (w : World) (h : TabAt b g L c at_ bs w) :
    Calls Tryz.prog 77 #[.pointer (some ⟨b, 0, none⟩), .pointer none] w (NewTab g L c to bs w) := by
  have c0 := h.c0
  have c1 := h.c1
  have hlen := h.len
  have hbig := h.big
  have hat := hq.2.2.2.2
  have hne : ((v : Int) == 0) = false := by simp; omega
  have hw0 : IntKind.u32.wrap (v : Int) = v := by rw [IntKind.wrap_u32]; omega
  have hw1 : IntKind.u32.wrap ((v : Int) + at_) = ((at_ + v : Nat) : Int) := by rw [IntKind.wrap_u32]; omega
  have HO : Hid (∀ W, TabAt b g L c at_ bs W → Calls Tryz.prog 110 #[.pointer (some ⟨b, 0, none⟩), .int .u16 4] W fun e w' => e = .returned (.int .u16 v) ∧ ∃ m, w' = W.drewN m) :=
    Lib.hid fun W hW => offset_there b g L c at_ bs size places hq h4 hn 0 hi 4 (by omega) v hv W hW
  have HI : Hid (∀ W, TabAt b g L c at_ bs W → Calls Tryz.prog 111 #[.pointer (some ⟨b, 0, none⟩), .int .u32 (at_ + v : Nat)] W fun e w' => e = .returned (.int .u32 to) ∧ ∃ m, w' = W.drewN m) :=
    Lib.hid fun W hW => indirect_any b g L c at_ bs (at_ + v) to hle hr (by omega) (by omega) W hW
  have H := Lib.hid h
  clear h hq
  go_enter Tryz.func77, Tryz.ntmps77
  go_wp2_with fail
  ((with_reducible refine (HO.out _ H.out).mono ?_))
  rintro e w1 ⟨rfl, hm1⟩
  have HB1 := Lib.hid (reads_below hm1)
  have h1 : TabAt b g L c at_ bs w1 := by obtain ⟨m, rfl⟩ := hm1; exact H.out.drewN m
  have H1 := Lib.hid h1
  have d0 := h1.c0
  have d1 := h1.c1
  have a0 : ∀ n o, ((w1.drewN n).alloc o).cell? ⟨b, 0, none⟩ = some (.slice (some ⟨g, 0, none⟩) L c) := fun n o => (Below.cell ((Below.refl w1.heap.size (w1.drewN n)).alloc (Nat.le_refl _) o) (p := ⟨b, 0, none⟩) h1.bl).trans d0
  have a1 : ∀ n o, ((w1.drewN n).alloc o).cell? ⟨b, 1, none⟩ = some (.int .u32 at_) := fun n o => (Below.cell ((Below.refl w1.heap.size (w1.drewN n)).alloc (Nat.le_refl _) o) (p := ⟨b, 1, none⟩) h1.bl).trans d1
  have HIN : Hid (∀ n, Calls Tryz.prog 112 #[.pointer (some ⟨w1.heap.size, 0, none⟩), .slice (some ⟨g, 0, none⟩) L c, .int .u32 to] ((w1.drewN n).alloc (.cells #[.slice none 0 0, .int .u32 0] 341)) fun e w' => e = .returned (.tuple #[]) ∧ TabAt w1.heap.size g L c to bs w' ∧ Below w1.heap.size w1 w') := Lib.hid fun n => by
    have hr : RowAt g L c bs (w1.drewN n) := ⟨h1.row, h1.len, h1.cap, h1.big, h1.gl⟩
    refine (initBaseNode w1.heap.size g L c _ _ to _ (heap_alloc_new (w1.drewN n) _)).mono ?_
    rintro e w' ⟨rfl, rfl⟩
    have h2 := tab_made hr to (.slice none 0 0) (.int .u32 0) 341
    exact ⟨rfl, h2.1, (reads_below (w := w1) ⟨n, rfl⟩).trans h2.2⟩
  clear hm1 c0 c1 h1
  go_wp2
  go_quiet ((go_at_call 111; refine Calls.quiet_of (HI.out _ (H1.out.drewN _))))
  go_wp2_with fail
  ((with_reducible refine (HIN.out _).mono ?_))
  rintro e w3 ⟨rfl, h3, hb3⟩
  go_wp2
  go_ret
  exact ⟨_, rfl, HB1.out.size, h3, HB1.out.trans (hb3.mono HB1.out.size)⟩


set_option maxHeartbeats 4000000 in
set_option maxRecDepth 100000 in
theorem baseNodePropertyType_none (b g L c at_ : Nat) (bs : List UInt8) (size : Nat) (places : List Nat) (hq : VtQ size places bs at_) (h4 : 4 ≤ size) (hn : places.length < 1000) (hi : 0 < places.length → places.getD 0 0 = 0) (w : World) (h : TabAt b g L c at_ bs w) :
    Calls Tryz.prog 77 #[.pointer (some ⟨b, 0, none⟩), .pointer none] w fun e w' => e = .returned (.pointer none) ∧ ∃ m, w' = w.drewN m := by
  have c0 := h.c0
  have c1 := h.c1
  have HO : Hid (∀ W, TabAt b g L c at_ bs W → Calls Tryz.prog 110 #[.pointer (some ⟨b, 0, none⟩), .int .u16 4] W fun e w' => e = .returned (.int .u16 0) ∧ ∃ m, w' = W.drewN m) :=
    Lib.hid fun W hW => offsetZ b g L c at_ bs size places hq h4 hn 0 hi (by omega) 4 (by omega) W hW
  have H := Lib.hid h
  clear h hq
  go_enter Tryz.func77, Tryz.ntmps77
  go_wp2_with fail
  ((with_reducible refine (HO.out _ H.out).mono ?_))
  rintro e w1 ⟨rfl, m1, rfl⟩
  go_wp2
  go_ret
  exact ⟨rfl, _, rfl⟩


set_option maxHeartbeats 4000000 in
set_option maxRecDepth 100000 in
theorem idPropertyType_there (b g L c at_ : Nat) (bs : List UInt8) (size : Nat) (places : List Nat) (hq : VtQ size places bs at_) (h4 : 4 ≤ size) (hn : places.length < 1000) (hi : 1 < places.length) (v : Nat) (hv : places.getD 1 0 = v) (hv0 : 0 < v) (hv1 : v < 60000)
    (to : Nat) (hle : at_ + v ≤ to) (hr : rd bs (at_ + v) 4 = to - (at_ + v)) (hto : to + 4 ≤ bs.length) (w : World) (h : TabAt b g L c at_ bs w) :
    Calls Tryz.prog 78 #[.pointer (some ⟨b, 0, none⟩), .pointer none] w (NewTab g L c to bs w) := by
  have c0 := h.c0
  have c1 := h.c1
  have hlen := h.len
  have hbig := h.big
  have hat := hq.2.2.2.2
  have hne : ((v : Int) == 0) = false := by simp; omega
  have hw0 : IntKind.u32.wrap (v : Int) = v := by rw [IntKind.wrap_u32]; omega
  have hw1 : IntKind.u32.wrap ((v : Int) + at_) = ((at_ + v : Nat) : Int) := by rw [IntKind.wrap_u32]; omega
  have HO : Hid (∀ W, TabAt b g L c at_ bs W → Calls Tryz.prog 110 #[.pointer (some ⟨b, 0, none⟩), .int .u16 6] W fun e w' => e = .returned (.int .u16 v) ∧ ∃ m, w' = W.drewN m) :=
    Lib.hid fun W hW => offset_there b g L c at_ bs size places hq h4 hn 1 hi 6 (by omega) v hv W hW
  have HI : Hid (∀ W, TabAt b g L c at_ bs W → Calls Tryz.prog 111 #[.pointer (some ⟨b, 0, none⟩), .int .u32 (at_ + v : Nat)] W fun e w' => e = .returned (.int .u32 to) ∧ ∃ m, w' = W.drewN m) :=
    Lib.hid fun W hW => indirect_any b g L c at_ bs (at_ + v) to hle hr (by omega) (by omega) W hW
  have H := Lib.hid h
  clear h hq
  go_enter Tryz.func78, Tryz.ntmps78
  go_wp2_with fail
  ((with_reducible refine (HO.out _ H.out).mono ?_))
  rintro e w1 ⟨rfl, hm1⟩
  have HB1 := Lib.hid (reads_below hm1)
  have h1 : TabAt b g L c at_ bs w1 := by obtain ⟨m, rfl⟩ := hm1; exact H.out.drewN m
  have H1 := Lib.hid h1
  have d0 := h1.c0
  have d1 := h1.c1
  have a0 : ∀ n o, ((w1.drewN n).alloc o).cell? ⟨b, 0, none⟩ = some (.slice (some ⟨g, 0, none⟩) L c) := fun n o => (Below.cell ((Below.refl w1.heap.size (w1.drewN n)).alloc (Nat.le_refl _) o) (p := ⟨b, 0, none⟩) h1.bl).trans d0
  have a1 : ∀ n o, ((w1.drewN n).alloc o).cell? ⟨b, 1, none⟩ = some (.int .u32 at_) := fun n o => (Below.cell ((Below.refl w1.heap.size (w1.drewN n)).alloc (Nat.le_refl _) o) (p := ⟨b, 1, none⟩) h1.bl).trans d1
  have HIN : Hid (∀ n, Calls Tryz.prog 135 #[.pointer (some ⟨w1.heap.size, 0, none⟩), .slice (some ⟨g, 0, none⟩) L c, .int .u32 to] ((w1.drewN n).alloc (.cells #[.slice none 0 0, .int .u32 0] 364)) fun e w' => e = .returned (.tuple #[]) ∧ TabAt w1.heap.size g L c to bs w' ∧ Below w1.heap.size w1 w') := Lib.hid fun n => by
    have hr : RowAt g L c bs (w1.drewN n) := ⟨h1.row, h1.len, h1.cap, h1.big, h1.gl⟩
    refine (initIdentifier w1.heap.size g L c _ _ to _ (heap_alloc_new (w1.drewN n) _)).mono ?_
    rintro e w' ⟨rfl, rfl⟩
    have h2 := tab_made hr to (.slice none 0 0) (.int .u32 0) 364
    exact ⟨rfl, h2.1, (reads_below (w := w1) ⟨n, rfl⟩).trans h2.2⟩
  clear hm1 c0 c1 h1
  go_wp2
  go_quiet ((go_at_call 111; refine Calls.quiet_of (HI.out _ (H1.out.drewN _))))
  go_wp2_with fail
  ((with_reducible refine (HIN.out _).mono ?_))
  rintro e w3 ⟨rfl, h3, hb3⟩
  go_wp2
  go_ret
  exact ⟨_, rfl, HB1.out.size, h3, HB1.out.trans (hb3.mono HB1.out.size)⟩


set_option maxHeartbeats 4000000 in
set_option maxRecDepth 100000 in
theorem idPropertyType_none (b g L c at_ : Nat) (bs : List UInt8) (size : Nat) (places : List Nat) (hq : VtQ size places bs at_) (h4 : 4 ≤ size) (hn : places.length < 1000) (hi : 1 < places.length → places.getD 1 0 = 0) (w : World) (h : TabAt b g L c at_ bs w) :
    Calls Tryz.prog 78 #[.pointer (some ⟨b, 0, none⟩), .pointer none] w fun e w' => e = .returned (.pointer none) ∧ ∃ m, w' = w.drewN m := by
  have c0 := h.c0
  have c1 := h.c1
  have HO : Hid (∀ W, TabAt b g L c at_ bs W → Calls Tryz.prog 110 #[.pointer (some ⟨b, 0, none⟩), .int .u16 6] W fun e w' => e = .returned (.int .u16 0) ∧ ∃ m, w' = W.drewN m) :=
    Lib.hid fun W hW => offsetZ b g L c at_ bs size places hq h4 hn 1 hi (by omega) 6 (by omega) W hW
  have H := Lib.hid h
  clear h hq
  go_enter Tryz.func78, Tryz.ntmps78
  go_wp2_with fail
  ((with_reducible refine (HO.out _ H.out).mono ?_))
  rintro e w1 ⟨rfl, m1, rfl⟩
  go_wp2
  go_ret
  exact ⟨rfl, _, rfl⟩


set_option maxHeartbeats 4000000 in
set_option maxRecDepth 100000 in
theorem monotypeTypePropertyType_there (b g L c at_ : Nat) (bs : List UInt8) (size : Nat) (places : List Nat) (hq : VtQ size places bs at_) (h4 : 4 ≤ size) (hn : places.length < 1000) (hi : 2 < places.length) (v : Nat) (hv : places.getD 2 0 = v) (hv0 : 0 < v) (hv1 : v < 60000) (u : Nat) (hr : rd bs (at_ + v) 1 = u) (hf : at_ + v + 1 ≤ bs.length) (w : World) (h : TabAt b g L c at_ bs w) :
    Calls Tryz.prog 80 #[.pointer (some ⟨b, 0, none⟩)] w fun e w' => e = .returned (.int .u8 u) ∧ ∃ m, w' = w.drewN m := by
  have c0 := h.c0
  have c1 := h.c1
  have hlen := h.len
  have hbig := h.big
  have hat := hq.2.2.2.2
  have hne : ((v : Int) == 0) = false := by simp; omega
  have hw0 : IntKind.u32.wrap (v : Int) = v := by rw [IntKind.wrap_u32]; omega
  have hw1 : IntKind.u32.wrap ((v : Int) + at_) = ((at_ + v : Nat) : Int) := by rw [IntKind.wrap_u32]; omega
  have HO : Hid (∀ W, TabAt b g L c at_ bs W → Calls Tryz.prog 110 #[.pointer (some ⟨b, 0, none⟩), .int .u16 8] W fun e w' => e = .returned (.int .u16 v) ∧ ∃ m, w' = W.drewN m) :=
    Lib.hid fun W hW => offset_there b g L c at_ bs size places hq h4 hn 2 hi 8 (by omega) v hv W hW
  have HV : Hid (∀ W, TabAt b g L c at_ bs W → Calls Tryz.prog 124 #[.pointer (some ⟨b, 0, none⟩), .int .u32 (at_ + v : Nat)] W fun e w' => e = .returned (.int .u8 u) ∧ ∃ m, w' = W.drewN m) :=
    Lib.hid fun W hW => tGetByte b g L c at_ bs (at_ + v) u (by omega) hr W hW
  have H := Lib.hid h
  clear h hq
  go_enter Tryz.func80, Tryz.ntmps80
  go_wp2_with fail
  ((with_reducible refine (HO.out _ H.out).mono ?_))
  rintro e w1 ⟨rfl, hm1⟩
  have HM1 := Lib.hid hm1
  have h1 : TabAt b g L c at_ bs w1 := by obtain ⟨m, rfl⟩ := hm1; exact H.out.drewN m
  have H1 := Lib.hid h1
  have d0 := h1.c0
  have d1 := h1.c1
  clear hm1 c0 c1 h1
  go_wp2
  go_quiet ((go_at_call 124; refine Calls.quiet_of (HV.out _ (H1.out.drewN _))))
  go_wp2
  go_ret
  obtain ⟨m, hm⟩ := HM1.out
  rw [hm, World.drewN_drewN]
  exact ⟨rfl, _, rfl⟩


set_option maxHeartbeats 4000000 in
set_option maxRecDepth 100000 in
theorem monotypePropertyType_there (b g L c at_ : Nat) (bs : List UInt8) (size : Nat) (places : List Nat) (hq : VtQ size places bs at_) (h4 : 4 ≤ size) (hn : places.length < 1000) (hi : 3 < places.length) (v : Nat) (hv : places.getD 3 0 = v) (hv0 : 0 < v) (hv1 : v < 60000) (to : Nat) (hle : at_ + v ≤ to) (hr : rd bs (at_ + v) 4 = to - (at_ + v)) (hto : to + 4 ≤ bs.length)
    (r : Nat) (x0 x1 : Value) (hrb : r ≠ b) (hrg : r ≠ g) (w : World) (h : TabAt b g L c at_ bs w) (hr0 : w.heap[r]? = some (.cells #[x0, x1] 258 (0, 0))) :
    Calls Tryz.prog 79 #[.pointer (some ⟨b, 0, none⟩), .pointer (some ⟨r, 0, none⟩)] w fun e w' => e = .returned (.bool true) ∧ ∃ m, w' = unionW (w.drewN m) r (.slice (some ⟨g, 0, none⟩) L c) to := by
  have c0 := h.c0
  have c1 := h.c1
  have hlen := h.len
  have hbig := h.big
  have hat := hq.2.2.2.2
  have hne : ((v : Int) == 0) = false := by simp; omega
  have hw0 : IntKind.u32.wrap (v : Int) = v := by rw [IntKind.wrap_u32]; omega
  have HO : Hid (∀ W, TabAt b g L c at_ bs W → Calls Tryz.prog 110 #[.pointer (some ⟨b, 0, none⟩), .int .u16 10] W fun e w' => e = .returned (.int .u16 v) ∧ ∃ m, w' = W.drewN m) :=
    Lib.hid fun W hW => offset_there b g L c at_ bs size places hq h4 hn 3 hi 10 (by omega) v hv W hW
  have HU : Hid (∀ m, Calls Tryz.prog 123 #[.pointer (some ⟨b, 0, none⟩), .pointer (some ⟨r, 0, none⟩), .int .u32 v] (w.drewN m) fun e w' => e = .returned (.tuple #[]) ∧ ∃ m', w' = unionW ((w.drewN m).drewN m') r (.slice (some ⟨g, 0, none⟩) L c) to) :=
    Lib.hid fun m => union_any b g L c at_ bs v to hle hr (by omega) (by omega) r x0 x1 hrb hrg (w.drewN m) (h.drewN m) hr0
  have H := Lib.hid h
  clear h hq hr0
  go_enter Tryz.func79, Tryz.ntmps79
  go_wp2_with fail
  ((with_reducible refine (HO.out _ H.out).mono ?_))
  rintro e w1 ⟨rfl, m1, rfl⟩
  go_wp2_with fail
  ((with_reducible refine (HU.out _).mono ?_))
  rintro e w2 ⟨rfl, m2, rfl⟩
  rw [World.drewN_drewN]
  go_wp2
  go_ret
  exact ⟨rfl, _, rfl⟩


set_option maxHeartbeats 4000000 in
set_option maxRecDepth 100000 in
theorem rootPropertyType (g L c to : Nat) (bs : List UInt8) (hr : rd bs 0 4 = to) (ht : to ≤ L) (h4 : 4 ≤ L) (w : World) (h : RowAt g L c bs w) :
    Calls Tryz.prog 28 #[.slice (some ⟨g, 0, none⟩) L c, .int .u32 0] w (NewTab g L c to bs w) := by
  have hlen := h.len
  have hbig := h.big
  have hcap := h.cap
  have hw1 : IntKind.u32.wrap (to : Int) = to := by rw [IntKind.wrap_u32]; omega
  have HG : Hid (Calls Tryz.prog 63 #[.slice (some ⟨g, 0, none⟩) L c] w fun e w' => e = .returned (.int .u32 to) ∧ ∃ m, w' = w.drewN m) :=
    Lib.hid (getUOffset_any g 0 L c bs to w h.row (by omega) (by omega) hr (by omega))
  have HIN : Hid (∀ n, Calls Tryz.prog 81 #[.pointer (some ⟨w.heap.size, 0, none⟩), .slice (some ⟨g, 0, none⟩) L c, .int .u32 to] ((w.drewN n).alloc (.cells #[.slice none 0 0, .int .u32 0] 277)) fun e w' => e = .returned (.tuple #[]) ∧ TabAt w.heap.size g L c to bs w' ∧ Below w.heap.size w w') := Lib.hid fun n => by
    have hr : RowAt g L c bs (w.drewN n) := ⟨h.row, h.len, h.cap, h.big, h.gl⟩
    refine (initPropertyType w.heap.size g L c _ _ to _ (heap_alloc_new (w.drewN n) _)).mono ?_
    rintro e w' ⟨rfl, rfl⟩
    have h2 := tab_made hr to (.slice none 0 0) (.int .u32 0) 277
    exact ⟨rfl, h2.1, (reads_below (w := w) ⟨n, rfl⟩).trans h2.2⟩
  clear h
  go_enter Tryz.func28, Tryz.ntmps28
  go_wp2_with fail
  ((with_reducible refine HG.out.mono ?_))
  rintro e w1 ⟨rfl, m1, rfl⟩
  go_wp2_with fail
  ((with_reducible refine (HIN.out _).mono ?_))
  rintro e w3 ⟨rfl, h3, hb3⟩
  go_wp2
  go_ret
  exact ⟨_, rfl, Nat.le_refl _, h3, hb3⟩


set_option maxHeartbeats 4000000 in
set_option maxRecDepth 100000 in
theorem baseNodeParameterType_there (b g L c at_ : Nat) (bs : List UInt8) (size : Nat) (places : List Nat) (hq : VtQ size places bs at_) (h4 : 4 ≤ size) (hn : places.length < 1000) (hi : 0 < places.length) (v : Nat) (hv : places.getD 0 0 = v) (hv0 : 0 < v) (hv1 : v < 60000)
    (to : Nat) (hle : at_ + v ≤ to) (hr : rd bs (at_ + v) 4 = to - (at_ + v)) (hto : to + 4 ≤ bs.length) (w : World) (h : TabAt b g L c at_ bs w) :
    Calls Tryz.prog 69 #[.pointer (some ⟨b, 0, none⟩), .pointer none] w (NewTab g L c to bs w) := by
  have c0 := h.c0
  have c1 := h.c1
  have hlen := h.len
  have hbig := h.big
  have hat := hq.2.2.2.2
  have hne : ((v : Int) == 0) = false := by simp; omega
  have hw0 : IntKind.u32.wrap (v : Int) = v := by rw [IntKind.wrap_u32]; omega
  have hw1 : IntKind.u32.wrap ((v : Int) + at_) = ((at_ + v : Nat) : Int) := by rw [IntKind.wrap_u32]; omega
  have HO : Hid (∀ W, TabAt b g L c at_ bs W → Calls Tryz.prog 110 #[.pointer (some ⟨b, 0, none⟩), .int .u16 4] W fun e w' => e = .returned (.int .u16 v) ∧ ∃ m, w' = W.drewN m) :=
    Lib.hid fun W hW => offset_there b g L c at_ bs size places hq h4 hn 0 hi 4 (by omega) v hv W hW
  have HI : Hid (∀ W, TabAt b g L c at_ bs W → Calls Tryz.prog 111 #[.pointer (some ⟨b, 0, none⟩), .int .u32 (at_ + v : Nat)] W fun e w' => e = .returned (.int .u32 to) ∧ ∃ m, w' = W.drewN m) :=
    Lib.hid fun W hW => indirect_any b g L c at_ bs (at_ + v) to hle hr (by omega) (by omega) W hW
  have H := Lib.hid h
  clear h hq
  go_enter Tryz.func69, Tryz.ntmps69
  go_wp2_with fail
  ((with_reducible refine (HO.out _ H.out).mono ?_))
  rintro e w1 ⟨rfl, hm1⟩
  have HB1 := Lib.hid (reads_below hm1)
  have h1 : TabAt b g L c at_ bs w1 := by obtain ⟨m, rfl⟩ := hm1; exact H.out.drewN m
  have H1 := Lib.hid h1
  have d0 := h1.c0
  have d1 := h1.c1
  have a0 : ∀ n o, ((w1.drewN n).alloc o).cell? ⟨b, 0, none⟩ = some (.slice (some ⟨g, 0, none⟩) L c) := fun n o => (Below.cell ((Below.refl w1.heap.size (w1.drewN n)).alloc (Nat.le_refl _) o) (p := ⟨b, 0, none⟩) h1.bl).trans d0
  have a1 : ∀ n o, ((w1.drewN n).alloc o).cell? ⟨b, 1, none⟩ = some (.int .u32 at_) := fun n o => (Below.cell ((Below.refl w1.heap.size (w1.drewN n)).alloc (Nat.le_refl _) o) (p := ⟨b, 1, none⟩) h1.bl).trans d1
  have HIN : Hid (∀ n, Calls Tryz.prog 112 #[.pointer (some ⟨w1.heap.size, 0, none⟩), .slice (some ⟨g, 0, none⟩) L c, .int .u32 to] ((w1.drewN n).alloc (.cells #[.slice none 0 0, .int .u32 0] 341)) fun e w' => e = .returned (.tuple #[]) ∧ TabAt w1.heap.size g L c to bs w' ∧ Below w1.heap.size w1 w') := Lib.hid fun n => by
    have hr : RowAt g L c bs (w1.drewN n) := ⟨h1.row, h1.len, h1.cap, h1.big, h1.gl⟩
    refine (initBaseNode w1.heap.size g L c _ _ to _ (heap_alloc_new (w1.drewN n) _)).mono ?_
    rintro e w' ⟨rfl, rfl⟩
    have h2 := tab_made hr to (.slice none 0 0) (.int .u32 0) 341
    exact ⟨rfl, h2.1, (reads_below (w := w1) ⟨n, rfl⟩).trans h2.2⟩
  clear hm1 c0 c1 h1
  go_wp2
  go_quiet ((go_at_call 111; refine Calls.quiet_of (HI.out _ (H1.out.drewN _))))
  go_wp2_with fail
  ((with_reducible refine (HIN.out _).mono ?_))
  rintro e w3 ⟨rfl, h3, hb3⟩
  go_wp2
  go_ret
  exact ⟨_, rfl, HB1.out.size, h3, HB1.out.trans (hb3.mono HB1.out.size)⟩


set_option maxHeartbeats 4000000 in
set_option maxRecDepth 100000 in
theorem baseNodeParameterType_none (b g L c at_ : Nat) (bs : List UInt8) (size : Nat) (places : List Nat) (hq : VtQ size places bs at_) (h4 : 4 ≤ size) (hn : places.length < 1000) (hi : 0 < places.length → places.getD 0 0 = 0) (w : World) (h : TabAt b g L c at_ bs w) :
    Calls Tryz.prog 69 #[.pointer (some ⟨b, 0, none⟩), .pointer none] w fun e w' => e = .returned (.pointer none) ∧ ∃ m, w' = w.drewN m := by
  have c0 := h.c0
  have c1 := h.c1
  have HO : Hid (∀ W, TabAt b g L c at_ bs W → Calls Tryz.prog 110 #[.pointer (some ⟨b, 0, none⟩), .int .u16 4] W fun e w' => e = .returned (.int .u16 0) ∧ ∃ m, w' = W.drewN m) :=
    Lib.hid fun W hW => offsetZ b g L c at_ bs size places hq h4 hn 0 hi (by omega) 4 (by omega) W hW
  have H := Lib.hid h
  clear h hq
  go_enter Tryz.func69, Tryz.ntmps69
  go_wp2_with fail
  ((with_reducible refine (HO.out _ H.out).mono ?_))
  rintro e w1 ⟨rfl, m1, rfl⟩
  go_wp2
  go_ret
  exact ⟨rfl, _, rfl⟩


set_option maxHeartbeats 4000000 in
set_option maxRecDepth 100000 in
theorem idParameterType_there (b g L c at_ : Nat) (bs : List UInt8) (size : Nat) (places : List Nat) (hq : VtQ size places bs at_) (h4 : 4 ≤ size) (hn : places.length < 1000) (hi : 1 < places.length) (v : Nat) (hv : places.getD 1 0 = v) (hv0 : 0 < v) (hv1 : v < 60000)
    (to : Nat) (hle : at_ + v ≤ to) (hr : rd bs (at_ + v) 4 = to - (at_ + v)) (hto : to + 4 ≤ bs.length) (w : World) (h : TabAt b g L c at_ bs w) :
    Calls Tryz.prog 71 #[.pointer (some ⟨b, 0, none⟩), .pointer none] w (NewTab g L c to bs w) := by
  have c0 := h.c0
  have c1 := h.c1
  have hlen := h.len
  have hbig := h.big
  have hat := hq.2.2.2.2
  have hne : ((v : Int) == 0) = false := by simp; omega
  have hw0 : IntKind.u32.wrap (v : Int) = v := by rw [IntKind.wrap_u32]; omega
  have hw1 : IntKind.u32.wrap ((v : Int) + at_) = ((at_ + v : Nat) : Int) := by rw [IntKind.wrap_u32]; omega
  have HO : Hid (∀ W, TabAt b g L c at_ bs W → Calls Tryz.prog 110 #[.pointer (some ⟨b, 0, none⟩), .int .u16 6] W fun e w' => e = .returned (.int .u16 v) ∧ ∃ m, w' = W.drewN m) :=
    Lib.hid fun W hW => offset_there b g L c at_ bs size places hq h4 hn 1 hi 6 (by omega) v hv W hW
  have HI : Hid (∀ W, TabAt b g L c at_ bs W → Calls Tryz.prog 111 #[.pointer (some ⟨b, 0, none⟩), .int .u32 (at_ + v : Nat)] W fun e w' => e = .returned (.int .u32 to) ∧ ∃ m, w' = W.drewN m) :=
    Lib.hid fun W hW => indirect_any b g L c at_ bs (at_ + v) to hle hr (by omega) (by omega) W hW
  have H := Lib.hid h
  clear h hq
  go_enter Tryz.func71, Tryz.ntmps71
  go_wp2_with fail
  ((with_reducible refine (HO.out _ H.out).mono ?_))
  rintro e w1 ⟨rfl, hm1⟩
  have HB1 := Lib.hid (reads_below hm1)
  have h1 : TabAt b g L c at_ bs w1 := by obtain ⟨m, rfl⟩ := hm1; exact H.out.drewN m
  have H1 := Lib.hid h1
  have d0 := h1.c0
  have d1 := h1.c1
  have a0 : ∀ n o, ((w1.drewN n).alloc o).cell? ⟨b, 0, none⟩ = some (.slice (some ⟨g, 0, none⟩) L c) := fun n o => (Below.cell ((Below.refl w1.heap.size (w1.drewN n)).alloc (Nat.le_refl _) o) (p := ⟨b, 0, none⟩) h1.bl).trans d0
  have a1 : ∀ n o, ((w1.drewN n).alloc o).cell? ⟨b, 1, none⟩ = some (.int .u32 at_) := fun n o => (Below.cell ((Below.refl w1.heap.size (w1.drewN n)).alloc (Nat.le_refl _) o) (p := ⟨b, 1, none⟩) h1.bl).trans d1
  have HIN : Hid (∀ n, Calls Tryz.prog 135 #[.pointer (some ⟨w1.heap.size, 0, none⟩), .slice (some ⟨g, 0, none⟩) L c, .int .u32 to] ((w1.drewN n).alloc (.cells #[.slice none 0 0, .int .u32 0] 364)) fun e w' => e = .returned (.tuple #[]) ∧ TabAt w1.heap.size g L c to bs w' ∧ Below w1.heap.size w1 w') := Lib.hid fun n => by
    have hr : RowAt g L c bs (w1.drewN n) := ⟨h1.row, h1.len, h1.cap, h1.big, h1.gl⟩
    refine (initIdentifier w1.heap.size g L c _ _ to _ (heap_alloc_new (w1.drewN n) _)).mono ?_
    rintro e w' ⟨rfl, rfl⟩
    have h2 := tab_made hr to (.slice none 0 0) (.int .u32 0) 364
    exact ⟨rfl, h2.1, (reads_below (w := w1) ⟨n, rfl⟩).trans h2.2⟩
  clear hm1 c0 c1 h1
  go_wp2
  go_quiet ((go_at_call 111; refine Calls.quiet_of (HI.out _ (H1.out.drewN _))))
  go_wp2_with fail
  ((with_reducible refine (HIN.out _).mono ?_))
  rintro e w3 ⟨rfl, h3, hb3⟩
  go_wp2
  go_ret
  exact ⟨_, rfl, HB1.out.size, h3, HB1.out.trans (hb3.mono HB1.out.size)⟩


set_option maxHeartbeats 4000000 in
set_option maxRecDepth 100000 in
theorem idParameterType_none (b g L c at_ : Nat) (bs : List UInt8) (size : Nat) (places : List Nat) (hq : VtQ size places bs at_) (h4 : 4 ≤ size) (hn : places.length < 1000) (hi : 1 < places.length → places.getD 1 0 = 0) (w : World) (h : TabAt b g L c at_ bs w) :
    Calls Tryz.prog 71 #[.pointer (some ⟨b, 0, none⟩), .pointer none] w fun e w' => e = .returned (.pointer none) ∧ ∃ m, w' = w.drewN m := by
  have c0 := h.c0
  have c1 := h.c1
  have HO : Hid (∀ W, TabAt b g L c at_ bs W → Calls Tryz.prog 110 #[.pointer (some ⟨b, 0, none⟩), .int .u16 6] W fun e w' => e = .returned (.int .u16 0) ∧ ∃ m, w' = W.drewN m) :=
    Lib.hid fun W hW => offsetZ b g L c at_ bs size places hq h4 hn 1 hi (by omega) 6 (by omega) W hW
  have H := Lib.hid h
  clear h hq
  go_enter Tryz.func71, Tryz.ntmps71
  go_wp2_with fail
  ((with_reducible refine (HO.out _ H.out).mono ?_))
  rintro e w1 ⟨rfl, m1, rfl⟩
  go_wp2
  go_ret
  exact ⟨rfl, _, rfl⟩


set_option maxHeartbeats 4000000 in
set_option maxRecDepth 100000 in
theorem monotypeTypeParameterType_there (b g L c at_ : Nat) (bs : List UInt8) (size : Nat) (places : List Nat) (hq : VtQ size places bs at_) (h4 : 4 ≤ size) (hn : places.length < 1000) (hi : 2 < places.length) (v : Nat) (hv : places.getD 2 0 = v) (hv0 : 0 < v) (hv1 : v < 60000) (u : Nat) (hr : rd bs (at_ + v) 1 = u) (hf : at_ + v + 1 ≤ bs.length) (w : World) (h : TabAt b g L c at_ bs w) :
    Calls Tryz.prog 73 #[.pointer (some ⟨b, 0, none⟩)] w fun e w' => e = .returned (.int .u8 u) ∧ ∃ m, w' = w.drewN m := by
  have c0 := h.c0
  have c1 := h.c1
  have hlen := h.len
  have hbig := h.big
  have hat := hq.2.2.2.2
  have hne : ((v : Int) == 0) = false := by simp; omega
  have hw0 : IntKind.u32.wrap (v : Int) = v := by rw [IntKind.wrap_u32]; omega
  have hw1 : IntKind.u32.wrap ((v : Int) + at_) = ((at_ + v : Nat) : Int) := by rw [IntKind.wrap_u32]; omega
  have HO : Hid (∀ W, TabAt b g L c at_ bs W → Calls Tryz.prog 110 #[.pointer (some ⟨b, 0, none⟩), .int .u16 8] W fun e w' => e = .returned (.int .u16 v) ∧ ∃ m, w' = W.drewN m) :=
    Lib.hid fun W hW => offset_there b g L c at_ bs size places hq h4 hn 2 hi 8 (by omega) v hv W hW
  have HV : Hid (∀ W, TabAt b g L c at_ bs W → Calls Tryz.prog 124 #[.pointer (some ⟨b, 0, none⟩), .int .u32 (at_ + v : Nat)] W fun e w' => e = .returned (.int .u8 u) ∧ ∃ m, w' = W.drewN m) :=
    Lib.hid fun W hW => tGetByte b g L c at_ bs (at_ + v) u (by omega) hr W hW
  have H := Lib.hid h
  clear h hq
  go_enter Tryz.func73, Tryz.ntmps73
  go_wp2_with fail
  ((with_reducible refine (HO.out _ H.out).mono ?_))
  rintro e w1 ⟨rfl, hm1⟩
  have HM1 := Lib.hid hm1
  have h1 : TabAt b g L c at_ bs w1 := by obtain ⟨m, rfl⟩ := hm1; exact H.out.drewN m
  have H1 := Lib.hid h1
  have d0 := h1.c0
  have d1 := h1.c1
  clear hm1 c0 c1 h1
  go_wp2
  go_quiet ((go_at_call 124; refine Calls.quiet_of (HV.out _ (H1.out.drewN _))))
  go_wp2
  go_ret
  obtain ⟨m, hm⟩ := HM1.out
  rw [hm, World.drewN_drewN]
  exact ⟨rfl, _, rfl⟩


set_option maxHeartbeats 4000000 in
set_option maxRecDepth 100000 in
theorem monotypeParameterType_there (b g L c at_ : Nat) (bs : List UInt8) (size : Nat) (places : List Nat) (hq : VtQ size places bs at_) (h4 : 4 ≤ size) (hn : places.length < 1000) (hi : 3 < places.length) (v : Nat) (hv : places.getD 3 0 = v) (hv0 : 0 < v) (hv1 : v < 60000) (to : Nat) (hle : at_ + v ≤ to) (hr : rd bs (at_ + v) 4 = to - (at_ + v)) (hto : to + 4 ≤ bs.length)
    (r : Nat) (x0 x1 : Value) (hrb : r ≠ b) (hrg : r ≠ g) (w : World) (h : TabAt b g L c at_ bs w) (hr0 : w.heap[r]? = some (.cells #[x0, x1] 258 (0, 0))) :
    Calls Tryz.prog 72 #[.pointer (some ⟨b, 0, none⟩), .pointer (some ⟨r, 0, none⟩)] w fun e w' => e = .returned (.bool true) ∧ ∃ m, w' = unionW (w.drewN m) r (.slice (some ⟨g, 0, none⟩) L c) to := by
  have c0 := h.c0
  have c1 := h.c1
  have hlen := h.len
  have hbig := h.big
  have hat := hq.2.2.2.2
  have hne : ((v : Int) == 0) = false := by simp; omega
  have hw0 : IntKind.u32.wrap (v : Int) = v := by rw [IntKind.wrap_u32]; omega
  have HO : Hid (∀ W, TabAt b g L c at_ bs W → Calls Tryz.prog 110 #[.pointer (some ⟨b, 0, none⟩), .int .u16 10] W fun e w' => e = .returned (.int .u16 v) ∧ ∃ m, w' = W.drewN m) :=
    Lib.hid fun W hW => offset_there b g L c at_ bs size places hq h4 hn 3 hi 10 (by omega) v hv W hW
  have HU : Hid (∀ m, Calls Tryz.prog 123 #[.pointer (some ⟨b, 0, none⟩), .pointer (some ⟨r, 0, none⟩), .int .u32 v] (w.drewN m) fun e w' => e = .returned (.tuple #[]) ∧ ∃ m', w' = unionW ((w.drewN m).drewN m') r (.slice (some ⟨g, 0, none⟩) L c) to) :=
    Lib.hid fun m => union_any b g L c at_ bs v to hle hr (by omega) (by omega) r x0 x1 hrb hrg (w.drewN m) (h.drewN m) hr0
  have H := Lib.hid h
  clear h hq hr0
  go_enter Tryz.func72, Tryz.ntmps72
  go_wp2_with fail
  ((with_reducible refine (HO.out _ H.out).mono ?_))
  rintro e w1 ⟨rfl, m1, rfl⟩
  go_wp2_with fail
  ((with_reducible refine (HU.out _).mono ?_))
  rintro e w2 ⟨rfl, m2, rfl⟩
  rw [World.drewN_drewN]
  go_wp2
  go_ret
  exact ⟨rfl, _, rfl⟩


set_option maxHeartbeats 4000000 in
set_option maxRecDepth 100000 in
theorem kindParameterType_there (b g L c at_ : Nat) (bs : List UInt8) (size : Nat) (places : List Nat) (hq : VtQ size places bs at_) (h4 : 4 ≤ size) (hn : places.length < 1000) (hi : 4 < places.length) (v : Nat) (hv : places.getD 4 0 = v) (hv0 : 0 < v) (hv1 : v < 60000) (u : Nat) (hr : rd bs (at_ + v) 1 = u) (hu : u < 128) (hf : at_ + v + 1 ≤ bs.length) (w : World) (h : TabAt b g L c at_ bs w) :
    Calls Tryz.prog 75 #[.pointer (some ⟨b, 0, none⟩)] w fun e w' => e = .returned (.int .i8 u) ∧ ∃ m, w' = w.drewN m := by
  have c0 := h.c0
  have c1 := h.c1
  have hlen := h.len
  have hbig := h.big
  have hat := hq.2.2.2.2
  have hne : ((v : Int) == 0) = false := by simp; omega
  have hw0 : IntKind.u32.wrap (v : Int) = v := by rw [IntKind.wrap_u32]; omega
  have hw1 : IntKind.u32.wrap ((v : Int) + at_) = ((at_ + v : Nat) : Int) := by rw [IntKind.wrap_u32]; omega
  have HO : Hid (∀ W, TabAt b g L c at_ bs W → Calls Tryz.prog 110 #[.pointer (some ⟨b, 0, none⟩), .int .u16 12] W fun e w' => e = .returned (.int .u16 v) ∧ ∃ m, w' = W.drewN m) :=
    Lib.hid fun W hW => offset_there b g L c at_ bs size places hq h4 hn 4 hi 12 (by omega) v hv W hW
  have HV : Hid (∀ W, TabAt b g L c at_ bs W → Calls Tryz.prog 136 #[.pointer (some ⟨b, 0, none⟩), .int .u32 (at_ + v : Nat)] W fun e w' => e = .returned (.int .i8 u) ∧ ∃ m, w' = W.drewN m) :=
    Lib.hid fun W hW => tGetInt8 b g L c at_ bs (at_ + v) u (by omega) hr hu W hW
  have H := Lib.hid h
  clear h hq
  go_enter Tryz.func75, Tryz.ntmps75
  go_wp2_with fail
  ((with_reducible refine (HO.out _ H.out).mono ?_))
  rintro e w1 ⟨rfl, hm1⟩
  have HM1 := Lib.hid hm1
  have h1 : TabAt b g L c at_ bs w1 := by obtain ⟨m, rfl⟩ := hm1; exact H.out.drewN m
  have H1 := Lib.hid h1
  have d0 := h1.c0
  have d1 := h1.c1
  clear hm1 c0 c1 h1
  go_wp2
  go_quiet ((go_at_call 136; refine Calls.quiet_of (HV.out _ (H1.out.drewN _))))
  go_wp2
  go_ret
  obtain ⟨m, hm⟩ := HM1.out
  rw [hm, World.drewN_drewN]
  exact ⟨rfl, _, rfl⟩


set_option maxHeartbeats 4000000 in
set_option maxRecDepth 100000 in
theorem rootParameterType (g L c to : Nat) (bs : List UInt8) (hr : rd bs 0 4 = to) (ht : to ≤ L) (h4 : 4 ≤ L) (w : World) (h : RowAt g L c bs w) :
    Calls Tryz.prog 26 #[.slice (some ⟨g, 0, none⟩) L c, .int .u32 0] w (NewTab g L c to bs w) := by
  have hlen := h.len
  have hbig := h.big
  have hcap := h.cap
  have hw1 : IntKind.u32.wrap (to : Int) = to := by rw [IntKind.wrap_u32]; omega
  have HG : Hid (Calls Tryz.prog 63 #[.slice (some ⟨g, 0, none⟩) L c] w fun e w' => e = .returned (.int .u32 to) ∧ ∃ m, w' = w.drewN m) :=
    Lib.hid (getUOffset_any g 0 L c bs to w h.row (by omega) (by omega) hr (by omega))
  have HIN : Hid (∀ n, Calls Tryz.prog 76 #[.pointer (some ⟨w.heap.size, 0, none⟩), .slice (some ⟨g, 0, none⟩) L c, .int .u32 to] ((w.drewN n).alloc (.cells #[.slice none 0 0, .int .u32 0] 276)) fun e w' => e = .returned (.tuple #[]) ∧ TabAt w.heap.size g L c to bs w' ∧ Below w.heap.size w w') := Lib.hid fun n => by
    have hr : RowAt g L c bs (w.drewN n) := ⟨h.row, h.len, h.cap, h.big, h.gl⟩
    refine (initParameterType w.heap.size g L c _ _ to _ (heap_alloc_new (w.drewN n) _)).mono ?_
    rintro e w' ⟨rfl, rfl⟩
    have h2 := tab_made hr to (.slice none 0 0) (.int .u32 0) 276
    exact ⟨rfl, h2.1, (reads_below (w := w) ⟨n, rfl⟩).trans h2.2⟩
  clear h
  go_enter Tryz.func26, Tryz.ntmps26
  go_wp2_with fail
  ((with_reducible refine HG.out.mono ?_))
  rintro e w1 ⟨rfl, m1, rfl⟩
  go_wp2_with fail
  ((with_reducible refine (HIN.out _).mono ?_))
  rintro e w3 ⟨rfl, h3, hb3⟩
  go_wp2
  go_ret
  exact ⟨_, rfl, Nat.le_refl _, h3, hb3⟩


set_option maxHeartbeats 4000000 in
set_option maxRecDepth 100000 in
theorem baseNodeTypeConstraint_there (b g L c at_ : Nat) (bs : List UInt8) (size : Nat) (places : List Nat) (hq : VtQ size places bs at_) (h4 : 4 ≤ size) (hn : places.length < 1000) (hi : 0 < places.length) (v : Nat) (hv : places.getD 0 0 = v) (hv0 : 0 < v) (hv1 : v < 60000)
    (to : Nat) (hle : at_ + v ≤ to) (hr : rd bs (at_ + v) 4 = to - (at_ + v)) (hto : to + 4 ≤ bs.length) (w : World) (h : TabAt b g L c at_ bs w) :
    Calls Tryz.prog 141 #[.pointer (some ⟨b, 0, none⟩), .pointer none] w (NewTab g L c to bs w) := by
  have c0 := h.c0
  have c1 := h.c1
  have hlen := h.len
  have hbig := h.big
  have hat := hq.2.2.2.2
  have hne : ((v : Int) == 0) = false := by simp; omega
  have hw0 : IntKind.u32.wrap (v : Int) = v := by rw [IntKind.wrap_u32]; omega
  have hw1 : IntKind.u32.wrap ((v : Int) + at_) = ((at_ + v : Nat) : Int) := by rw [IntKind.wrap_u32]; omega
  have HO : Hid (∀ W, TabAt b g L c at_ bs W → Calls Tryz.prog 110 #[.pointer (some ⟨b, 0, none⟩), .int .u16 4] W fun e w' => e = .returned (.int .u16 v) ∧ ∃ m, w' = W.drewN m) :=
    Lib.hid fun W hW => offset_there b g L c at_ bs size places hq h4 hn 0 hi 4 (by omega) v hv W hW
  have HI : Hid (∀ W, TabAt b g L c at_ bs W → Calls Tryz.prog 111 #[.pointer (some ⟨b, 0, none⟩), .int .u32 (at_ + v : Nat)] W fun e w' => e = .returned (.int .u32 to) ∧ ∃ m, w' = W.drewN m) :=
    Lib.hid fun W hW => indirect_any b g L c at_ bs (at_ + v) to hle hr (by omega) (by omega) W hW
  have H := Lib.hid h
  clear h hq
  go_enter Tryz.func141, Tryz.ntmps141
  go_wp2_with fail
  ((with_reducible refine (HO.out _ H.out).mono ?_))
  rintro e w1 ⟨rfl, hm1⟩
  have HB1 := Lib.hid (reads_below hm1)
  have h1 : TabAt b g L c at_ bs w1 := by obtain ⟨m, rfl⟩ := hm1; exact H.out.drewN m
  have H1 := Lib.hid h1
  have d0 := h1.c0
  have d1 := h1.c1
  have a0 : ∀ n o, ((w1.drewN n).alloc o).cell? ⟨b, 0, none⟩ = some (.slice (some ⟨g, 0, none⟩) L c) := fun n o => (Below.cell ((Below.refl w1.heap.size (w1.drewN n)).alloc (Nat.le_refl _) o) (p := ⟨b, 0, none⟩) h1.bl).trans d0
  have a1 : ∀ n o, ((w1.drewN n).alloc o).cell? ⟨b, 1, none⟩ = some (.int .u32 at_) := fun n o => (Below.cell ((Below.refl w1.heap.size (w1.drewN n)).alloc (Nat.le_refl _) o) (p := ⟨b, 1, none⟩) h1.bl).trans d1
  have HIN : Hid (∀ n, Calls Tryz.prog 112 #[.pointer (some ⟨w1.heap.size, 0, none⟩), .slice (some ⟨g, 0, none⟩) L c, .int .u32 to] ((w1.drewN n).alloc (.cells #[.slice none 0 0, .int .u32 0] 341)) fun e w' => e = .returned (.tuple #[]) ∧ TabAt w1.heap.size g L c to bs w' ∧ Below w1.heap.size w1 w') := Lib.hid fun n => by
    have hr : RowAt g L c bs (w1.drewN n) := ⟨h1.row, h1.len, h1.cap, h1.big, h1.gl⟩
    refine (initBaseNode w1.heap.size g L c _ _ to _ (heap_alloc_new (w1.drewN n) _)).mono ?_
    rintro e w' ⟨rfl, rfl⟩
    have h2 := tab_made hr to (.slice none 0 0) (.int .u32 0) 341
    exact ⟨rfl, h2.1, (reads_below (w := w1) ⟨n, rfl⟩).trans h2.2⟩
  clear hm1 c0 c1 h1
  go_wp2
  go_quiet ((go_at_call 111; refine Calls.quiet_of (HI.out _ (H1.out.drewN _))))
  go_wp2_with fail
  ((with_reducible refine (HIN.out _).mono ?_))
  rintro e w3 ⟨rfl, h3, hb3⟩
  go_wp2
  go_ret
  exact ⟨_, rfl, HB1.out.size, h3, HB1.out.trans (hb3.mono HB1.out.size)⟩


set_option maxHeartbeats 4000000 in
set_option maxRecDepth 100000 in
theorem baseNodeTypeConstraint_none (b g L c at_ : Nat) (bs : List UInt8) (size : Nat) (places : List Nat) (hq : VtQ size places bs at_) (h4 : 4 ≤ size) (hn : places.length < 1000) (hi : 0 < places.length → places.getD 0 0 = 0) (w : World) (h : TabAt b g L c at_ bs w) :
    Calls Tryz.prog 141 #[.pointer (some ⟨b, 0, none⟩), .pointer none] w fun e w' => e = .returned (.pointer none) ∧ ∃ m, w' = w.drewN m := by
  have c0 := h.c0
  have c1 := h.c1
  have HO : Hid (∀ W, TabAt b g L c at_ bs W → Calls Tryz.prog 110 #[.pointer (some ⟨b, 0, none⟩), .int .u16 4] W fun e w' => e = .returned (.int .u16 0) ∧ ∃ m, w' = W.drewN m) :=
    Lib.hid fun W hW => offsetZ b g L c at_ bs size places hq h4 hn 0 hi (by omega) 4 (by omega) W hW
  have H := Lib.hid h
  clear h hq
  go_enter Tryz.func141, Tryz.ntmps141
  go_wp2_with fail
  ((with_reducible refine (HO.out _ H.out).mono ?_))
  rintro e w1 ⟨rfl, m1, rfl⟩
  go_wp2
  go_ret
  exact ⟨rfl, _, rfl⟩


set_option maxHeartbeats 4000000 in
set_option maxRecDepth 100000 in
theorem tvarTypeConstraint_there (b g L c at_ : Nat) (bs : List UInt8) (size : Nat) (places : List Nat) (hq : VtQ size places bs at_) (h4 : 4 ≤ size) (hn : places.length < 1000) (hi : 1 < places.length) (v : Nat) (hv : places.getD 1 0 = v) (hv0 : 0 < v) (hv1 : v < 60000)
    (to : Nat) (hle : at_ + v ≤ to) (hr : rd bs (at_ + v) 4 = to - (at_ + v)) (hto : to + 4 ≤ bs.length) (w : World) (h : TabAt b g L c at_ bs w) :
    Calls Tryz.prog 142 #[.pointer (some ⟨b, 0, none⟩), .pointer none] w (NewTab g L c to bs w) := by
  have c0 := h.c0
  have c1 := h.c1
  have hlen := h.len
  have hbig := h.big
  have hat := hq.2.2.2.2
  have hne : ((v : Int) == 0) = false := by simp; omega
  have hw0 : IntKind.u32.wrap (v : Int) = v := by rw [IntKind.wrap_u32]; omega
  have hw1 : IntKind.u32.wrap ((v : Int) + at_) = ((at_ + v : Nat) : Int) := by rw [IntKind.wrap_u32]; omega
  have HO : Hid (∀ W, TabAt b g L c at_ bs W → Calls Tryz.prog 110 #[.pointer (some ⟨b, 0, none⟩), .int .u16 6] W fun e w' => e = .returned (.int .u16 v) ∧ ∃ m, w' = W.drewN m) :=
    Lib.hid fun W hW => offset_there b g L c at_ bs size places hq h4 hn 1 hi 6 (by omega) v hv W hW
  have HI : Hid (∀ W, TabAt b g L c at_ bs W → Calls Tryz.prog 111 #[.pointer (some ⟨b, 0, none⟩), .int .u32 (at_ + v : Nat)] W fun e w' => e = .returned (.int .u32 to) ∧ ∃ m, w' = W.drewN m) :=
    Lib.hid fun W hW => indirect_any b g L c at_ bs (at_ + v) to hle hr (by omega) (by omega) W hW
  have H := Lib.hid h
  clear h hq
  go_enter Tryz.func142, Tryz.ntmps142
  go_wp2_with fail
  ((with_reducible refine (HO.out _ H.out).mono ?_))
  rintro e w1 ⟨rfl, hm1⟩
  have HB1 := Lib.hid (reads_below hm1)
  have h1 : TabAt b g L c at_ bs w1 := by obtain ⟨m, rfl⟩ := hm1; exact H.out.drewN m
  have H1 := Lib.hid h1
  have d0 := h1.c0
  have d1 := h1.c1
  have a0 : ∀ n o, ((w1.drewN n).alloc o).cell? ⟨b, 0, none⟩ = some (.slice (some ⟨g, 0, none⟩) L c) := fun n o => (Below.cell ((Below.refl w1.heap.size (w1.drewN n)).alloc (Nat.le_refl _) o) (p := ⟨b, 0, none⟩) h1.bl).trans d0
  have a1 : ∀ n o, ((w1.drewN n).alloc o).cell? ⟨b, 1, none⟩ = some (.int .u32 at_) := fun n o => (Below.cell ((Below.refl w1.heap.size (w1.drewN n)).alloc (Nat.le_refl _) o) (p := ⟨b, 1, none⟩) h1.bl).trans d1
  have HIN : Hid (∀ n, Calls Tryz.prog 135 #[.pointer (some ⟨w1.heap.size, 0, none⟩), .slice (some ⟨g, 0, none⟩) L c, .int .u32 to] ((w1.drewN n).alloc (.cells #[.slice none 0 0, .int .u32 0] 364)) fun e w' => e = .returned (.tuple #[]) ∧ TabAt w1.heap.size g L c to bs w' ∧ Below w1.heap.size w1 w') := Lib.hid fun n => by
    have hr : RowAt g L c bs (w1.drewN n) := ⟨h1.row, h1.len, h1.cap, h1.big, h1.gl⟩
    refine (initIdentifier w1.heap.size g L c _ _ to _ (heap_alloc_new (w1.drewN n) _)).mono ?_
    rintro e w' ⟨rfl, rfl⟩
    have h2 := tab_made hr to (.slice none 0 0) (.int .u32 0) 364
    exact ⟨rfl, h2.1, (reads_below (w := w1) ⟨n, rfl⟩).trans h2.2⟩
  clear hm1 c0 c1 h1
  go_wp2
  go_quiet ((go_at_call 111; refine Calls.quiet_of (HI.out _ (H1.out.drewN _))))
  go_wp2_with fail
  ((with_reducible refine (HIN.out _).mono ?_))
  rintro e w3 ⟨rfl, h3, hb3⟩
  go_wp2
  go_ret
  exact ⟨_, rfl, HB1.out.size, h3, HB1.out.trans (hb3.mono HB1.out.size)⟩


set_option maxHeartbeats 4000000 in
set_option maxRecDepth 100000 in
theorem tvarTypeConstraint_none (b g L c at_ : Nat) (bs : List UInt8) (size : Nat) (places : List Nat) (hq : VtQ size places bs at_) (h4 : 4 ≤ size) (hn : places.length < 1000) (hi : 1 < places.length → places.getD 1 0 = 0) (w : World) (h : TabAt b g L c at_ bs w) :
    Calls Tryz.prog 142 #[.pointer (some ⟨b, 0, none⟩), .pointer none] w fun e w' => e = .returned (.pointer none) ∧ ∃ m, w' = w.drewN m := by
  have c0 := h.c0
  have c1 := h.c1
  have HO : Hid (∀ W, TabAt b g L c at_ bs W → Calls Tryz.prog 110 #[.pointer (some ⟨b, 0, none⟩), .int .u16 6] W fun e w' => e = .returned (.int .u16 0) ∧ ∃ m, w' = W.drewN m) :=
    Lib.hid fun W hW => offsetZ b g L c at_ bs size places hq h4 hn 1 hi (by omega) 6 (by omega) W hW
  have H := Lib.hid h
  clear h hq
  go_enter Tryz.func142, Tryz.ntmps142
  go_wp2_with fail
  ((with_reducible refine (HO.out _ H.out).mono ?_))
  rintro e w1 ⟨rfl, m1, rfl⟩
  go_wp2
  go_ret
  exact ⟨rfl, _, rfl⟩


set_option maxHeartbeats 4000000 in
set_option maxRecDepth 100000 in
theorem kindsLengthTypeConstraint_there (b g L c at_ : Nat) (bs : List UInt8) (size : Nat) (places : List Nat) (hq : VtQ size places bs at_) (h4 : 4 ≤ size) (hn : places.length < 1000) (hi : 2 < places.length) (v : Nat) (hv : places.getD 2 0 = v) (hv0 : 0 < v) (hv1 : v < 60000) (to n : Nat) (hle : at_ + v ≤ to) (hr : rd bs (at_ + v) 4 = to - (at_ + v)) (hn2 : rd bs to 4 = n) (ht : to + 4 + 4 * n ≤ bs.length) (w : World) (h : TabAt b g L c at_ bs w) :
    Calls Tryz.prog 143 #[.pointer (some ⟨b, 0, none⟩)] w fun e w' => e = .returned (.int .i64 n) ∧ ∃ m, w' = w.drewN m := by
  have c0 := h.c0
  have c1 := h.c1
  have hlen := h.len
  have hbig := h.big
  have hat := hq.2.2.2.2
  have hne : ((v : Int) == 0) = false := by simp; omega
  have hw0 : IntKind.u32.wrap (v : Int) = v := by rw [IntKind.wrap_u32]; omega
  have HO : Hid (∀ W, TabAt b g L c at_ bs W → Calls Tryz.prog 110 #[.pointer (some ⟨b, 0, none⟩), .int .u16 8] W fun e w' => e = .returned (.int .u16 v) ∧ ∃ m, w' = W.drewN m) :=
    Lib.hid fun W hW => offset_there b g L c at_ bs size places hq h4 hn 2 hi 8 (by omega) v hv W hW
  have HV : Hid (∀ W, TabAt b g L c at_ bs W → Calls Tryz.prog 137 #[.pointer (some ⟨b, 0, none⟩), .int .u32 v] W fun e w' => e = .returned (.int .i64 n) ∧ ∃ m, w' = W.drewN m) :=
    Lib.hid fun W hW => vectorLen_any b g L c at_ bs v to n hle hr (by omega) hn2 (by omega) (by omega) W hW
  have H := Lib.hid h
  clear h hq
  go_enter Tryz.func143, Tryz.ntmps143
  go_wp2_with fail
  ((with_reducible refine (HO.out _ H.out).mono ?_))
  rintro e w1 ⟨rfl, hm1⟩
  have HM1 := Lib.hid hm1
  have h1 : TabAt b g L c at_ bs w1 := by obtain ⟨m, rfl⟩ := hm1; exact H.out.drewN m
  have H1 := Lib.hid h1
  have d0 := h1.c0
  have d1 := h1.c1
  clear hm1 c0 c1 h1
  go_wp2_with fail
  ((with_reducible refine (HV.out _ H1.out).mono ?_))
  rintro e w2 ⟨rfl, m2, rfl⟩
  go_wp2
  go_ret
  obtain ⟨m, hm⟩ := HM1.out
  rw [hm, World.drewN_drewN]
  exact ⟨rfl, _, rfl⟩


set_option maxHeartbeats 4000000 in
set_option maxRecDepth 100000 in
theorem kindsTypeConstraint_there (b g L c at_ : Nat) (bs : List UInt8) (size : Nat) (places : List Nat) (hq : VtQ size places bs at_) (h4 : 4 ≤ size) (hn : places.length < 1000) (hi : 2 < places.length) (v : Nat) (hv : places.getD 2 0 = v) (hv0 : 0 < v) (hv1 : v < 60000) (to n : Nat) (hle : at_ + v ≤ to) (hr : rd bs (at_ + v) 4 = to - (at_ + v)) (hn2 : rd bs to 4 = n) (ht : to + 4 + 4 * n ≤ bs.length) (j q : Nat) (hj : j < n) (hq1 : to + 4 + 4 * j ≤ q) (hq2 : rd bs (to + 4 + 4 * j) 4 = q - (to + 4 + 4 * j)) (hq3 : q + 4 ≤ bs.length)
    (r : Nat) (x0 x1 : Value) (w : World) (h : TabAt b g L c at_ bs w) (hr0 : w.heap[r]? = some (.cells #[x0, x1] 364 (0, 0))) :
    Calls Tryz.prog 144 #[.pointer (some ⟨b, 0, none⟩), .pointer (some ⟨r, 0, none⟩), .int .i64 j] w fun e w' => e = .returned (.bool true) ∧ ∃ m, w' = initW (w.drewN m) r (.slice (some ⟨g, 0, none⟩) L c) q := by
  have c0 := h.c0
  have c1 := h.c1
  have hlen := h.len
  have hbig := h.big
  have hat := hq.2.2.2.2
  have hne : ((v : Int) == 0) = false := by simp; omega
  have hw0 : IntKind.u32.wrap (v : Int) = v := by rw [IntKind.wrap_u32]; omega
  have hw1 : IntKind.u32.wrap (j : Int) = j := by rw [IntKind.wrap_u32]; omega
  have hw2 : IntKind.u32.wrap ((j : Int) * 4) = ((4 * j : Nat) : Int) := by rw [IntKind.wrap_u32]; omega
  have hw3 : IntKind.u32.wrap (((to + 4 : Nat) : Int) + ((4 * j : Nat) : Int)) = ((to + 4 + 4 * j : Nat) : Int) := by rw [IntKind.wrap_u32]; omega
  have HO : Hid (∀ W, TabAt b g L c at_ bs W → Calls Tryz.prog 110 #[.pointer (some ⟨b, 0, none⟩), .int .u16 8] W fun e w' => e = .returned (.int .u16 v) ∧ ∃ m, w' = W.drewN m) :=
    Lib.hid fun W hW => offset_there b g L c at_ bs size places hq h4 hn 2 hi 8 (by omega) v hv W hW
  have HV : Hid (∀ W, TabAt b g L c at_ bs W → Calls Tryz.prog 138 #[.pointer (some ⟨b, 0, none⟩), .int .u32 v] W fun e w' => e = .returned (.int .u32 (to + 4 : Nat)) ∧ ∃ m, w' = W.drewN m) :=
    Lib.hid fun W hW => vector_any b g L c at_ bs v to n hle hr (by omega) hn2 (by omega) (by omega) W hW
  have HI : Hid (∀ W, TabAt b g L c at_ bs W → Calls Tryz.prog 111 #[.pointer (some ⟨b, 0, none⟩), .int .u32 ((to : Int) + 4 + 4 * (j : Int))] W fun e w' => e = .returned (.int .u32 q) ∧ ∃ m, w' = W.drewN m) :=
    Lib.hid fun W hW => by
      rw [show ((to : Int) + 4 + 4 * (j : Int)) = ((to + 4 + 4 * j : Nat) : Int) by omega]
      exact indirect_any b g L c at_ bs (to + 4 + 4 * j) q hq1 hq2 (by omega) (by omega) W hW
  have HIN : Hid (∀ m, Calls Tryz.prog 135 #[.pointer (some ⟨r, 0, none⟩), .slice (some ⟨g, 0, none⟩) L c, .int .u32 q] (w.drewN m) fun e w' => e = .returned (.tuple #[]) ∧ w' = initW (w.drewN m) r (.slice (some ⟨g, 0, none⟩) L c) q) := Lib.hid fun m => initIdentifier r g L c x0 x1 q (w.drewN m) hr0
  have H := Lib.hid h
  have C0 : Hid (∀ m, (w.drewN m).cell? ⟨b, 0, none⟩ = some (.slice (some ⟨g, 0, none⟩) L c)) := Lib.hid fun m => c0
  clear h hq hr0
  go_enter Tryz.func144, Tryz.ntmps144
  go_wp2_with fail
  ((with_reducible refine (HO.out _ H.out).mono ?_))
  rintro e w1 ⟨rfl, m1, rfl⟩
  go_wp2_with fail
  ((with_reducible refine (HV.out _ (H.out.drewN _)).mono ?_))
  rintro e w2 ⟨rfl, m2, rfl⟩
  rw [World.drewN_drewN]
  go_wp2_with fail
  ((with_reducible refine (HI.out _ (H.out.drewN _)).mono ?_))
  rintro e w3 ⟨rfl, m3, rfl⟩
  rw [World.drewN_drewN]
  have d0 := C0.out (m1 + m2 + m3)
  go_wp2_with fail
  ((with_reducible refine (HIN.out _).mono ?_))
  rintro e w4 ⟨rfl, rfl⟩
  go_wp2
  go_ret
  exact ⟨rfl, _, rfl⟩


set_option maxHeartbeats 4000000 in
set_option maxRecDepth 100000 in
theorem baseNodeRecordType_there (b g L c at_ : Nat) (bs : List UInt8) (size : Nat) (places : List Nat) (hq : VtQ size places bs at_) (h4 : 4 ≤ size) (hn : places.length < 1000) (hi : 0 < places.length) (v : Nat) (hv : places.getD 0 0 = v) (hv0 : 0 < v) (hv1 : v < 60000)
    (to : Nat) (hle : at_ + v ≤ to) (hr : rd bs (at_ + v) 4 = to - (at_ + v)) (hto : to + 4 ≤ bs.length) (w : World) (h : TabAt b g L c at_ bs w) :
    Calls Tryz.prog 179 #[.pointer (some ⟨b, 0, none⟩), .pointer none] w (NewTab g L c to bs w) := by
  have c0 := h.c0
  have c1 := h.c1
  have hlen := h.len
  have hbig := h.big
  have hat := hq.2.2.2.2
  have hne : ((v : Int) == 0) = false := by simp; omega
  have hw0 : IntKind.u32.wrap (v : Int) = v := by rw [IntKind.wrap_u32]; omega
  have hw1 : IntKind.u32.wrap ((v : Int) + at_) = ((at_ + v : Nat) : Int) := by rw [IntKind.wrap_u32]; omega
  have HO : Hid (∀ W, TabAt b g L c at_ bs W → Calls Tryz.prog 110 #[.pointer (some ⟨b, 0, none⟩), .int .u16 4] W fun e w' => e = .returned (.int .u16 v) ∧ ∃ m, w' = W.drewN m) :=
    Lib.hid fun W hW => offset_there b g L c at_ bs size places hq h4 hn 0 hi 4 (by omega) v hv W hW
  have HI : Hid (∀ W, TabAt b g L c at_ bs W → Calls Tryz.prog 111 #[.pointer (some ⟨b, 0, none⟩), .int .u32 (at_ + v : Nat)] W fun e w' => e = .returned (.int .u32 to) ∧ ∃ m, w' = W.drewN m) :=
    Lib.hid fun W hW => indirect_any b g L c at_ bs (at_ + v) to hle hr (by omega) (by omega) W hW
  have H := Lib.hid h
  clear h hq
  go_enter Tryz.func179, Tryz.ntmps179
  go_wp2_with fail
  ((with_reducible refine (HO.out _ H.out).mono ?_))
  rintro e w1 ⟨rfl, hm1⟩
  have HB1 := Lib.hid (reads_below hm1)
  have h1 : TabAt b g L c at_ bs w1 := by obtain ⟨m, rfl⟩ := hm1; exact H.out.drewN m
  have H1 := Lib.hid h1
  have d0 := h1.c0
  have d1 := h1.c1
  have a0 : ∀ n o, ((w1.drewN n).alloc o).cell? ⟨b, 0, none⟩ = some (.slice (some ⟨g, 0, none⟩) L c) := fun n o => (Below.cell ((Below.refl w1.heap.size (w1.drewN n)).alloc (Nat.le_refl _) o) (p := ⟨b, 0, none⟩) h1.bl).trans d0
  have a1 : ∀ n o, ((w1.drewN n).alloc o).cell? ⟨b, 1, none⟩ = some (.int .u32 at_) := fun n o => (Below.cell ((Below.refl w1.heap.size (w1.drewN n)).alloc (Nat.le_refl _) o) (p := ⟨b, 1, none⟩) h1.bl).trans d1
  have HIN : Hid (∀ n, Calls Tryz.prog 112 #[.pointer (some ⟨w1.heap.size, 0, none⟩), .slice (some ⟨g, 0, none⟩) L c, .int .u32 to] ((w1.drewN n).alloc (.cells #[.slice none 0 0, .int .u32 0] 341)) fun e w' => e = .returned (.tuple #[]) ∧ TabAt w1.heap.size g L c to bs w' ∧ Below w1.heap.size w1 w') := Lib.hid fun n => by
    have hr : RowAt g L c bs (w1.drewN n) := ⟨h1.row, h1.len, h1.cap, h1.big, h1.gl⟩
    refine (initBaseNode w1.heap.size g L c _ _ to _ (heap_alloc_new (w1.drewN n) _)).mono ?_
    rintro e w' ⟨rfl, rfl⟩
    have h2 := tab_made hr to (.slice none 0 0) (.int .u32 0) 341
    exact ⟨rfl, h2.1, (reads_below (w := w1) ⟨n, rfl⟩).trans h2.2⟩
  clear hm1 c0 c1 h1
  go_wp2
  go_quiet ((go_at_call 111; refine Calls.quiet_of (HI.out _ (H1.out.drewN _))))
  go_wp2_with fail
  ((with_reducible refine (HIN.out _).mono ?_))
  rintro e w3 ⟨rfl, h3, hb3⟩
  go_wp2
  go_ret
  exact ⟨_, rfl, HB1.out.size, h3, HB1.out.trans (hb3.mono HB1.out.size)⟩


set_option maxHeartbeats 4000000 in
set_option maxRecDepth 100000 in
theorem baseNodeRecordType_none (b g L c at_ : Nat) (bs : List UInt8) (size : Nat) (places : List Nat) (hq : VtQ size places bs at_) (h4 : 4 ≤ size) (hn : places.length < 1000) (hi : 0 < places.length → places.getD 0 0 = 0) (w : World) (h : TabAt b g L c at_ bs w) :
    Calls Tryz.prog 179 #[.pointer (some ⟨b, 0, none⟩), .pointer none] w fun e w' => e = .returned (.pointer none) ∧ ∃ m, w' = w.drewN m := by
  have c0 := h.c0
  have c1 := h.c1
  have HO : Hid (∀ W, TabAt b g L c at_ bs W → Calls Tryz.prog 110 #[.pointer (some ⟨b, 0, none⟩), .int .u16 4] W fun e w' => e = .returned (.int .u16 0) ∧ ∃ m, w' = W.drewN m) :=
    Lib.hid fun W hW => offsetZ b g L c at_ bs size places hq h4 hn 0 hi (by omega) 4 (by omega) W hW
  have H := Lib.hid h
  clear h hq
  go_enter Tryz.func179, Tryz.ntmps179
  go_wp2_with fail
  ((with_reducible refine (HO.out _ H.out).mono ?_))
  rintro e w1 ⟨rfl, m1, rfl⟩
  go_wp2
  go_ret
  exact ⟨rfl, _, rfl⟩


set_option maxHeartbeats 4000000 in
set_option maxRecDepth 100000 in
theorem propertiesLengthRecordType_there (b g L c at_ : Nat) (bs : List UInt8) (size : Nat) (places : List Nat) (hq : VtQ size places bs at_) (h4 : 4 ≤ size) (hn : places.length < 1000) (hi : 1 < places.length) (v : Nat) (hv : places.getD 1 0 = v) (hv0 : 0 < v) (hv1 : v < 60000) (to n : Nat) (hle : at_ + v ≤ to) (hr : rd bs (at_ + v) 4 = to - (at_ + v)) (hn2 : rd bs to 4 = n) (ht : to + 4 + 4 * n ≤ bs.length) (w : World) (h : TabAt b g L c at_ bs w) :
    Calls Tryz.prog 181 #[.pointer (some ⟨b, 0, none⟩)] w fun e w' => e = .returned (.int .i64 n) ∧ ∃ m, w' = w.drewN m := by
  have c0 := h.c0
  have c1 := h.c1
  have hlen := h.len
  have hbig := h.big
  have hat := hq.2.2.2.2
  have hne : ((v : Int) == 0) = false := by simp; omega
  have hw0 : IntKind.u32.wrap (v : Int) = v := by rw [IntKind.wrap_u32]; omega
  have HO : Hid (∀ W, TabAt b g L c at_ bs W → Calls Tryz.prog 110 #[.pointer (some ⟨b, 0, none⟩), .int .u16 6] W fun e w' => e = .returned (.int .u16 v) ∧ ∃ m, w' = W.drewN m) :=
    Lib.hid fun W hW => offset_there b g L c at_ bs size places hq h4 hn 1 hi 6 (by omega) v hv W hW
  have HV : Hid (∀ W, TabAt b g L c at_ bs W → Calls Tryz.prog 137 #[.pointer (some ⟨b, 0, none⟩), .int .u32 v] W fun e w' => e = .returned (.int .i64 n) ∧ ∃ m, w' = W.drewN m) :=
    Lib.hid fun W hW => vectorLen_any b g L c at_ bs v to n hle hr (by omega) hn2 (by omega) (by omega) W hW
  have H := Lib.hid h
  clear h hq
  go_enter Tryz.func181, Tryz.ntmps181
  go_wp2_with fail
  ((with_reducible refine (HO.out _ H.out).mono ?_))
  rintro e w1 ⟨rfl, hm1⟩
  have HM1 := Lib.hid hm1
  have h1 : TabAt b g L c at_ bs w1 := by obtain ⟨m, rfl⟩ := hm1; exact H.out.drewN m
  have H1 := Lib.hid h1
  have d0 := h1.c0
  have d1 := h1.c1
  clear hm1 c0 c1 h1
  go_wp2_with fail
  ((with_reducible refine (HV.out _ H1.out).mono ?_))
  rintro e w2 ⟨rfl, m2, rfl⟩
  go_wp2
  go_ret
  obtain ⟨m, hm⟩ := HM1.out
  rw [hm, World.drewN_drewN]
  exact ⟨rfl, _, rfl⟩


set_option maxHeartbeats 4000000 in
set_option maxRecDepth 100000 in
theorem propertiesRecordType_there (b g L c at_ : Nat) (bs : List UInt8) (size : Nat) (places : List Nat) (hq : VtQ size places bs at_) (h4 : 4 ≤ size) (hn : places.length < 1000) (hi : 1 < places.length) (v : Nat) (hv : places.getD 1 0 = v) (hv0 : 0 < v) (hv1 : v < 60000) (to n : Nat) (hle : at_ + v ≤ to) (hr : rd bs (at_ + v) 4 = to - (at_ + v)) (hn2 : rd bs to 4 = n) (ht : to + 4 + 4 * n ≤ bs.length) (j q : Nat) (hj : j < n) (hq1 : to + 4 + 4 * j ≤ q) (hq2 : rd bs (to + 4 + 4 * j) 4 = q - (to + 4 + 4 * j)) (hq3 : q + 4 ≤ bs.length)
    (r : Nat) (x0 x1 : Value) (w : World) (h : TabAt b g L c at_ bs w) (hr0 : w.heap[r]? = some (.cells #[x0, x1] 277 (0, 0))) :
    Calls Tryz.prog 182 #[.pointer (some ⟨b, 0, none⟩), .pointer (some ⟨r, 0, none⟩), .int .i64 j] w fun e w' => e = .returned (.bool true) ∧ ∃ m, w' = initW (w.drewN m) r (.slice (some ⟨g, 0, none⟩) L c) q := by
  have c0 := h.c0
  have c1 := h.c1
  have hlen := h.len
  have hbig := h.big
  have hat := hq.2.2.2.2
  have hne : ((v : Int) == 0) = false := by simp; omega
  have hw0 : IntKind.u32.wrap (v : Int) = v := by rw [IntKind.wrap_u32]; omega
  have hw1 : IntKind.u32.wrap (j : Int) = j := by rw [IntKind.wrap_u32]; omega
  have hw2 : IntKind.u32.wrap ((j : Int) * 4) = ((4 * j : Nat) : Int) := by rw [IntKind.wrap_u32]; omega
  have hw3 : IntKind.u32.wrap (((to + 4 : Nat) : Int) + ((4 * j : Nat) : Int)) = ((to + 4 + 4 * j : Nat) : Int) := by rw [IntKind.wrap_u32]; omega
  have HO : Hid (∀ W, TabAt b g L c at_ bs W → Calls Tryz.prog 110 #[.pointer (some ⟨b, 0, none⟩), .int .u16 6] W fun e w' => e = .returned (.int .u16 v) ∧ ∃ m, w' = W.drewN m) :=
    Lib.hid fun W hW => offset_there b g L c at_ bs size places hq h4 hn 1 hi 6 (by omega) v hv W hW
  have HV : Hid (∀ W, TabAt b g L c at_ bs W → Calls Tryz.prog 138 #[.pointer (some ⟨b, 0, none⟩), .int .u32 v] W fun e w' => e = .returned (.int .u32 (to + 4 : Nat)) ∧ ∃ m, w' = W.drewN m) :=
    Lib.hid fun W hW => vector_any b g L c at_ bs v to n hle hr (by omega) hn2 (by omega) (by omega) W hW
  have HI : Hid (∀ W, TabAt b g L c at_ bs W → Calls Tryz.prog 111 #[.pointer (some ⟨b, 0, none⟩), .int .u32 ((to : Int) + 4 + 4 * (j : Int))] W fun e w' => e = .returned (.int .u32 q) ∧ ∃ m, w' = W.drewN m) :=
    Lib.hid fun W hW => by
      rw [show ((to : Int) + 4 + 4 * (j : Int)) = ((to + 4 + 4 * j : Nat) : Int) by omega]
      exact indirect_any b g L c at_ bs (to + 4 + 4 * j) q hq1 hq2 (by omega) (by omega) W hW
  have HIN : Hid (∀ m, Calls Tryz.prog 81 #[.pointer (some ⟨r, 0, none⟩), .slice (some ⟨g, 0, none⟩) L c, .int .u32 q] (w.drewN m) fun e w' => e = .returned (.tuple #[]) ∧ w' = initW (w.drewN m) r (.slice (some ⟨g, 0, none⟩) L c) q) := Lib.hid fun m => initPropertyType r g L c x0 x1 q (w.drewN m) hr0
  have H := Lib.hid h
  have C0 : Hid (∀ m, (w.drewN m).cell? ⟨b, 0, none⟩ = some (.slice (some ⟨g, 0, none⟩) L c)) := Lib.hid fun m => c0
  clear h hq hr0
  go_enter Tryz.func182, Tryz.ntmps182
  go_wp2_with fail
  ((with_reducible refine (HO.out _ H.out).mono ?_))
  rintro e w1 ⟨rfl, m1, rfl⟩
  go_wp2_with fail
  ((with_reducible refine (HV.out _ (H.out.drewN _)).mono ?_))
  rintro e w2 ⟨rfl, m2, rfl⟩
  rw [World.drewN_drewN]
  go_wp2_with fail
  ((with_reducible refine (HI.out _ (H.out.drewN _)).mono ?_))
  rintro e w3 ⟨rfl, m3, rfl⟩
  rw [World.drewN_drewN]
  have d0 := C0.out (m1 + m2 + m3)
  go_wp2_with fail
  ((with_reducible refine (HIN.out _).mono ?_))
  rintro e w4 ⟨rfl, rfl⟩
  go_wp2
  go_ret
  exact ⟨rfl, _, rfl⟩


set_option maxHeartbeats 4000000 in
set_option maxRecDepth 100000 in
theorem tvarRecordType_there (b g L c at_ : Nat) (bs : List UInt8) (size : Nat) (places : List Nat) (hq : VtQ size places bs at_) (h4 : 4 ≤ size) (hn : places.length < 1000) (hi : 2 < places.length) (v : Nat) (hv : places.getD 2 0 = v) (hv0 : 0 < v) (hv1 : v < 60000)
    (to : Nat) (hle : at_ + v ≤ to) (hr : rd bs (at_ + v) 4 = to - (at_ + v)) (hto : to + 4 ≤ bs.length) (w : World) (h : TabAt b g L c at_ bs w) :
    Calls Tryz.prog 180 #[.pointer (some ⟨b, 0, none⟩), .pointer none] w (NewTab g L c to bs w) := by
  have c0 := h.c0
  have c1 := h.c1
  have hlen := h.len
  have hbig := h.big
  have hat := hq.2.2.2.2
  have hne : ((v : Int) == 0) = false := by simp; omega
  have hw0 : IntKind.u32.wrap (v : Int) = v := by rw [IntKind.wrap_u32]; omega
  have hw1 : IntKind.u32.wrap ((v : Int) + at_) = ((at_ + v : Nat) : Int) := by rw [IntKind.wrap_u32]; omega
  have HO : Hid (∀ W, TabAt b g L c at_ bs W → Calls Tryz.prog 110 #[.pointer (some ⟨b, 0, none⟩), .int .u16 8] W fun e w' => e = .returned (.int .u16 v) ∧ ∃ m, w' = W.drewN m) :=
    Lib.hid fun W hW => offset_there b g L c at_ bs size places hq h4 hn 2 hi 8 (by omega) v hv W hW
  have HI : Hid (∀ W, TabAt b g L c at_ bs W → Calls Tryz.prog 111 #[.pointer (some ⟨b, 0, none⟩), .int .u32 (at_ + v : Nat)] W fun e w' => e = .returned (.int .u32 to) ∧ ∃ m, w' = W.drewN m) :=
    Lib.hid fun W hW => indirect_any b g L c at_ bs (at_ + v) to hle hr (by omega) (by omega) W hW
  have H := Lib.hid h
  clear h hq
  go_enter Tryz.func180, Tryz.ntmps180
  go_wp2_with fail
  ((with_reducible refine (HO.out _ H.out).mono ?_))
  rintro e w1 ⟨rfl, hm1⟩
  have HB1 := Lib.hid (reads_below hm1)
  have h1 : TabAt b g L c at_ bs w1 := by obtain ⟨m, rfl⟩ := hm1; exact H.out.drewN m
  have H1 := Lib.hid h1
  have d0 := h1.c0
  have d1 := h1.c1
  have a0 : ∀ n o, ((w1.drewN n).alloc o).cell? ⟨b, 0, none⟩ = some (.slice (some ⟨g, 0, none⟩) L c) := fun n o => (Below.cell ((Below.refl w1.heap.size (w1.drewN n)).alloc (Nat.le_refl _) o) (p := ⟨b, 0, none⟩) h1.bl).trans d0
  have a1 : ∀ n o, ((w1.drewN n).alloc o).cell? ⟨b, 1, none⟩ = some (.int .u32 at_) := fun n o => (Below.cell ((Below.refl w1.heap.size (w1.drewN n)).alloc (Nat.le_refl _) o) (p := ⟨b, 1, none⟩) h1.bl).trans d1
  have HIN : Hid (∀ n, Calls Tryz.prog 135 #[.pointer (some ⟨w1.heap.size, 0, none⟩), .slice (some ⟨g, 0, none⟩) L c, .int .u32 to] ((w1.drewN n).alloc (.cells #[.slice none 0 0, .int .u32 0] 364)) fun e w' => e = .returned (.tuple #[]) ∧ TabAt w1.heap.size g L c to bs w' ∧ Below w1.heap.size w1 w') := Lib.hid fun n => by
    have hr : RowAt g L c bs (w1.drewN n) := ⟨h1.row, h1.len, h1.cap, h1.big, h1.gl⟩
    refine (initIdentifier w1.heap.size g L c _ _ to _ (heap_alloc_new (w1.drewN n) _)).mono ?_
    rintro e w' ⟨rfl, rfl⟩
    have h2 := tab_made hr to (.slice none 0 0) (.int .u32 0) 364
    exact ⟨rfl, h2.1, (reads_below (w := w1) ⟨n, rfl⟩).trans h2.2⟩
  clear hm1 c0 c1 h1
  go_wp2
  go_quiet ((go_at_call 111; refine Calls.quiet_of (HI.out _ (H1.out.drewN _))))
  go_wp2_with fail
  ((with_reducible refine (HIN.out _).mono ?_))
  rintro e w3 ⟨rfl, h3, hb3⟩
  go_wp2
  go_ret
  exact ⟨_, rfl, HB1.out.size, h3, HB1.out.trans (hb3.mono HB1.out.size)⟩


set_option maxHeartbeats 4000000 in
set_option maxRecDepth 100000 in
theorem tvarRecordType_none (b g L c at_ : Nat) (bs : List UInt8) (size : Nat) (places : List Nat) (hq : VtQ size places bs at_) (h4 : 4 ≤ size) (hn : places.length < 1000) (hi : 2 < places.length → places.getD 2 0 = 0) (w : World) (h : TabAt b g L c at_ bs w) :
    Calls Tryz.prog 180 #[.pointer (some ⟨b, 0, none⟩), .pointer none] w fun e w' => e = .returned (.pointer none) ∧ ∃ m, w' = w.drewN m := by
  have c0 := h.c0
  have c1 := h.c1
  have HO : Hid (∀ W, TabAt b g L c at_ bs W → Calls Tryz.prog 110 #[.pointer (some ⟨b, 0, none⟩), .int .u16 8] W fun e w' => e = .returned (.int .u16 0) ∧ ∃ m, w' = W.drewN m) :=
    Lib.hid fun W hW => offsetZ b g L c at_ bs size places hq h4 hn 2 hi (by omega) 8 (by omega) W hW
  have H := Lib.hid h
  clear h hq
  go_enter Tryz.func180, Tryz.ntmps180
  go_wp2_with fail
  ((with_reducible refine (HO.out _ H.out).mono ?_))
  rintro e w1 ⟨rfl, m1, rfl⟩
  go_wp2
  go_ret
  exact ⟨rfl, _, rfl⟩


set_option maxHeartbeats 4000000 in
set_option maxRecDepth 100000 in
theorem baseNodeFunctionType_there (b g L c at_ : Nat) (bs : List UInt8) (size : Nat) (places : List Nat) (hq : VtQ size places bs at_) (h4 : 4 ≤ size) (hn : places.length < 1000) (hi : 0 < places.length) (v : Nat) (hv : places.getD 0 0 = v) (hv0 : 0 < v) (hv1 : v < 60000)
    (to : Nat) (hle : at_ + v ≤ to) (hr : rd bs (at_ + v) 4 = to - (at_ + v)) (hto : to + 4 ≤ bs.length) (w : World) (h : TabAt b g L c at_ bs w) :
    Calls Tryz.prog 183 #[.pointer (some ⟨b, 0, none⟩), .pointer none] w (NewTab g L c to bs w) := by
  have c0 := h.c0
  have c1 := h.c1
  have hlen := h.len
  have hbig := h.big
  have hat := hq.2.2.2.2
  have hne : ((v : Int) == 0) = false := by simp; omega
  have hw0 : IntKind.u32.wrap (v : Int) = v := by rw [IntKind.wrap_u32]; omega
  have hw1 : IntKind.u32.wrap ((v : Int) + at_) = ((at_ + v : Nat) : Int) := by rw [IntKind.wrap_u32]; omega
  have HO : Hid (∀ W, TabAt b g L c at_ bs W → Calls Tryz.prog 110 #[.pointer (some ⟨b, 0, none⟩), .int .u16 4] W fun e w' => e = .returned (.int .u16 v) ∧ ∃ m, w' = W.drewN m) :=
    Lib.hid fun W hW => offset_there b g L c at_ bs size places hq h4 hn 0 hi 4 (by omega) v hv W hW
  have HI : Hid (∀ W, TabAt b g L c at_ bs W → Calls Tryz.prog 111 #[.pointer (some ⟨b, 0, none⟩), .int .u32 (at_ + v : Nat)] W fun e w' => e = .returned (.int .u32 to) ∧ ∃ m, w' = W.drewN m) :=
    Lib.hid fun W hW => indirect_any b g L c at_ bs (at_ + v) to hle hr (by omega) (by omega) W hW
  have H := Lib.hid h
  clear h hq
  go_enter Tryz.func183, Tryz.ntmps183
  go_wp2_with fail
  ((with_reducible refine (HO.out _ H.out).mono ?_))
  rintro e w1 ⟨rfl, hm1⟩
  have HB1 := Lib.hid (reads_below hm1)
  have h1 : TabAt b g L c at_ bs w1 := by obtain ⟨m, rfl⟩ := hm1; exact H.out.drewN m
  have H1 := Lib.hid h1
  have d0 := h1.c0
  have d1 := h1.c1
  have a0 : ∀ n o, ((w1.drewN n).alloc o).cell? ⟨b, 0, none⟩ = some (.slice (some ⟨g, 0, none⟩) L c) := fun n o => (Below.cell ((Below.refl w1.heap.size (w1.drewN n)).alloc (Nat.le_refl _) o) (p := ⟨b, 0, none⟩) h1.bl).trans d0
  have a1 : ∀ n o, ((w1.drewN n).alloc o).cell? ⟨b, 1, none⟩ = some (.int .u32 at_) := fun n o => (Below.cell ((Below.refl w1.heap.size (w1.drewN n)).alloc (Nat.le_refl _) o) (p := ⟨b, 1, none⟩) h1.bl).trans d1
  have HIN : Hid (∀ n, Calls Tryz.prog 112 #[.pointer (some ⟨w1.heap.size, 0, none⟩), .slice (some ⟨g, 0, none⟩) L c, .int .u32 to] ((w1.drewN n).alloc (.cells #[.slice none 0 0, .int .u32 0] 341)) fun e w' => e = .returned (.tuple #[]) ∧ TabAt w1.heap.size g L c to bs w' ∧ Below w1.heap.size w1 w') := Lib.hid fun n => by
    have hr : RowAt g L c bs (w1.drewN n) := ⟨h1.row, h1.len, h1.cap, h1.big, h1.gl⟩
    refine (initBaseNode w1.heap.size g L c _ _ to _ (heap_alloc_new (w1.drewN n) _)).mono ?_
    rintro e w' ⟨rfl, rfl⟩
    have h2 := tab_made hr to (.slice none 0 0) (.int .u32 0) 341
    exact ⟨rfl, h2.1, (reads_below (w := w1) ⟨n, rfl⟩).trans h2.2⟩
  clear hm1 c0 c1 h1
  go_wp2
  go_quiet ((go_at_call 111; refine Calls.quiet_of (HI.out _ (H1.out.drewN _))))
  go_wp2_with fail
  ((with_reducible refine (HIN.out _).mono ?_))
  rintro e w3 ⟨rfl, h3, hb3⟩
  go_wp2
  go_ret
  exact ⟨_, rfl, HB1.out.size, h3, HB1.out.trans (hb3.mono HB1.out.size)⟩


set_option maxHeartbeats 4000000 in
set_option maxRecDepth 100000 in
theorem baseNodeFunctionType_none (b g L c at_ : Nat) (bs : List UInt8) (size : Nat) (places : List Nat) (hq : VtQ size places bs at_) (h4 : 4 ≤ size) (hn : places.length < 1000) (hi : 0 < places.length → places.getD 0 0 = 0) (w : World) (h : TabAt b g L c at_ bs w) :
    Calls Tryz.prog 183 #[.pointer (some ⟨b, 0, none⟩), .pointer none] w fun e w' => e = .returned (.pointer none) ∧ ∃ m, w' = w.drewN m := by
  have c0 := h.c0
  have c1 := h.c1
  have HO : Hid (∀ W, TabAt b g L c at_ bs W → Calls Tryz.prog 110 #[.pointer (some ⟨b, 0, none⟩), .int .u16 4] W fun e w' => e = .returned (.int .u16 0) ∧ ∃ m, w' = W.drewN m) :=
    Lib.hid fun W hW => offsetZ b g L c at_ bs size places hq h4 hn 0 hi (by omega) 4 (by omega) W hW
  have H := Lib.hid h
  clear h hq
  go_enter Tryz.func183, Tryz.ntmps183
  go_wp2_with fail
  ((with_reducible refine (HO.out _ H.out).mono ?_))
  rintro e w1 ⟨rfl, m1, rfl⟩
  go_wp2
  go_ret
  exact ⟨rfl, _, rfl⟩


set_option maxHeartbeats 4000000 in
set_option maxRecDepth 100000 in
theorem parametersLengthFunctionType_there (b g L c at_ : Nat) (bs : List UInt8) (size : Nat) (places : List Nat) (hq : VtQ size places bs at_) (h4 : 4 ≤ size) (hn : places.length < 1000) (hi : 1 < places.length) (v : Nat) (hv : places.getD 1 0 = v) (hv0 : 0 < v) (hv1 : v < 60000) (to n : Nat) (hle : at_ + v ≤ to) (hr : rd bs (at_ + v) 4 = to - (at_ + v)) (hn2 : rd bs to 4 = n) (ht : to + 4 + 4 * n ≤ bs.length) (w : World) (h : TabAt b g L c at_ bs w) :
    Calls Tryz.prog 186 #[.pointer (some ⟨b, 0, none⟩)] w fun e w' => e = .returned (.int .i64 n) ∧ ∃ m, w' = w.drewN m := by
  have c0 := h.c0
  have c1 := h.c1
  have hlen := h.len
  have hbig := h.big
  have hat := hq.2.2.2.2
  have hne : ((v : Int) == 0) = false := by simp; omega
  have hw0 : IntKind.u32.wrap (v : Int) = v := by rw [IntKind.wrap_u32]; omega
  have HO : Hid (∀ W, TabAt b g L c at_ bs W → Calls Tryz.prog 110 #[.pointer (some ⟨b, 0, none⟩), .int .u16 6] W fun e w' => e = .returned (.int .u16 v) ∧ ∃ m, w' = W.drewN m) :=
    Lib.hid fun W hW => offset_there b g L c at_ bs size places hq h4 hn 1 hi 6 (by omega) v hv W hW
  have HV : Hid (∀ W, TabAt b g L c at_ bs W → Calls Tryz.prog 137 #[.pointer (some ⟨b, 0, none⟩), .int .u32 v] W fun e w' => e = .returned (.int .i64 n) ∧ ∃ m, w' = W.drewN m) :=
    Lib.hid fun W hW => vectorLen_any b g L c at_ bs v to n hle hr (by omega) hn2 (by omega) (by omega) W hW
  have H := Lib.hid h
  clear h hq
  go_enter Tryz.func186, Tryz.ntmps186
  go_wp2_with fail
  ((with_reducible refine (HO.out _ H.out).mono ?_))
  rintro e w1 ⟨rfl, hm1⟩
  have HM1 := Lib.hid hm1
  have h1 : TabAt b g L c at_ bs w1 := by obtain ⟨m, rfl⟩ := hm1; exact H.out.drewN m
  have H1 := Lib.hid h1
  have d0 := h1.c0
  have d1 := h1.c1
  clear hm1 c0 c1 h1
  go_wp2_with fail
  ((with_reducible refine (HV.out _ H1.out).mono ?_))
  rintro e w2 ⟨rfl, m2, rfl⟩
  go_wp2
  go_ret
  obtain ⟨m, hm⟩ := HM1.out
  rw [hm, World.drewN_drewN]
  exact ⟨rfl, _, rfl⟩


set_option maxHeartbeats 4000000 in
set_option maxRecDepth 100000 in
theorem parametersFunctionType_there (b g L c at_ : Nat) (bs : List UInt8) (size : Nat) (places : List Nat) (hq : VtQ size places bs at_) (h4 : 4 ≤ size) (hn : places.length < 1000) (hi : 1 < places.length) (v : Nat) (hv : places.getD 1 0 = v) (hv0 : 0 < v) (hv1 : v < 60000) (to n : Nat) (hle : at_ + v ≤ to) (hr : rd bs (at_ + v) 4 = to - (at_ + v)) (hn2 : rd bs to 4 = n) (ht : to + 4 + 4 * n ≤ bs.length) (j q : Nat) (hj : j < n) (hq1 : to + 4 + 4 * j ≤ q) (hq2 : rd bs (to + 4 + 4 * j) 4 = q - (to + 4 + 4 * j)) (hq3 : q + 4 ≤ bs.length)
    (r : Nat) (x0 x1 : Value) (w : World) (h : TabAt b g L c at_ bs w) (hr0 : w.heap[r]? = some (.cells #[x0, x1] 276 (0, 0))) :
    Calls Tryz.prog 187 #[.pointer (some ⟨b, 0, none⟩), .pointer (some ⟨r, 0, none⟩), .int .i64 j] w fun e w' => e = .returned (.bool true) ∧ ∃ m, w' = initW (w.drewN m) r (.slice (some ⟨g, 0, none⟩) L c) q := by
  have c0 := h.c0
  have c1 := h.c1
  have hlen := h.len
  have hbig := h.big
  have hat := hq.2.2.2.2
  have hne : ((v : Int) == 0) = false := by simp; omega
  have hw0 : IntKind.u32.wrap (v : Int) = v := by rw [IntKind.wrap_u32]; omega
  have hw1 : IntKind.u32.wrap (j : Int) = j := by rw [IntKind.wrap_u32]; omega
  have hw2 : IntKind.u32.wrap ((j : Int) * 4) = ((4 * j : Nat) : Int) := by rw [IntKind.wrap_u32]; omega
  have hw3 : IntKind.u32.wrap (((to + 4 : Nat) : Int) + ((4 * j : Nat) : Int)) = ((to + 4 + 4 * j : Nat) : Int) := by rw [IntKind.wrap_u32]; omega
  have HO : Hid (∀ W, TabAt b g L c at_ bs W → Calls Tryz.prog 110 #[.pointer (some ⟨b, 0, none⟩), .int .u16 6] W fun e w' => e = .returned (.int .u16 v) ∧ ∃ m, w' = W.drewN m) :=
    Lib.hid fun W hW => offset_there b g L c at_ bs size places hq h4 hn 1 hi 6 (by omega) v hv W hW
  have HV : Hid (∀ W, TabAt b g L c at_ bs W → Calls Tryz.prog 138 #[.pointer (some ⟨b, 0, none⟩), .int .u32 v] W fun e w' => e = .returned (.int .u32 (to + 4 : Nat)) ∧ ∃ m, w' = W.drewN m) :=
    Lib.hid fun W hW => vector_any b g L c at_ bs v to n hle hr (by omega) hn2 (by omega) (by omega) W hW
  have HI : Hid (∀ W, TabAt b g L c at_ bs W → Calls Tryz.prog 111 #[.pointer (some ⟨b, 0, none⟩), .int .u32 ((to : Int) + 4 + 4 * (j : Int))] W fun e w' => e = .returned (.int .u32 q) ∧ ∃ m, w' = W.drewN m) :=
    Lib.hid fun W hW => by
      rw [show ((to : Int) + 4 + 4 * (j : Int)) = ((to + 4 + 4 * j : Nat) : Int) by omega]
      exact indirect_any b g L c at_ bs (to + 4 + 4 * j) q hq1 hq2 (by omega) (by omega) W hW
  have HIN : Hid (∀ m, Calls Tryz.prog 76 #[.pointer (some ⟨r, 0, none⟩), .slice (some ⟨g, 0, none⟩) L c, .int .u32 q] (w.drewN m) fun e w' => e = .returned (.tuple #[]) ∧ w' = initW (w.drewN m) r (.slice (some ⟨g, 0, none⟩) L c) q) := Lib.hid fun m => initParameterType r g L c x0 x1 q (w.drewN m) hr0
  have H := Lib.hid h
  have C0 : Hid (∀ m, (w.drewN m).cell? ⟨b, 0, none⟩ = some (.slice (some ⟨g, 0, none⟩) L c)) := Lib.hid fun m => c0
  clear h hq hr0
  go_enter Tryz.func187, Tryz.ntmps187
  go_wp2_with fail
  ((with_reducible refine (HO.out _ H.out).mono ?_))
  rintro e w1 ⟨rfl, m1, rfl⟩
  go_wp2_with fail
  ((with_reducible refine (HV.out _ (H.out.drewN _)).mono ?_))
  rintro e w2 ⟨rfl, m2, rfl⟩
  rw [World.drewN_drewN]
  go_wp2_with fail
  ((with_reducible refine (HI.out _ (H.out.drewN _)).mono ?_))
  rintro e w3 ⟨rfl, m3, rfl⟩
  rw [World.drewN_drewN]
  have d0 := C0.out (m1 + m2 + m3)
  go_wp2_with fail
  ((with_reducible refine (HIN.out _).mono ?_))
  rintro e w4 ⟨rfl, rfl⟩
  go_wp2
  go_ret
  exact ⟨rfl, _, rfl⟩


set_option maxHeartbeats 4000000 in
set_option maxRecDepth 100000 in
theorem monotypeTypeFunctionType_there (b g L c at_ : Nat) (bs : List UInt8) (size : Nat) (places : List Nat) (hq : VtQ size places bs at_) (h4 : 4 ≤ size) (hn : places.length < 1000) (hi : 2 < places.length) (v : Nat) (hv : places.getD 2 0 = v) (hv0 : 0 < v) (hv1 : v < 60000) (u : Nat) (hr : rd bs (at_ + v) 1 = u) (hf : at_ + v + 1 ≤ bs.length) (w : World) (h : TabAt b g L c at_ bs w) :
    Calls Tryz.prog 185 #[.pointer (some ⟨b, 0, none⟩)] w fun e w' => e = .returned (.int .u8 u) ∧ ∃ m, w' = w.drewN m := by
  have c0 := h.c0
  have c1 := h.c1
  have hlen := h.len
  have hbig := h.big
  have hat := hq.2.2.2.2
  have hne : ((v : Int) == 0) = false := by simp; omega
  have hw0 : IntKind.u32.wrap (v : Int) = v := by rw [IntKind.wrap_u32]; omega
  have hw1 : IntKind.u32.wrap ((v : Int) + at_) = ((at_ + v : Nat) : Int) := by rw [IntKind.wrap_u32]; omega
  have HO : Hid (∀ W, TabAt b g L c at_ bs W → Calls Tryz.prog 110 #[.pointer (some ⟨b, 0, none⟩), .int .u16 8] W fun e w' => e = .returned (.int .u16 v) ∧ ∃ m, w' = W.drewN m) :=
    Lib.hid fun W hW => offset_there b g L c at_ bs size places hq h4 hn 2 hi 8 (by omega) v hv W hW
  have HV : Hid (∀ W, TabAt b g L c at_ bs W → Calls Tryz.prog 124 #[.pointer (some ⟨b, 0, none⟩), .int .u32 (at_ + v : Nat)] W fun e w' => e = .returned (.int .u8 u) ∧ ∃ m, w' = W.drewN m) :=
    Lib.hid fun W hW => tGetByte b g L c at_ bs (at_ + v) u (by omega) hr W hW
  have H := Lib.hid h
  clear h hq
  go_enter Tryz.func185, Tryz.ntmps185
  go_wp2_with fail
  ((with_reducible refine (HO.out _ H.out).mono ?_))
  rintro e w1 ⟨rfl, hm1⟩
  have HM1 := Lib.hid hm1
  have h1 : TabAt b g L c at_ bs w1 := by obtain ⟨m, rfl⟩ := hm1; exact H.out.drewN m
  have H1 := Lib.hid h1
  have d0 := h1.c0
  have d1 := h1.c1
  clear hm1 c0 c1 h1
  go_wp2
  go_quiet ((go_at_call 124; refine Calls.quiet_of (HV.out _ (H1.out.drewN _))))
  go_wp2
  go_ret
  obtain ⟨m, hm⟩ := HM1.out
  rw [hm, World.drewN_drewN]
  exact ⟨rfl, _, rfl⟩


set_option maxHeartbeats 4000000 in
set_option maxRecDepth 100000 in
theorem monotypeFunctionType_there (b g L c at_ : Nat) (bs : List UInt8) (size : Nat) (places : List Nat) (hq : VtQ size places bs at_) (h4 : 4 ≤ size) (hn : places.length < 1000) (hi : 3 < places.length) (v : Nat) (hv : places.getD 3 0 = v) (hv0 : 0 < v) (hv1 : v < 60000) (to : Nat) (hle : at_ + v ≤ to) (hr : rd bs (at_ + v) 4 = to - (at_ + v)) (hto : to + 4 ≤ bs.length)
    (r : Nat) (x0 x1 : Value) (hrb : r ≠ b) (hrg : r ≠ g) (w : World) (h : TabAt b g L c at_ bs w) (hr0 : w.heap[r]? = some (.cells #[x0, x1] 258 (0, 0))) :
    Calls Tryz.prog 184 #[.pointer (some ⟨b, 0, none⟩), .pointer (some ⟨r, 0, none⟩)] w fun e w' => e = .returned (.bool true) ∧ ∃ m, w' = unionW (w.drewN m) r (.slice (some ⟨g, 0, none⟩) L c) to := by
  have c0 := h.c0
  have c1 := h.c1
  have hlen := h.len
  have hbig := h.big
  have hat := hq.2.2.2.2
  have hne : ((v : Int) == 0) = false := by simp; omega
  have hw0 : IntKind.u32.wrap (v : Int) = v := by rw [IntKind.wrap_u32]; omega
  have HO : Hid (∀ W, TabAt b g L c at_ bs W → Calls Tryz.prog 110 #[.pointer (some ⟨b, 0, none⟩), .int .u16 10] W fun e w' => e = .returned (.int .u16 v) ∧ ∃ m, w' = W.drewN m) :=
    Lib.hid fun W hW => offset_there b g L c at_ bs size places hq h4 hn 3 hi 10 (by omega) v hv W hW
  have HU : Hid (∀ m, Calls Tryz.prog 123 #[.pointer (some ⟨b, 0, none⟩), .pointer (some ⟨r, 0, none⟩), .int .u32 v] (w.drewN m) fun e w' => e = .returned (.tuple #[]) ∧ ∃ m', w' = unionW ((w.drewN m).drewN m') r (.slice (some ⟨g, 0, none⟩) L c) to) :=
    Lib.hid fun m => union_any b g L c at_ bs v to hle hr (by omega) (by omega) r x0 x1 hrb hrg (w.drewN m) (h.drewN m) hr0
  have H := Lib.hid h
  clear h hq hr0
  go_enter Tryz.func184, Tryz.ntmps184
  go_wp2_with fail
  ((with_reducible refine (HO.out _ H.out).mono ?_))
  rintro e w1 ⟨rfl, m1, rfl⟩
  go_wp2_with fail
  ((with_reducible refine (HU.out _).mono ?_))
  rintro e w2 ⟨rfl, m2, rfl⟩
  rw [World.drewN_drewN]
  go_wp2
  go_ret
  exact ⟨rfl, _, rfl⟩


set_option maxHeartbeats 4000000 in
set_option maxRecDepth 100000 in
theorem baseNodeTypeExpression_there (b g L c at_ : Nat) (bs : List UInt8) (size : Nat) (places : List Nat) (hq : VtQ size places bs at_) (h4 : 4 ≤ size) (hn : places.length < 1000) (hi : 0 < places.length) (v : Nat) (hv : places.getD 0 0 = v) (hv0 : 0 < v) (hv1 : v < 60000)
    (to : Nat) (hle : at_ + v ≤ to) (hr : rd bs (at_ + v) 4 = to - (at_ + v)) (hto : to + 4 ≤ bs.length) (w : World) (h : TabAt b g L c at_ bs w) :
    Calls Tryz.prog 82 #[.pointer (some ⟨b, 0, none⟩), .pointer none] w (NewTab g L c to bs w) := by
  have c0 := h.c0
  have c1 := h.c1
  have hlen := h.len
  have hbig := h.big
  have hat := hq.2.2.2.2
  have hne : ((v : Int) == 0) = false := by simp; omega
  have hw0 : IntKind.u32.wrap (v : Int) = v := by rw [IntKind.wrap_u32]; omega
  have hw1 : IntKind.u32.wrap ((v : Int) + at_) = ((at_ + v : Nat) : Int) := by rw [IntKind.wrap_u32]; omega
  have HO : Hid (∀ W, TabAt b g L c at_ bs W → Calls Tryz.prog 110 #[.pointer (some ⟨b, 0, none⟩), .int .u16 4] W fun e w' => e = .returned (.int .u16 v) ∧ ∃ m, w' = W.drewN m) :=
    Lib.hid fun W hW => offset_there b g L c at_ bs size places hq h4 hn 0 hi 4 (by omega) v hv W hW
  have HI : Hid (∀ W, TabAt b g L c at_ bs W → Calls Tryz.prog 111 #[.pointer (some ⟨b, 0, none⟩), .int .u32 (at_ + v : Nat)] W fun e w' => e = .returned (.int .u32 to) ∧ ∃ m, w' = W.drewN m) :=
    Lib.hid fun W hW => indirect_any b g L c at_ bs (at_ + v) to hle hr (by omega) (by omega) W hW
  have H := Lib.hid h
  clear h hq
  go_enter Tryz.func82, Tryz.ntmps82
  go_wp2_with fail
  ((with_reducible refine (HO.out _ H.out).mono ?_))
  rintro e w1 ⟨rfl, hm1⟩
  have HB1 := Lib.hid (reads_below hm1)
  have h1 : TabAt b g L c at_ bs w1 := by obtain ⟨m, rfl⟩ := hm1; exact H.out.drewN m
  have H1 := Lib.hid h1
  have d0 := h1.c0
  have d1 := h1.c1
  have a0 : ∀ n o, ((w1.drewN n).alloc o).cell? ⟨b, 0, none⟩ = some (.slice (some ⟨g, 0, none⟩) L c) := fun n o => (Below.cell ((Below.refl w1.heap.size (w1.drewN n)).alloc (Nat.le_refl _) o) (p := ⟨b, 0, none⟩) h1.bl).trans d0
  have a1 : ∀ n o, ((w1.drewN n).alloc o).cell? ⟨b, 1, none⟩ = some (.int .u32 at_) := fun n o => (Below.cell ((Below.refl w1.heap.size (w1.drewN n)).alloc (Nat.le_refl _) o) (p := ⟨b, 1, none⟩) h1.bl).trans d1
  have HIN : Hid (∀ n, Calls Tryz.prog 112 #[.pointer (some ⟨w1.heap.size, 0, none⟩), .slice (some ⟨g, 0, none⟩) L c, .int .u32 to] ((w1.drewN n).alloc (.cells #[.slice none 0 0, .int .u32 0] 341)) fun e w' => e = .returned (.tuple #[]) ∧ TabAt w1.heap.size g L c to bs w' ∧ Below w1.heap.size w1 w') := Lib.hid fun n => by
    have hr : RowAt g L c bs (w1.drewN n) := ⟨h1.row, h1.len, h1.cap, h1.big, h1.gl⟩
    refine (initBaseNode w1.heap.size g L c _ _ to _ (heap_alloc_new (w1.drewN n) _)).mono ?_
    rintro e w' ⟨rfl, rfl⟩
    have h2 := tab_made hr to (.slice none 0 0) (.int .u32 0) 341
    exact ⟨rfl, h2.1, (reads_below (w := w1) ⟨n, rfl⟩).trans h2.2⟩
  clear hm1 c0 c1 h1
  go_wp2
  go_quiet ((go_at_call 111; refine Calls.quiet_of (HI.out _ (H1.out.drewN _))))
  go_wp2_with fail
  ((with_reducible refine (HIN.out _).mono ?_))
  rintro e w3 ⟨rfl, h3, hb3⟩
  go_wp2
  go_ret
  exact ⟨_, rfl, HB1.out.size, h3, HB1.out.trans (hb3.mono HB1.out.size)⟩


set_option maxHeartbeats 4000000 in
set_option maxRecDepth 100000 in
theorem baseNodeTypeExpression_none (b g L c at_ : Nat) (bs : List UInt8) (size : Nat) (places : List Nat) (hq : VtQ size places bs at_) (h4 : 4 ≤ size) (hn : places.length < 1000) (hi : 0 < places.length → places.getD 0 0 = 0) (w : World) (h : TabAt b g L c at_ bs w) :
    Calls Tryz.prog 82 #[.pointer (some ⟨b, 0, none⟩), .pointer none] w fun e w' => e = .returned (.pointer none) ∧ ∃ m, w' = w.drewN m := by
  have c0 := h.c0
  have c1 := h.c1
  have HO : Hid (∀ W, TabAt b g L c at_ bs W → Calls Tryz.prog 110 #[.pointer (some ⟨b, 0, none⟩), .int .u16 4] W fun e w' => e = .returned (.int .u16 0) ∧ ∃ m, w' = W.drewN m) :=
    Lib.hid fun W hW => offsetZ b g L c at_ bs size places hq h4 hn 0 hi (by omega) 4 (by omega) W hW
  have H := Lib.hid h
  clear h hq
  go_enter Tryz.func82, Tryz.ntmps82
  go_wp2_with fail
  ((with_reducible refine (HO.out _ H.out).mono ?_))
  rintro e w1 ⟨rfl, m1, rfl⟩
  go_wp2
  go_ret
  exact ⟨rfl, _, rfl⟩


set_option maxHeartbeats 4000000 in
set_option maxRecDepth 100000 in
theorem monotypeTypeTypeExpression_there (b g L c at_ : Nat) (bs : List UInt8) (size : Nat) (places : List Nat) (hq : VtQ size places bs at_) (h4 : 4 ≤ size) (hn : places.length < 1000) (hi : 1 < places.length) (v : Nat) (hv : places.getD 1 0 = v) (hv0 : 0 < v) (hv1 : v < 60000) (u : Nat) (hr : rd bs (at_ + v) 1 = u) (hf : at_ + v + 1 ≤ bs.length) (w : World) (h : TabAt b g L c at_ bs w) :
    Calls Tryz.prog 84 #[.pointer (some ⟨b, 0, none⟩)] w fun e w' => e = .returned (.int .u8 u) ∧ ∃ m, w' = w.drewN m := by
  have c0 := h.c0
  have c1 := h.c1
  have hlen := h.len
  have hbig := h.big
  have hat := hq.2.2.2.2
  have hne : ((v : Int) == 0) = false := by simp; omega
  have hw0 : IntKind.u32.wrap (v : Int) = v := by rw [IntKind.wrap_u32]; omega
  have hw1 : IntKind.u32.wrap ((v : Int) + at_) = ((at_ + v : Nat) : Int) := by rw [IntKind.wrap_u32]; omega
  have HO : Hid (∀ W, TabAt b g L c at_ bs W → Calls Tryz.prog 110 #[.pointer (some ⟨b, 0, none⟩), .int .u16 6] W fun e w' => e = .returned (.int .u16 v) ∧ ∃ m, w' = W.drewN m) :=
    Lib.hid fun W hW => offset_there b g L c at_ bs size places hq h4 hn 1 hi 6 (by omega) v hv W hW
  have HV : Hid (∀ W, TabAt b g L c at_ bs W → Calls Tryz.prog 124 #[.pointer (some ⟨b, 0, none⟩), .int .u32 (at_ + v : Nat)] W fun e w' => e = .returned (.int .u8 u) ∧ ∃ m, w' = W.drewN m) :=
    Lib.hid fun W hW => tGetByte b g L c at_ bs (at_ + v) u (by omega) hr W hW
  have H := Lib.hid h
  clear h hq
  go_enter Tryz.func84, Tryz.ntmps84
  go_wp2_with fail
  ((with_reducible refine (HO.out _ H.out).mono ?_))
  rintro e w1 ⟨rfl, hm1⟩
  have HM1 := Lib.hid hm1
  have h1 : TabAt b g L c at_ bs w1 := by obtain ⟨m, rfl⟩ := hm1; exact H.out.drewN m
  have H1 := Lib.hid h1
  have d0 := h1.c0
  have d1 := h1.c1
  clear hm1 c0 c1 h1
  go_wp2
  go_quiet ((go_at_call 124; refine Calls.quiet_of (HV.out _ (H1.out.drewN _))))
  go_wp2
  go_ret
  obtain ⟨m, hm⟩ := HM1.out
  rw [hm, World.drewN_drewN]
  exact ⟨rfl, _, rfl⟩


set_option maxHeartbeats 4000000 in
set_option maxRecDepth 100000 in
theorem monotypeTypeExpression_there (b g L c at_ : Nat) (bs : List UInt8) (size : Nat) (places : List Nat) (hq : VtQ size places bs at_) (h4 : 4 ≤ size) (hn : places.length < 1000) (hi : 2 < places.length) (v : Nat) (hv : places.getD 2 0 = v) (hv0 : 0 < v) (hv1 : v < 60000) (to : Nat) (hle : at_ + v ≤ to) (hr : rd bs (at_ + v) 4 = to - (at_ + v)) (hto : to + 4 ≤ bs.length)
    (r : Nat) (x0 x1 : Value) (hrb : r ≠ b) (hrg : r ≠ g) (w : World) (h : TabAt b g L c at_ bs w) (hr0 : w.heap[r]? = some (.cells #[x0, x1] 258 (0, 0))) :
    Calls Tryz.prog 83 #[.pointer (some ⟨b, 0, none⟩), .pointer (some ⟨r, 0, none⟩)] w fun e w' => e = .returned (.bool true) ∧ ∃ m, w' = unionW (w.drewN m) r (.slice (some ⟨g, 0, none⟩) L c) to := by
  have c0 := h.c0
  have c1 := h.c1
  have hlen := h.len
  have hbig := h.big
  have hat := hq.2.2.2.2
  have hne : ((v : Int) == 0) = false := by simp; omega
  have hw0 : IntKind.u32.wrap (v : Int) = v := by rw [IntKind.wrap_u32]; omega
  have HO : Hid (∀ W, TabAt b g L c at_ bs W → Calls Tryz.prog 110 #[.pointer (some ⟨b, 0, none⟩), .int .u16 8] W fun e w' => e = .returned (.int .u16 v) ∧ ∃ m, w' = W.drewN m) :=
    Lib.hid fun W hW => offset_there b g L c at_ bs size places hq h4 hn 2 hi 8 (by omega) v hv W hW
  have HU : Hid (∀ m, Calls Tryz.prog 123 #[.pointer (some ⟨b, 0, none⟩), .pointer (some ⟨r, 0, none⟩), .int .u32 v] (w.drewN m) fun e w' => e = .returned (.tuple #[]) ∧ ∃ m', w' = unionW ((w.drewN m).drewN m') r (.slice (some ⟨g, 0, none⟩) L c) to) :=
    Lib.hid fun m => union_any b g L c at_ bs v to hle hr (by omega) (by omega) r x0 x1 hrb hrg (w.drewN m) (h.drewN m) hr0
  have H := Lib.hid h
  clear h hq hr0
  go_enter Tryz.func83, Tryz.ntmps83
  go_wp2_with fail
  ((with_reducible refine (HO.out _ H.out).mono ?_))
  rintro e w1 ⟨rfl, m1, rfl⟩
  go_wp2_with fail
  ((with_reducible refine (HU.out _).mono ?_))
  rintro e w2 ⟨rfl, m2, rfl⟩
  rw [World.drewN_drewN]
  go_wp2
  go_ret
  exact ⟨rfl, _, rfl⟩


set_option maxHeartbeats 4000000 in
set_option maxRecDepth 100000 in
theorem constraintsLengthTypeExpression_there (b g L c at_ : Nat) (bs : List UInt8) (size : Nat) (places : List Nat) (hq : VtQ size places bs at_) (h4 : 4 ≤ size) (hn : places.length < 1000) (hi : 3 < places.length) (v : Nat) (hv : places.getD 3 0 = v) (hv0 : 0 < v) (hv1 : v < 60000) (to n : Nat) (hle : at_ + v ≤ to) (hr : rd bs (at_ + v) 4 = to - (at_ + v)) (hn2 : rd bs to 4 = n) (ht : to + 4 + 4 * n ≤ bs.length) (w : World) (h : TabAt b g L c at_ bs w) :
    Calls Tryz.prog 85 #[.pointer (some ⟨b, 0, none⟩)] w fun e w' => e = .returned (.int .i64 n) ∧ ∃ m, w' = w.drewN m := by
  have c0 := h.c0
  have c1 := h.c1
  have hlen := h.len
  have hbig := h.big
  have hat := hq.2.2.2.2
  have hne : ((v : Int) == 0) = false := by simp; omega
  have hw0 : IntKind.u32.wrap (v : Int) = v := by rw [IntKind.wrap_u32]; omega
  have HO : Hid (∀ W, TabAt b g L c at_ bs W → Calls Tryz.prog 110 #[.pointer (some ⟨b, 0, none⟩), .int .u16 10] W fun e w' => e = .returned (.int .u16 v) ∧ ∃ m, w' = W.drewN m) :=
    Lib.hid fun W hW => offset_there b g L c at_ bs size places hq h4 hn 3 hi 10 (by omega) v hv W hW
  have HV : Hid (∀ W, TabAt b g L c at_ bs W → Calls Tryz.prog 137 #[.pointer (some ⟨b, 0, none⟩), .int .u32 v] W fun e w' => e = .returned (.int .i64 n) ∧ ∃ m, w' = W.drewN m) :=
    Lib.hid fun W hW => vectorLen_any b g L c at_ bs v to n hle hr (by omega) hn2 (by omega) (by omega) W hW
  have H := Lib.hid h
  clear h hq
  go_enter Tryz.func85, Tryz.ntmps85
  go_wp2_with fail
  ((with_reducible refine (HO.out _ H.out).mono ?_))
  rintro e w1 ⟨rfl, hm1⟩
  have HM1 := Lib.hid hm1
  have h1 : TabAt b g L c at_ bs w1 := by obtain ⟨m, rfl⟩ := hm1; exact H.out.drewN m
  have H1 := Lib.hid h1
  have d0 := h1.c0
  have d1 := h1.c1
  clear hm1 c0 c1 h1
  go_wp2_with fail
  ((with_reducible refine (HV.out _ H1.out).mono ?_))
  rintro e w2 ⟨rfl, m2, rfl⟩
  go_wp2
  go_ret
  obtain ⟨m, hm⟩ := HM1.out
  rw [hm, World.drewN_drewN]
  exact ⟨rfl, _, rfl⟩


set_option maxHeartbeats 4000000 in
set_option maxRecDepth 100000 in
theorem constraintsTypeExpression_there (b g L c at_ : Nat) (bs : List UInt8) (size : Nat) (places : List Nat) (hq : VtQ size places bs at_) (h4 : 4 ≤ size) (hn : places.length < 1000) (hi : 3 < places.length) (v : Nat) (hv : places.getD 3 0 = v) (hv0 : 0 < v) (hv1 : v < 60000) (to n : Nat) (hle : at_ + v ≤ to) (hr : rd bs (at_ + v) 4 = to - (at_ + v)) (hn2 : rd bs to 4 = n) (ht : to + 4 + 4 * n ≤ bs.length) (j q : Nat) (hj : j < n) (hq1 : to + 4 + 4 * j ≤ q) (hq2 : rd bs (to + 4 + 4 * j) 4 = q - (to + 4 + 4 * j)) (hq3 : q + 4 ≤ bs.length)
    (r : Nat) (x0 x1 : Value) (w : World) (h : TabAt b g L c at_ bs w) (hr0 : w.heap[r]? = some (.cells #[x0, x1] 280 (0, 0))) :
    Calls Tryz.prog 86 #[.pointer (some ⟨b, 0, none⟩), .pointer (some ⟨r, 0, none⟩), .int .i64 j] w fun e w' => e = .returned (.bool true) ∧ ∃ m, w' = initW (w.drewN m) r (.slice (some ⟨g, 0, none⟩) L c) q := by
  have c0 := h.c0
  have c1 := h.c1
  have hlen := h.len
  have hbig := h.big
  have hat := hq.2.2.2.2
  have hne : ((v : Int) == 0) = false := by simp; omega
  have hw0 : IntKind.u32.wrap (v : Int) = v := by rw [IntKind.wrap_u32]; omega
  have hw1 : IntKind.u32.wrap (j : Int) = j := by rw [IntKind.wrap_u32]; omega
  have hw2 : IntKind.u32.wrap ((j : Int) * 4) = ((4 * j : Nat) : Int) := by rw [IntKind.wrap_u32]; omega
  have hw3 : IntKind.u32.wrap (((to + 4 : Nat) : Int) + ((4 * j : Nat) : Int)) = ((to + 4 + 4 * j : Nat) : Int) := by rw [IntKind.wrap_u32]; omega
  have HO : Hid (∀ W, TabAt b g L c at_ bs W → Calls Tryz.prog 110 #[.pointer (some ⟨b, 0, none⟩), .int .u16 10] W fun e w' => e = .returned (.int .u16 v) ∧ ∃ m, w' = W.drewN m) :=
    Lib.hid fun W hW => offset_there b g L c at_ bs size places hq h4 hn 3 hi 10 (by omega) v hv W hW
  have HV : Hid (∀ W, TabAt b g L c at_ bs W → Calls Tryz.prog 138 #[.pointer (some ⟨b, 0, none⟩), .int .u32 v] W fun e w' => e = .returned (.int .u32 (to + 4 : Nat)) ∧ ∃ m, w' = W.drewN m) :=
    Lib.hid fun W hW => vector_any b g L c at_ bs v to n hle hr (by omega) hn2 (by omega) (by omega) W hW
  have HI : Hid (∀ W, TabAt b g L c at_ bs W → Calls Tryz.prog 111 #[.pointer (some ⟨b, 0, none⟩), .int .u32 ((to : Int) + 4 + 4 * (j : Int))] W fun e w' => e = .returned (.int .u32 q) ∧ ∃ m, w' = W.drewN m) :=
    Lib.hid fun W hW => by
      rw [show ((to : Int) + 4 + 4 * (j : Int)) = ((to + 4 + 4 * j : Nat) : Int) by omega]
      exact indirect_any b g L c at_ bs (to + 4 + 4 * j) q hq1 hq2 (by omega) (by omega) W hW
  have HIN : Hid (∀ m, Calls Tryz.prog 139 #[.pointer (some ⟨r, 0, none⟩), .slice (some ⟨g, 0, none⟩) L c, .int .u32 q] (w.drewN m) fun e w' => e = .returned (.tuple #[]) ∧ w' = initW (w.drewN m) r (.slice (some ⟨g, 0, none⟩) L c) q) := Lib.hid fun m => initTypeConstraint r g L c x0 x1 q (w.drewN m) hr0
  have H := Lib.hid h
  have C0 : Hid (∀ m, (w.drewN m).cell? ⟨b, 0, none⟩ = some (.slice (some ⟨g, 0, none⟩) L c)) := Lib.hid fun m => c0
  clear h hq hr0
  go_enter Tryz.func86, Tryz.ntmps86
  go_wp2_with fail
  ((with_reducible refine (HO.out _ H.out).mono ?_))
  rintro e w1 ⟨rfl, m1, rfl⟩
  go_wp2_with fail
  ((with_reducible refine (HV.out _ (H.out.drewN _)).mono ?_))
  rintro e w2 ⟨rfl, m2, rfl⟩
  rw [World.drewN_drewN]
  go_wp2_with fail
  ((with_reducible refine (HI.out _ (H.out.drewN _)).mono ?_))
  rintro e w3 ⟨rfl, m3, rfl⟩
  rw [World.drewN_drewN]
  have d0 := C0.out (m1 + m2 + m3)
  go_wp2_with fail
  ((with_reducible refine (HIN.out _).mono ?_))
  rintro e w4 ⟨rfl, rfl⟩
  go_wp2
  go_ret
  exact ⟨rfl, _, rfl⟩


set_option maxHeartbeats 4000000 in
set_option maxRecDepth 100000 in
theorem rootTypeExpression (g L c to : Nat) (bs : List UInt8) (hr : rd bs 0 4 = to) (ht : to ≤ L) (h4 : 4 ≤ L) (w : World) (h : RowAt g L c bs w) :
    Calls Tryz.prog 30 #[.slice (some ⟨g, 0, none⟩) L c, .int .u32 0] w (NewTab g L c to bs w) := by
  have hlen := h.len
  have hbig := h.big
  have hcap := h.cap
  have hw1 : IntKind.u32.wrap (to : Int) = to := by rw [IntKind.wrap_u32]; omega
  have HG : Hid (Calls Tryz.prog 63 #[.slice (some ⟨g, 0, none⟩) L c] w fun e w' => e = .returned (.int .u32 to) ∧ ∃ m, w' = w.drewN m) :=
    Lib.hid (getUOffset_any g 0 L c bs to w h.row (by omega) (by omega) hr (by omega))
  have HIN : Hid (∀ n, Calls Tryz.prog 89 #[.pointer (some ⟨w.heap.size, 0, none⟩), .slice (some ⟨g, 0, none⟩) L c, .int .u32 to] ((w.drewN n).alloc (.cells #[.slice none 0 0, .int .u32 0] 290)) fun e w' => e = .returned (.tuple #[]) ∧ TabAt w.heap.size g L c to bs w' ∧ Below w.heap.size w w') := Lib.hid fun n => by
    have hr : RowAt g L c bs (w.drewN n) := ⟨h.row, h.len, h.cap, h.big, h.gl⟩
    refine (initTypeExpression w.heap.size g L c _ _ to _ (heap_alloc_new (w.drewN n) _)).mono ?_
    rintro e w' ⟨rfl, rfl⟩
    have h2 := tab_made hr to (.slice none 0 0) (.int .u32 0) 290
    exact ⟨rfl, h2.1, (reads_below (w := w) ⟨n, rfl⟩).trans h2.2⟩
  clear h
  go_enter Tryz.func30, Tryz.ntmps30
  go_wp2_with fail
  ((with_reducible refine HG.out.mono ?_))
  rintro e w1 ⟨rfl, m1, rfl⟩
  go_wp2_with fail
  ((with_reducible refine (HIN.out _).mono ?_))
  rintro e w3 ⟨rfl, h3, hb3⟩
  go_wp2
  go_ret
  exact ⟨_, rfl, Nat.le_refl _, h3, hb3⟩


set_option maxHeartbeats 1000000 in
set_option maxRecDepth 100000 in
theorem initNamedType (b g L c : Nat) (x0 x1 : Value) (q : Int) (w : World) (h : w.heap[b]? = some (.cells #[x0, x1] 343 (0, 0))) :
    Calls Tryz.prog 113 #[.pointer (some ⟨b, 0, none⟩), .slice (some ⟨g, 0, none⟩) L c, .int .u32 q] w fun e w' => e = .returned (.tuple #[]) ∧ w' = initW w b (.slice (some ⟨g, 0, none⟩) L c) q := by
  have c0 : w.cell? ⟨b, 0, none⟩ = some x0 := by rw [Lib.cell_of_heap h]; rfl
  have c1 : w.cell? ⟨b, 1, none⟩ = some x1 := by rw [Lib.cell_of_heap h]; rfl
  have f0 := Lib.frozen_of_heap h 0
  have f1 := Lib.frozen_of_heap h 1
  go_enter Tryz.func113, Tryz.ntmps113
  go_wp2
  go_end0
  exact ⟨rfl, rfl⟩


set_option maxHeartbeats 4000000 in
set_option maxRecDepth 100000 in
theorem baseNodeNamedType_there (b g L c at_ : Nat) (bs : List UInt8) (size : Nat) (places : List Nat) (hq : VtQ size places bs at_) (h4 : 4 ≤ size) (hn : places.length < 1000) (hi : 0 < places.length) (v : Nat) (hv : places.getD 0 0 = v) (hv0 : 0 < v) (hv1 : v < 60000)
    (to : Nat) (hle : at_ + v ≤ to) (hr : rd bs (at_ + v) 4 = to - (at_ + v)) (hto : to + 4 ≤ bs.length) (w : World) (h : TabAt b g L c at_ bs w) :
    Calls Tryz.prog 172 #[.pointer (some ⟨b, 0, none⟩), .pointer none] w (NewTab g L c to bs w) := by
  have c0 := h.c0
  have c1 := h.c1
  have hlen := h.len
  have hbig := h.big
  have hat := hq.2.2.2.2
  have hne : ((v : Int) == 0) = false := by simp; omega
  have hw0 : IntKind.u32.wrap (v : Int) = v := by rw [IntKind.wrap_u32]; omega
  have hw1 : IntKind.u32.wrap ((v : Int) + at_) = ((at_ + v : Nat) : Int) := by rw [IntKind.wrap_u32]; omega
  have HO : Hid (∀ W, TabAt b g L c at_ bs W → Calls Tryz.prog 110 #[.pointer (some ⟨b, 0, none⟩), .int .u16 4] W fun e w' => e = .returned (.int .u16 v) ∧ ∃ m, w' = W.drewN m) :=
    Lib.hid fun W hW => offset_there b g L c at_ bs size places hq h4 hn 0 hi 4 (by omega) v hv W hW
  have HI : Hid (∀ W, TabAt b g L c at_ bs W → Calls Tryz.prog 111 #[.pointer (some ⟨b, 0, none⟩), .int .u32 (at_ + v : Nat)] W fun e w' => e = .returned (.int .u32 to) ∧ ∃ m, w' = W.drewN m) :=
    Lib.hid fun W hW => indirect_any b g L c at_ bs (at_ + v) to hle hr (by omega) (by omega) W hW
  have H := Lib.hid h
  clear h hq
  go_enter Tryz.func172, Tryz.ntmps172
  go_wp2_with fail
  ((with_reducible refine (HO.out _ H.out).mono ?_))
  rintro e w1 ⟨rfl, hm1⟩
  have HB1 := Lib.hid (reads_below hm1)
  have h1 : TabAt b g L c at_ bs w1 := by obtain ⟨m, rfl⟩ := hm1; exact H.out.drewN m
  have H1 := Lib.hid h1
  have d0 := h1.c0
  have d1 := h1.c1
  have a0 : ∀ n o, ((w1.drewN n).alloc o).cell? ⟨b, 0, none⟩ = some (.slice (some ⟨g, 0, none⟩) L c) := fun n o => (Below.cell ((Below.refl w1.heap.size (w1.drewN n)).alloc (Nat.le_refl _) o) (p := ⟨b, 0, none⟩) h1.bl).trans d0
  have a1 : ∀ n o, ((w1.drewN n).alloc o).cell? ⟨b, 1, none⟩ = some (.int .u32 at_) := fun n o => (Below.cell ((Below.refl w1.heap.size (w1.drewN n)).alloc (Nat.le_refl _) o) (p := ⟨b, 1, none⟩) h1.bl).trans d1
  have HIN : Hid (∀ n, Calls Tryz.prog 112 #[.pointer (some ⟨w1.heap.size, 0, none⟩), .slice (some ⟨g, 0, none⟩) L c, .int .u32 to] ((w1.drewN n).alloc (.cells #[.slice none 0 0, .int .u32 0] 341)) fun e w' => e = .returned (.tuple #[]) ∧ TabAt w1.heap.size g L c to bs w' ∧ Below w1.heap.size w1 w') := Lib.hid fun n => by
    have hr : RowAt g L c bs (w1.drewN n) := ⟨h1.row, h1.len, h1.cap, h1.big, h1.gl⟩
    refine (initBaseNode w1.heap.size g L c _ _ to _ (heap_alloc_new (w1.drewN n) _)).mono ?_
    rintro e w' ⟨rfl, rfl⟩
    have h2 := tab_made hr to (.slice none 0 0) (.int .u32 0) 341
    exact ⟨rfl, h2.1, (reads_below (w := w1) ⟨n, rfl⟩).trans h2.2⟩
  clear hm1 c0 c1 h1
  go_wp2
  go_quiet ((go_at_call 111; refine Calls.quiet_of (HI.out _ (H1.out.drewN _))))
  go_wp2_with fail
  ((with_reducible refine (HIN.out _).mono ?_))
  rintro e w3 ⟨rfl, h3, hb3⟩
  go_wp2
  go_ret
  exact ⟨_, rfl, HB1.out.size, h3, HB1.out.trans (hb3.mono HB1.out.size)⟩


set_option maxHeartbeats 4000000 in
set_option maxRecDepth 100000 in
theorem baseNodeNamedType_none (b g L c at_ : Nat) (bs : List UInt8) (size : Nat) (places : List Nat) (hq : VtQ size places bs at_) (h4 : 4 ≤ size) (hn : places.length < 1000) (hi : 0 < places.length → places.getD 0 0 = 0) (w : World) (h : TabAt b g L c at_ bs w) :
    Calls Tryz.prog 172 #[.pointer (some ⟨b, 0, none⟩), .pointer none] w fun e w' => e = .returned (.pointer none) ∧ ∃ m, w' = w.drewN m := by
  have c0 := h.c0
  have c1 := h.c1
  have HO : Hid (∀ W, TabAt b g L c at_ bs W → Calls Tryz.prog 110 #[.pointer (some ⟨b, 0, none⟩), .int .u16 4] W fun e w' => e = .returned (.int .u16 0) ∧ ∃ m, w' = W.drewN m) :=
    Lib.hid fun W hW => offsetZ b g L c at_ bs size places hq h4 hn 0 hi (by omega) 4 (by omega) W hW
  have H := Lib.hid h
  clear h hq
  go_enter Tryz.func172, Tryz.ntmps172
  go_wp2_with fail
  ((with_reducible refine (HO.out _ H.out).mono ?_))
  rintro e w1 ⟨rfl, m1, rfl⟩
  go_wp2
  go_ret
  exact ⟨rfl, _, rfl⟩


set_option maxHeartbeats 4000000 in
set_option maxRecDepth 100000 in
theorem idNamedType_there (b g L c at_ : Nat) (bs : List UInt8) (size : Nat) (places : List Nat) (hq : VtQ size places bs at_) (h4 : 4 ≤ size) (hn : places.length < 1000) (hi : 1 < places.length) (v : Nat) (hv : places.getD 1 0 = v) (hv0 : 0 < v) (hv1 : v < 60000)
    (to : Nat) (hle : at_ + v ≤ to) (hr : rd bs (at_ + v) 4 = to - (at_ + v)) (hto : to + 4 ≤ bs.length) (w : World) (h : TabAt b g L c at_ bs w) :
    Calls Tryz.prog 173 #[.pointer (some ⟨b, 0, none⟩), .pointer none] w (NewTab g L c to bs w) := by
  have c0 := h.c0
  have c1 := h.c1
  have hlen := h.len
  have hbig := h.big
  have hat := hq.2.2.2.2
  have hne : ((v : Int) == 0) = false := by simp; omega
  have hw0 : IntKind.u32.wrap (v : Int) = v := by rw [IntKind.wrap_u32]; omega
  have hw1 : IntKind.u32.wrap ((v : Int) + at_) = ((at_ + v : Nat) : Int) := by rw [IntKind.wrap_u32]; omega
  have HO : Hid (∀ W, TabAt b g L c at_ bs W → Calls Tryz.prog 110 #[.pointer (some ⟨b, 0, none⟩), .int .u16 6] W fun e w' => e = .returned (.int .u16 v) ∧ ∃ m, w' = W.drewN m) :=
    Lib.hid fun W hW => offset_there b g L c at_ bs size places hq h4 hn 1 hi 6 (by omega) v hv W hW
  have HI : Hid (∀ W, TabAt b g L c at_ bs W → Calls Tryz.prog 111 #[.pointer (some ⟨b, 0, none⟩), .int .u32 (at_ + v : Nat)] W fun e w' => e = .returned (.int .u32 to) ∧ ∃ m, w' = W.drewN m) :=
    Lib.hid fun W hW => indirect_any b g L c at_ bs (at_ + v) to hle hr (by omega) (by omega) W hW
  have H := Lib.hid h
  clear h hq
  go_enter Tryz.func173, Tryz.ntmps173
  go_wp2_with fail
  ((with_reducible refine (HO.out _ H.out).mono ?_))
  rintro e w1 ⟨rfl, hm1⟩
  have HB1 := Lib.hid (reads_below hm1)
  have h1 : TabAt b g L c at_ bs w1 := by obtain ⟨m, rfl⟩ := hm1; exact H.out.drewN m
  have H1 := Lib.hid h1
  have d0 := h1.c0
  have d1 := h1.c1
  have a0 : ∀ n o, ((w1.drewN n).alloc o).cell? ⟨b, 0, none⟩ = some (.slice (some ⟨g, 0, none⟩) L c) := fun n o => (Below.cell ((Below.refl w1.heap.size (w1.drewN n)).alloc (Nat.le_refl _) o) (p := ⟨b, 0, none⟩) h1.bl).trans d0
  have a1 : ∀ n o, ((w1.drewN n).alloc o).cell? ⟨b, 1, none⟩ = some (.int .u32 at_) := fun n o => (Below.cell ((Below.refl w1.heap.size (w1.drewN n)).alloc (Nat.le_refl _) o) (p := ⟨b, 1, none⟩) h1.bl).trans d1
  have HIN : Hid (∀ n, Calls Tryz.prog 135 #[.pointer (some ⟨w1.heap.size, 0, none⟩), .slice (some ⟨g, 0, none⟩) L c, .int .u32 to] ((w1.drewN n).alloc (.cells #[.slice none 0 0, .int .u32 0] 364)) fun e w' => e = .returned (.tuple #[]) ∧ TabAt w1.heap.size g L c to bs w' ∧ Below w1.heap.size w1 w') := Lib.hid fun n => by
    have hr : RowAt g L c bs (w1.drewN n) := ⟨h1.row, h1.len, h1.cap, h1.big, h1.gl⟩
    refine (initIdentifier w1.heap.size g L c _ _ to _ (heap_alloc_new (w1.drewN n) _)).mono ?_
    rintro e w' ⟨rfl, rfl⟩
    have h2 := tab_made hr to (.slice none 0 0) (.int .u32 0) 364
    exact ⟨rfl, h2.1, (reads_below (w := w1) ⟨n, rfl⟩).trans h2.2⟩
  clear hm1 c0 c1 h1
  go_wp2
  go_quiet ((go_at_call 111; refine Calls.quiet_of (HI.out _ (H1.out.drewN _))))
  go_wp2_with fail
  ((with_reducible refine (HIN.out _).mono ?_))
  rintro e w3 ⟨rfl, h3, hb3⟩
  go_wp2
  go_ret
  exact ⟨_, rfl, HB1.out.size, h3, HB1.out.trans (hb3.mono HB1.out.size)⟩


set_option maxHeartbeats 4000000 in
set_option maxRecDepth 100000 in
theorem idNamedType_none (b g L c at_ : Nat) (bs : List UInt8) (size : Nat) (places : List Nat) (hq : VtQ size places bs at_) (h4 : 4 ≤ size) (hn : places.length < 1000) (hi : 1 < places.length → places.getD 1 0 = 0) (w : World) (h : TabAt b g L c at_ bs w) :
    Calls Tryz.prog 173 #[.pointer (some ⟨b, 0, none⟩), .pointer none] w fun e w' => e = .returned (.pointer none) ∧ ∃ m, w' = w.drewN m := by
  have c0 := h.c0
  have c1 := h.c1
  have HO : Hid (∀ W, TabAt b g L c at_ bs W → Calls Tryz.prog 110 #[.pointer (some ⟨b, 0, none⟩), .int .u16 6] W fun e w' => e = .returned (.int .u16 0) ∧ ∃ m, w' = W.drewN m) :=
    Lib.hid fun W hW => offsetZ b g L c at_ bs size places hq h4 hn 1 hi (by omega) 6 (by omega) W hW
  have H := Lib.hid h
  clear h hq
  go_enter Tryz.func173, Tryz.ntmps173
  go_wp2_with fail
  ((with_reducible refine (HO.out _ H.out).mono ?_))
  rintro e w1 ⟨rfl, m1, rfl⟩
  go_wp2
  go_ret
  exact ⟨rfl, _, rfl⟩


set_option maxHeartbeats 4000000 in
set_option maxRecDepth 100000 in
theorem idTvarType_none (b g L c at_ : Nat) (bs : List UInt8) (size : Nat) (places : List Nat) (hq : VtQ size places bs at_) (h4 : 4 ≤ size) (hn : places.length < 1000) (hi : 1 < places.length → places.getD 1 0 = 0) (w : World) (h : TabAt b g L c at_ bs w) :
    Calls Tryz.prog 175 #[.pointer (some ⟨b, 0, none⟩), .pointer none] w fun e w' => e = .returned (.pointer none) ∧ ∃ m, w' = w.drewN m := by
  have c0 := h.c0
  have c1 := h.c1
  have HO : Hid (∀ W, TabAt b g L c at_ bs W → Calls Tryz.prog 110 #[.pointer (some ⟨b, 0, none⟩), .int .u16 6] W fun e w' => e = .returned (.int .u16 0) ∧ ∃ m, w' = W.drewN m) :=
    Lib.hid fun W hW => offsetZ b g L c at_ bs size places hq h4 hn 1 hi (by omega) 6 (by omega) W hW
  have H := Lib.hid h
  clear h hq
  go_enter Tryz.func175, Tryz.ntmps175
  go_wp2_with fail
  ((with_reducible refine (HO.out _ H.out).mono ?_))
  rintro e w1 ⟨rfl, m1, rfl⟩
  go_wp2
  go_ret
  exact ⟨rfl, _, rfl⟩


end Go.Proofs.YtgceklahjdbipaaGreatDoor
