/- fbast: the readers of places and of what all nodes have. ast: places, and what all nodes have, out of flatbuffers. -/
import Derived.Test.YtgceklahjdbipaaGreatDoorGet
import Derived.Test.YtgceklahjdbipaaGreatDoorMakerAll
import Derived.Lib.BufferRead
namespace Go.Proofs.YtgceklahjdbipaaGreatDoor
open Go Go.RowKit
set_option linter.unusedVariables false
set_option linter.unusedSimpArgs false

set_option maxHeartbeats 4000000 in
set_option maxRecDepth 100000 in
theorem positionLine_any (b g L c at_ : Nat) (bs : List UInt8) (q u : Nat) (hq : q = at_ + 0) (hf : q + 4 ≤ bs.length) (hr : rd bs q 4 = u) (hu : u < 2147483648) (w : World) (h : TabAt b g L c at_ bs w) :
    Calls Tryz.prog 210 #[.pointer (some ⟨b, 0, none⟩)] w fun e w' => e = .returned (.int .i32 u) ∧ ∃ m, w' = w.drewN m := by
  have c0 := h.c0
  have c1 := h.c1
  have hlen := h.len
  have hbig := h.big
  have hqe : q = at_ := by omega
  rw [hqe] at hr hf
  clear hq hqe
  have hw2 : IntKind.u32.wrap (at_ : Int) = at_ := by rw [IntKind.wrap_u32]; omega
  have HV : Hid (∀ W, TabAt b g L c at_ bs W → Calls Tryz.prog 234 #[.pointer (some ⟨b, 0, none⟩), .int .u32 at_] W fun e w' => e = .returned (.int .i32 u) ∧ ∃ m, w' = W.drewN m) :=
    Lib.hid fun W hW => tGetInt32 b g L c at_ bs at_ u (by omega) hr hu W hW
  have H := Lib.hid h
  clear h
  go_enter Tryz.func210, Tryz.ntmps210
  go_wp2_with fail
  go_quiet ((go_at_call 234; refine Calls.quiet_of (HV.out _ (H.out.drewN _))))
  go_wp2
  go_ret
  exact ⟨rfl, _, rfl⟩


set_option maxHeartbeats 4000000 in
set_option maxRecDepth 100000 in
theorem positionColumn_any (b g L c at_ : Nat) (bs : List UInt8) (q u : Nat) (hq : q = at_ + 4) (hf : q + 4 ≤ bs.length) (hr : rd bs q 4 = u) (hu : u < 2147483648) (w : World) (h : TabAt b g L c at_ bs w) :
    Calls Tryz.prog 211 #[.pointer (some ⟨b, 0, none⟩)] w fun e w' => e = .returned (.int .i32 u) ∧ ∃ m, w' = w.drewN m := by
  have c0 := h.c0
  have c1 := h.c1
  have hlen := h.len
  have hbig := h.big
  have hw1 : IntKind.u32.wrap ((at_ : Int) + 4) = (at_ : Int) + 4 := by rw [IntKind.wrap_u32]; omega
  have hqi : ((at_ : Int) + 4) = (q : Int) := by omega
  have hw2 : IntKind.u32.wrap (at_ : Int) = at_ := by rw [IntKind.wrap_u32]; omega
  have HV : Hid (∀ W, TabAt b g L c at_ bs W → Calls Tryz.prog 234 #[.pointer (some ⟨b, 0, none⟩), .int .u32 ((at_ : Int) + 4)] W fun e w' => e = .returned (.int .i32 u) ∧ ∃ m, w' = W.drewN m) :=
    Lib.hid fun W hW => by rw [hqi]; exact tGetInt32 b g L c at_ bs q u (by omega) hr hu W hW
  have H := Lib.hid h
  clear h hqi
  go_enter Tryz.func211, Tryz.ntmps211
  go_wp2_with fail
  go_quiet ((go_at_call 234; refine Calls.quiet_of (HV.out _ (H.out.drewN _))))
  go_wp2
  go_ret
  exact ⟨rfl, _, rfl⟩


set_option maxHeartbeats 4000000 in
set_option maxRecDepth 100000 in
theorem startSourceLocation_there (b g L c at_ : Nat) (bs : List UInt8) (size : Nat) (places : List Nat) (hq : VtQ size places bs at_) (h4 : 4 ≤ size) (hn : places.length < 1000) (hi : 1 < places.length) (v : Nat) (hv : places.getD 1 0 = v) (hv0 : 0 < v) (hv1 : v < 60000)
    (dst : Nat) (hto : dst = at_ + v) (hfit : dst + 4 ≤ bs.length) (w : World) (h : TabAt b g L c at_ bs w) :
    Calls Tryz.prog 162 #[.pointer (some ⟨b, 0, none⟩), .pointer none] w (NewTab g L c dst bs w) := by
  have c0 := h.c0
  have c1 := h.c1
  have hlen := h.len
  have hbig := h.big
  have hat := hq.2.2.2.2
  have hne : ((v : Int) == 0) = false := by simp; omega
  have hw0 : IntKind.u32.wrap (v : Int) = v := by rw [IntKind.wrap_u32]; omega
  have hw1 : IntKind.u32.wrap ((v : Int) + at_) = ((at_ + v : Nat) : Int) := by rw [IntKind.wrap_u32]; omega
  have HO : Hid (∀ W, TabAt b g L c at_ bs W → Calls Tryz.prog 110 #[.pointer (some ⟨b, 0, none⟩), .int .u16 6] W fun e w' => e = .returned (.int .u16 v) ∧ ∃ m, w' = W.drewN m) :=
    Lib.hid fun W hW => offset_there b g L c at_ bs size places hq h4 hn 1 hi 6 (by omega) v hv W hW
  have H := Lib.hid h
  clear h hq
  go_enter Tryz.func162, Tryz.ntmps162
  go_wp2_with fail
  ((with_reducible refine (HO.out _ H.out).mono ?_))
  rintro e w1 ⟨rfl, hm1⟩
  have HB1 := Lib.hid (reads_below hm1)
  have h1 : TabAt b g L c at_ bs w1 := by obtain ⟨m, rfl⟩ := hm1; exact H.out.drewN m
  have H1 := Lib.hid h1
  have d0 := h1.c0
  have d1 := h1.c1
  have a0 : ∀ n o, ((w1.drewN n).alloc o).cell? ⟨b, 0, none⟩ = some (.slice (some ⟨g, 0, none⟩) L c) := fun n o => (Below.cell ((Below.refl w1.heap.size (w1.drewN n)).alloc (Nat.le_refl _) o) (p := ⟨b, 0, none⟩) h1.bl).trans d0
  have a1 : ∀ n o, ((w1.drewN n).alloc o).cell? ⟨b, 1, none⟩ = some (.int .u32 at_) := fun n o => (Below.cell ((Below.refl w1.heap.size (w1.drewN n)).alloc (Nat.le_refl _) o) (p := ⟨b, 1, none⟩) h1.bl).trans d1
  have HIN : Hid (∀ n, Calls Tryz.prog 212 #[.pointer (some ⟨w1.heap.size, 0, none⟩), .slice (some ⟨g, 0, none⟩) L c, .int .u32 dst] ((w1.drewN n).alloc (.cells #[.slice none 0 0, .int .u32 0] 412)) fun e w' => e = .returned (.tuple #[]) ∧ TabAt w1.heap.size g L c dst bs w' ∧ Below w1.heap.size w1 w') := Lib.hid fun n => by
    have hr : RowAt g L c bs (w1.drewN n) := ⟨h1.row, h1.len, h1.cap, h1.big, h1.gl⟩
    refine (initPosition w1.heap.size g L c _ _ dst _ (heap_alloc_new (w1.drewN n) _)).mono ?_
    rintro e w' ⟨rfl, rfl⟩
    have h2 := tab_made hr dst (.slice none 0 0) (.int .u32 0) 412
    exact ⟨rfl, h2.1, (reads_below (w := w1) ⟨n, rfl⟩).trans h2.2⟩
  have b0 : ∀ o, (w1.alloc o).cell? ⟨b, 0, none⟩ = some (.slice (some ⟨g, 0, none⟩) L c) := fun o => a0 0 o
  have HI0 : Hid (Calls Tryz.prog 212 #[.pointer (some ⟨w1.heap.size, 0, none⟩), .slice (some ⟨g, 0, none⟩) L c, .int .u32 ((at_ : Int) + v)] (w1.alloc (.cells #[.slice none 0 0, .int .u32 0] 412)) fun e w' => e = .returned (.tuple #[]) ∧ TabAt w1.heap.size g L c dst bs w' ∧ Below w1.heap.size w1 w') := Lib.hid (by
    rw [show ((at_ : Int) + v) = (dst : Int) by omega]
    exact HIN.out 0)
  clear hm1 c0 c1 h1
  go_wp2_with fail
  ((with_reducible refine HI0.out.mono ?_))
  rintro e w3 ⟨rfl, h3, hb3⟩
  go_wp2
  go_ret
  exact ⟨_, rfl, HB1.out.size, h3, HB1.out.trans (hb3.mono HB1.out.size)⟩


set_option maxHeartbeats 4000000 in
set_option maxRecDepth 100000 in
theorem endSourceLocation_there (b g L c at_ : Nat) (bs : List UInt8) (size : Nat) (places : List Nat) (hq : VtQ size places bs at_) (h4 : 4 ≤ size) (hn : places.length < 1000) (hi : 2 < places.length) (v : Nat) (hv : places.getD 2 0 = v) (hv0 : 0 < v) (hv1 : v < 60000)
    (dst : Nat) (hto : dst = at_ + v) (hfit : dst + 4 ≤ bs.length) (w : World) (h : TabAt b g L c at_ bs w) :
    Calls Tryz.prog 163 #[.pointer (some ⟨b, 0, none⟩), .pointer none] w (NewTab g L c dst bs w) := by
  have c0 := h.c0
  have c1 := h.c1
  have hlen := h.len
  have hbig := h.big
  have hat := hq.2.2.2.2
  have hne : ((v : Int) == 0) = false := by simp; omega
  have hw0 : IntKind.u32.wrap (v : Int) = v := by rw [IntKind.wrap_u32]; omega
  have hw1 : IntKind.u32.wrap ((v : Int) + at_) = ((at_ + v : Nat) : Int) := by rw [IntKind.wrap_u32]; omega
  have HO : Hid (∀ W, TabAt b g L c at_ bs W → Calls Tryz.prog 110 #[.pointer (some ⟨b, 0, none⟩), .int .u16 8] W fun e w' => e = .returned (.int .u16 v) ∧ ∃ m, w' = W.drewN m) :=
    Lib.hid fun W hW => offset_there b g L c at_ bs size places hq h4 hn 2 hi 8 (by omega) v hv W hW
  have H := Lib.hid h
  clear h hq
  go_enter Tryz.func163, Tryz.ntmps163
  go_wp2_with fail
  ((with_reducible refine (HO.out _ H.out).mono ?_))
  rintro e w1 ⟨rfl, hm1⟩
  have HB1 := Lib.hid (reads_below hm1)
  have h1 : TabAt b g L c at_ bs w1 := by obtain ⟨m, rfl⟩ := hm1; exact H.out.drewN m
  have H1 := Lib.hid h1
  have d0 := h1.c0
  have d1 := h1.c1
  have a0 : ∀ n o, ((w1.drewN n).alloc o).cell? ⟨b, 0, none⟩ = some (.slice (some ⟨g, 0, none⟩) L c) := fun n o => (Below.cell ((Below.refl w1.heap.size (w1.drewN n)).alloc (Nat.le_refl _) o) (p := ⟨b, 0, none⟩) h1.bl).trans d0
  have a1 : ∀ n o, ((w1.drewN n).alloc o).cell? ⟨b, 1, none⟩ = some (.int .u32 at_) := fun n o => (Below.cell ((Below.refl w1.heap.size (w1.drewN n)).alloc (Nat.le_refl _) o) (p := ⟨b, 1, none⟩) h1.bl).trans d1
  have HIN : Hid (∀ n, Calls Tryz.prog 212 #[.pointer (some ⟨w1.heap.size, 0, none⟩), .slice (some ⟨g, 0, none⟩) L c, .int .u32 dst] ((w1.drewN n).alloc (.cells #[.slice none 0 0, .int .u32 0] 412)) fun e w' => e = .returned (.tuple #[]) ∧ TabAt w1.heap.size g L c dst bs w' ∧ Below w1.heap.size w1 w') := Lib.hid fun n => by
    have hr : RowAt g L c bs (w1.drewN n) := ⟨h1.row, h1.len, h1.cap, h1.big, h1.gl⟩
    refine (initPosition w1.heap.size g L c _ _ dst _ (heap_alloc_new (w1.drewN n) _)).mono ?_
    rintro e w' ⟨rfl, rfl⟩
    have h2 := tab_made hr dst (.slice none 0 0) (.int .u32 0) 412
    exact ⟨rfl, h2.1, (reads_below (w := w1) ⟨n, rfl⟩).trans h2.2⟩
  have b0 : ∀ o, (w1.alloc o).cell? ⟨b, 0, none⟩ = some (.slice (some ⟨g, 0, none⟩) L c) := fun o => a0 0 o
  have HI0 : Hid (Calls Tryz.prog 212 #[.pointer (some ⟨w1.heap.size, 0, none⟩), .slice (some ⟨g, 0, none⟩) L c, .int .u32 ((at_ : Int) + v)] (w1.alloc (.cells #[.slice none 0 0, .int .u32 0] 412)) fun e w' => e = .returned (.tuple #[]) ∧ TabAt w1.heap.size g L c dst bs w' ∧ Below w1.heap.size w1 w') := Lib.hid (by
    rw [show ((at_ : Int) + v) = (dst : Int) by omega]
    exact HIN.out 0)
  clear hm1 c0 c1 h1
  go_wp2_with fail
  ((with_reducible refine HI0.out.mono ?_))
  rintro e w3 ⟨rfl, h3, hb3⟩
  go_wp2
  go_ret
  exact ⟨_, rfl, HB1.out.size, h3, HB1.out.trans (hb3.mono HB1.out.size)⟩


set_option maxHeartbeats 4000000 in
set_option maxRecDepth 100000 in
theorem fileSourceLocation_none (b g L c at_ : Nat) (bs : List UInt8) (size : Nat) (places : List Nat) (hq : VtQ size places bs at_) (h4 : 4 ≤ size) (hn : places.length < 1000) (hi : 0 < places.length → places.getD 0 0 = 0) (w : World) (h : TabAt b g L c at_ bs w) :
    Calls Tryz.prog 160 #[.pointer (some ⟨b, 0, none⟩)] w fun e w' => e = .returned (.slice none 0 0) ∧ ∃ m, w' = w.drewN m := by
  have c0 := h.c0
  have c1 := h.c1
  have HO : Hid (∀ W, TabAt b g L c at_ bs W → Calls Tryz.prog 110 #[.pointer (some ⟨b, 0, none⟩), .int .u16 4] W fun e w' => e = .returned (.int .u16 0) ∧ ∃ m, w' = W.drewN m) :=
    Lib.hid fun W hW => offsetZ b g L c at_ bs size places hq h4 hn 0 hi (by omega) 4 (by omega) W hW
  have H := Lib.hid h
  clear h hq
  go_enter Tryz.func160, Tryz.ntmps160
  go_wp2_with fail
  ((with_reducible refine (HO.out _ H.out).mono ?_))
  rintro e w1 ⟨rfl, m1, rfl⟩
  go_wp2
  go_ret
  exact ⟨rfl, _, rfl⟩


set_option maxHeartbeats 4000000 in
set_option maxRecDepth 100000 in
theorem sourceSourceLocation_none (b g L c at_ : Nat) (bs : List UInt8) (size : Nat) (places : List Nat) (hq : VtQ size places bs at_) (h4 : 4 ≤ size) (hn : places.length < 1000) (hi : 3 < places.length → places.getD 3 0 = 0) (w : World) (h : TabAt b g L c at_ bs w) :
    Calls Tryz.prog 164 #[.pointer (some ⟨b, 0, none⟩)] w fun e w' => e = .returned (.slice none 0 0) ∧ ∃ m, w' = w.drewN m := by
  have c0 := h.c0
  have c1 := h.c1
  have HO : Hid (∀ W, TabAt b g L c at_ bs W → Calls Tryz.prog 110 #[.pointer (some ⟨b, 0, none⟩), .int .u16 10] W fun e w' => e = .returned (.int .u16 0) ∧ ∃ m, w' = W.drewN m) :=
    Lib.hid fun W hW => offsetZ b g L c at_ bs size places hq h4 hn 3 hi (by omega) 10 (by omega) W hW
  have H := Lib.hid h
  clear h hq
  go_enter Tryz.func164, Tryz.ntmps164
  go_wp2_with fail
  ((with_reducible refine (HO.out _ H.out).mono ?_))
  rintro e w1 ⟨rfl, m1, rfl⟩
  go_wp2
  go_ret
  exact ⟨rfl, _, rfl⟩


set_option maxHeartbeats 4000000 in
set_option maxRecDepth 100000 in
theorem locBaseNode_there (b g L c at_ : Nat) (bs : List UInt8) (size : Nat) (places : List Nat) (hq : VtQ size places bs at_) (h4 : 4 ≤ size) (hn : places.length < 1000) (hi : 0 < places.length) (v : Nat) (hv : places.getD 0 0 = v) (hv0 : 0 < v) (hv1 : v < 60000)
    (dst : Nat) (hle : at_ + v ≤ dst) (hr : rd bs (at_ + v) 4 = dst - (at_ + v)) (hto : dst + 4 ≤ bs.length) (w : World) (h : TabAt b g L c at_ bs w) :
    Calls Tryz.prog 103 #[.pointer (some ⟨b, 0, none⟩), .pointer none] w (NewTab g L c dst bs w) := by
  have c0 := h.c0
  have c1 := h.c1
  have hlen := h.len
  have hbig := h.big
  have hat := hq.2.2.2.2
  have hne : ((v : Int) == 0) = false := by simp; omega
  have hw0 : IntKind.u32.wrap (v : Int) = v := by rw [IntKind.wrap_u32]; omega
  have hw1 : IntKind.u32.wrap ((v : Int) + at_) = ((at_ + v : Nat) : Int) := by rw [IntKind.wrap_u32]; omega
  have HO : Hid (∀ W, TabAt b g L c at_ bs W → Calls Tryz.prog 110 #[.pointer (some ⟨b, 0, none⟩), .int .u16 4] W fun e w' => e = .returned (.int .u16 v) ∧ ∃ m, w' = W.drewN m) :=
    Lib.hid fun W hW => offset_there b g L c at_ bs size places hq h4 hn 0 hi 4 (by omega) v hv W hW
  have HI : Hid (∀ W, TabAt b g L c at_ bs W → Calls Tryz.prog 111 #[.pointer (some ⟨b, 0, none⟩), .int .u32 (at_ + v : Nat)] W fun e w' => e = .returned (.int .u32 dst) ∧ ∃ m, w' = W.drewN m) :=
    Lib.hid fun W hW => indirect_any b g L c at_ bs (at_ + v) dst hle hr (by omega) (by omega) W hW
  have H := Lib.hid h
  clear h hq
  go_enter Tryz.func103, Tryz.ntmps103
  go_wp2_with fail
  ((with_reducible refine (HO.out _ H.out).mono ?_))
  rintro e w1 ⟨rfl, hm1⟩
  have HB1 := Lib.hid (reads_below hm1)
  have h1 : TabAt b g L c at_ bs w1 := by obtain ⟨m, rfl⟩ := hm1; exact H.out.drewN m
  have H1 := Lib.hid h1
  have d0 := h1.c0
  have d1 := h1.c1
  have a0 : ∀ n o, ((w1.drewN n).alloc o).cell? ⟨b, 0, none⟩ = some (.slice (some ⟨g, 0, none⟩) L c) := fun n o => (Below.cell ((Below.refl w1.heap.size (w1.drewN n)).alloc (Nat.le_refl _) o) (p := ⟨b, 0, none⟩) h1.bl).trans d0
  have a1 : ∀ n o, ((w1.drewN n).alloc o).cell? ⟨b, 1, none⟩ = some (.int .u32 at_) := fun n o => (Below.cell ((Below.refl w1.heap.size (w1.drewN n)).alloc (Nat.le_refl _) o) (p := ⟨b, 1, none⟩) h1.bl).trans d1
  have HIN : Hid (∀ n, Calls Tryz.prog 165 #[.pointer (some ⟨w1.heap.size, 0, none⟩), .slice (some ⟨g, 0, none⟩) L c, .int .u32 dst] ((w1.drewN n).alloc (.cells #[.slice none 0 0, .int .u32 0] 382)) fun e w' => e = .returned (.tuple #[]) ∧ TabAt w1.heap.size g L c dst bs w' ∧ Below w1.heap.size w1 w') := Lib.hid fun n => by
    have hr : RowAt g L c bs (w1.drewN n) := ⟨h1.row, h1.len, h1.cap, h1.big, h1.gl⟩
    refine (initSourceLocation w1.heap.size g L c _ _ dst _ (heap_alloc_new (w1.drewN n) _)).mono ?_
    rintro e w' ⟨rfl, rfl⟩
    have h2 := tab_made hr dst (.slice none 0 0) (.int .u32 0) 382
    exact ⟨rfl, h2.1, (reads_below (w := w1) ⟨n, rfl⟩).trans h2.2⟩
  clear hm1 c0 c1 h1
  go_wp2
  go_quiet ((go_at_call 111; refine Calls.quiet_of (HI.out _ (H1.out.drewN _))))
  go_wp2_with fail
  ((with_reducible refine (HIN.out _).mono ?_))
  rintro e w3 ⟨rfl, h3, hb3⟩
  go_wp2
  go_ret
  exact ⟨_, rfl, HB1.out.size, h3, HB1.out.trans (hb3.mono HB1.out.size)⟩


set_option maxHeartbeats 4000000 in
set_option maxRecDepth 100000 in
theorem errorsLengthBaseNode_none (b g L c at_ : Nat) (bs : List UInt8) (size : Nat) (places : List Nat) (hq : VtQ size places bs at_) (h4 : 4 ≤ size) (hn : places.length < 1000) (hi : 1 < places.length → places.getD 1 0 = 0) (w : World) (h : TabAt b g L c at_ bs w) :
    Calls Tryz.prog 105 #[.pointer (some ⟨b, 0, none⟩)] w fun e w' => e = .returned (.int .i64 0) ∧ ∃ m, w' = w.drewN m := by
  have c0 := h.c0
  have c1 := h.c1
  have HO : Hid (∀ W, TabAt b g L c at_ bs W → Calls Tryz.prog 110 #[.pointer (some ⟨b, 0, none⟩), .int .u16 6] W fun e w' => e = .returned (.int .u16 0) ∧ ∃ m, w' = W.drewN m) :=
    Lib.hid fun W hW => offsetZ b g L c at_ bs size places hq h4 hn 1 hi (by omega) 6 (by omega) W hW
  have H := Lib.hid h
  clear h hq
  go_enter Tryz.func105, Tryz.ntmps105
  go_wp2_with fail
  ((with_reducible refine (HO.out _ H.out).mono ?_))
  rintro e w1 ⟨rfl, m1, rfl⟩
  go_wp2
  go_ret
  exact ⟨rfl, _, rfl⟩


set_option maxHeartbeats 4000000 in
set_option maxRecDepth 100000 in
theorem commentsLengthBaseNode_none (b g L c at_ : Nat) (bs : List UInt8) (size : Nat) (places : List Nat) (hq : VtQ size places bs at_) (h4 : 4 ≤ size) (hn : places.length < 1000) (hi : 2 < places.length → places.getD 2 0 = 0) (w : World) (h : TabAt b g L c at_ bs w) :
    Calls Tryz.prog 107 #[.pointer (some ⟨b, 0, none⟩)] w fun e w' => e = .returned (.int .i64 0) ∧ ∃ m, w' = w.drewN m := by
  have c0 := h.c0
  have c1 := h.c1
  have HO : Hid (∀ W, TabAt b g L c at_ bs W → Calls Tryz.prog 110 #[.pointer (some ⟨b, 0, none⟩), .int .u16 8] W fun e w' => e = .returned (.int .u16 0) ∧ ∃ m, w' = W.drewN m) :=
    Lib.hid fun W hW => offsetZ b g L c at_ bs size places hq h4 hn 2 hi (by omega) 8 (by omega) W hW
  have H := Lib.hid h
  clear h hq
  go_enter Tryz.func107, Tryz.ntmps107
  go_wp2_with fail
  ((with_reducible refine (HO.out _ H.out).mono ?_))
  rintro e w1 ⟨rfl, m1, rfl⟩
  go_wp2
  go_ret
  exact ⟨rfl, _, rfl⟩

theorem TabAt.set {b g L c p : Nat} {bs : List UInt8} {w : World} (h : TabAt b g L c p bs w) (r i : Nat) (v : Value) (h1 : r ≠ b) (h2 : r ≠ g) : TabAt b g L c p bs (w.setCell ⟨r, i, none⟩ v) :=
  ⟨(World.cell?_setCell_other w ⟨r, i, none⟩ ⟨b, 0, none⟩ v (by simp; try omega)).trans h.c0, (World.cell?_setCell_other w ⟨r, i, none⟩ ⟨b, 1, none⟩ v (by simp; try omega)).trans h.c1,
    fun j hj => (World.cell?_setCell_other w ⟨r, i, none⟩ ⟨g, j, none⟩ v (by simp; try omega)).trans (h.row j hj), h.len, h.cap, h.big, by rw [show (w.setCell ⟨r, i, none⟩ v).heap.size = w.heap.size by simp [World.setCell]]; exact h.gl, by rw [show (w.setCell ⟨r, i, none⟩ v).heap.size = w.heap.size by simp [World.setCell]]; exact h.bl⟩

/-- A place is read: line and column 0. -/
def PosPost (r i : Nat) (w : World) (e : Ending) (w' : World) : Prop := e = .returned (.tuple #[]) ∧ ∃ m k, w' = ((((w.drewN m).setCell ⟨r, i, none⟩ (.int .i64 0)).drewN k).setCell ⟨r, i + 1, none⟩ (.int .i64 0))

set_option maxHeartbeats 4000000 in
set_option maxRecDepth 100000 in
theorem posFrom_any (b g L c q : Nat) (bs : List UInt8) (hf : q + 8 ≤ bs.length) (h0 : rd bs q 4 = 0) (h4 : rd bs (q + 4) 4 = 0) (r i : Nat) (cur : Array Value) (T : TypeId) (w : World) (h : TabAt b g L c q bs w)
    (hr : w.heap[r]? = some (.cells cur T (0, 0))) (hi : i + 1 < cur.size) (hb : r ≠ b) (hg : r ≠ g) :
    Calls Tryz.prog 161 #[.pointer (some ⟨r, i, none⟩), .pointer (some ⟨b, 0, none⟩)] w (PosPost r i w) := by
  have HL := Lib.hid (positionLine_any b g L c q bs q 0 rfl (by omega) h0 (by omega) w h)
  have HC := Lib.hid (fun m => positionColumn_any b g L c q bs (q + 4) 0 rfl (by omega) h4 (by omega) ((w.drewN m).setCell ⟨r, i, none⟩ (.int .i64 0)) ((h.drewN m).set r i _ hb hg))
  have c0 : w.cell? ⟨r, i, none⟩ = some cur[i] := by rw [Lib.cell_of_heap hr]; simp; try omega
  have c1 : w.cell? ⟨r, i + 1, none⟩ = some cur[i + 1] := by rw [Lib.cell_of_heap hr]; simp; try omega
  have f0 := Lib.frozen_of_heap hr i
  have f1 := Lib.frozen_of_heap hr (i + 1)
  have HP : Hid (∀ m k, PosPost r i w (.returned (.tuple #[])) ((((w.drewN m).setCell ⟨r, i, none⟩ (.int .i64 0)).drewN k).setCell ⟨r, i + 1, none⟩ (.int .i64 0))) := Lib.hid fun m k => ⟨rfl, m, k, rfl⟩
  clear h
  go_enter Tryz.func161, Tryz.ntmps161
  go_wp2_with fail
  ((with_reducible refine HL.out.mono ?_))
  rintro e w1 ⟨rfl, m, rfl⟩
  go_wp2_with fail
  ((with_reducible refine (HC.out m).mono ?_))
  rintro e w2 ⟨rfl, k, rfl⟩
  go_wp2
  go_end0
  exact HP.out m k

theorem rd8_zero (l : List UInt8) (p : Nat) (h : rd l p 8 = 0) : rd l p 4 = 0 ∧ rd l (p + 4) 4 = 0 := by
  have h1 := rd8 l p
  have h2 := rd4 l p
  have h3 := rd4 l (p + 4)
  rw [h] at h1
  rw [show p + 4 + 1 = p + 5 from rfl, show p + 4 + 2 = p + 6 from rfl, show p + 4 + 3 = p + 7 from rfl] at h3
  generalize (gB l p).toNat = b0 at *
  generalize (gB l (p + 1)).toNat = b1 at *
  generalize (gB l (p + 2)).toNat = b2 at *
  generalize (gB l (p + 3)).toNat = b3 at *
  generalize (gB l (p + 4)).toNat = b4 at *
  generalize (gB l (p + 5)).toNat = b5 at *
  generalize (gB l (p + 6)).toNat = b6 at *
  generalize (gB l (p + 7)).toNat = b7 at *
  generalize rd l p 4 = x at *
  generalize rd l (p + 4) 4 = y at *
  constructor <;> omega

/-- What a location whose places are none says. -/
structure LocQ (bs : List UInt8) (p : Nat) : Prop where
  vt : VtQ 24 [0, 8, 16] bs p
  z8 : rd bs (p + 8) 4 = 0
  z12 : rd bs (p + 8 + 4) 4 = 0
  z16 : rd bs (p + 16) 4 = 0
  z20 : rd bs (p + 16 + 4) 4 = 0

theorem LocQ.of {bs : List UInt8} {p : Nat} (h : TabQ 24 [0, 8, 16] locFs bs p) : LocQ bs p := by
  have h1 := (h.2.2.2.2.2 (numQ 1 8 0) (by simp [locFs])).1 rfl
  have h2 := (h.2.2.2.2.2 (numQ 2 8 0) (by simp [locFs])).1 rfl
  have e1 : rd bs (p + 8) 8 = 0 := h1
  have e2 : rd bs (p + 16) 8 = 0 := h2
  exact ⟨h.vt, (rd8_zero bs _ e1).1, (rd8_zero bs _ e1).2, (rd8_zero bs _ e2).1, (rd8_zero bs _ e2).2⟩

/-- A location is made whose places are none. -/
def LocPost (w : World) (e : Ending) (w' : World) : Prop :=
  ∃ r, e = .returned (.pointer (some ⟨r, 0, none⟩)) ∧ w.heap.size ≤ r ∧ w'.heap[r]? = some (.cells #[.string ⟨#[]⟩, .int .i64 0, .int .i64 0, .int .i64 0, .int .i64 0, .string ⟨#[]⟩] 325 (0, 0)) ∧ Below w.heap.size w w'

/-- A location while it is read. -/
structure LocIn (w : World) (b g L c p : Nat) (bs : List UInt8) (W : World) : Prop where
  tab : TabAt b g L c p bs W
  row : W.heap[w.heap.size]? = some (.cells #[.string ⟨#[]⟩, .int .i64 0, .int .i64 0, .int .i64 0, .int .i64 0, .string ⟨#[]⟩] 325 (0, 0))
  bel : Below w.heap.size w W
  nb : b < w.heap.size
  ng : g < w.heap.size

theorem LocIn.below {w : World} {b g L c p : Nat} {bs : List UInt8} {W W' : World} (h : LocIn w b g L c p bs W) (hb : Below W.heap.size W W') : LocIn w b g L c p bs W' :=
  ⟨h.tab.below hb, (hb.block _ (Array.getElem?_eq_some_iff.1 h.row).1).trans h.row, h.bel.trans (hb.mono h.bel.size), h.nb, h.ng⟩

theorem LocIn.set {w : World} {b g L c p : Nat} {bs : List UInt8} {W : World} (h : LocIn w b g L c p bs W) (i : Nat) (v : Value)
    (hv : #[.string ⟨#[]⟩, .int .i64 0, .int .i64 0, .int .i64 0, .int .i64 0, .string ⟨#[]⟩].setIfInBounds i v = #[.string ⟨#[]⟩, .int .i64 0, .int .i64 0, .int .i64 0, .int .i64 0, .string ⟨#[]⟩]) : LocIn w b g L c p bs (W.setCell ⟨w.heap.size, i, none⟩ v) := by
  have h1 := row_setG h.row i v
  rw [hv] at h1
  exact ⟨h.tab.set _ _ _ (by have := h.nb; omega) (by have := h.ng; omega), h1, h.bel.setCell (p := ⟨w.heap.size, i, none⟩) (Nat.le_refl _) v, h.nb, h.ng⟩

theorem LocIn.drewN {w : World} {b g L c p : Nat} {bs : List UInt8} {W : World} (h : LocIn w b g L c p bs W) (n : Nat) : LocIn w b g L c p bs (W.drewN n) := h.below (reads_below ⟨n, rfl⟩)

theorem LocIn.pos {w : World} {b g L c p : Nat} {bs : List UInt8} {W W' : World} {e : Ending} (h : LocIn w b g L c p bs W) (i : Nat) (hi : i = 1 ∨ i = 3) (hp : PosPost w.heap.size i W e W') : e = .returned (.tuple #[]) ∧ LocIn w b g L c p bs W' := by
  obtain ⟨h1, m, k, rfl⟩ := hp
  refine ⟨h1, ?_⟩
  rcases hi with rfl | rfl
  · exact (((h.drewN m).set 1 _ rfl).drewN k).set 2 _ rfl
  · exact (((h.drewN m).set 3 _ rfl).drewN k).set 4 _ rfl

set_option maxHeartbeats 4000000 in
set_option maxRecDepth 100000 in
theorem locFrom_any (b g L c p : Nat) (bs : List UInt8) (hq : LocQ bs p) (w : World) (h : TabAt b g L c p bs w) :
    Calls Tryz.prog 102 #[.agg #[.string ⟨#[]⟩, .int .i64 0, .int .i64 0, .int .i64 0, .int .i64 0, .string ⟨#[]⟩], .pointer (some ⟨b, 0, none⟩)] w (LocPost w) := by
  have hcv : ∀ W, (convert 30 9 (.slice none 0 0)).run Tryz.prog W = .ok (.string ⟨#[]⟩) W := fun W => Lib.run_convert_nil_bytes W _ _ 5 0 Tryz.underlying30 Tryz.underlying5 Tryz.underlying9
  have hI : LocIn w b g L c p bs (w.alloc (.cells #[.string ⟨#[]⟩, .int .i64 0, .int .i64 0, .int .i64 0, .int .i64 0, .string ⟨#[]⟩] 325)) :=
    ⟨h.below ((Below.refl _ w).alloc (Nat.le_refl _) _), heap_alloc_new w _, (Below.refl _ w).alloc (Nat.le_refl _) _, h.bl, h.gl⟩
  have HI := Lib.hid hI
  have HQ := Lib.hid hq
  have hend : p + 24 ≤ bs.length := hq.vt.2.2.2.2
  have HF := Lib.hid (fun W hW => fileSourceLocation_none b g L c p bs 24 [0, 8, 16] HQ.out.vt (by decide) (by decide) (by intro _; rfl) W hW)
  have HS := Lib.hid (fun W hW => sourceSourceLocation_none b g L c p bs 24 [0, 8, 16] HQ.out.vt (by decide) (by decide) (by intro h; exact absurd h (by decide)) W hW)
  have HA := Lib.hid (fun W hW => startSourceLocation_there b g L c p bs 24 [0, 8, 16] HQ.out.vt (by decide) (by decide) (by decide) 8 rfl (by decide) (by decide) (p + 8) rfl (by omega) W hW)
  have HE := Lib.hid (fun W hW => endSourceLocation_there b g L c p bs 24 [0, 8, 16] HQ.out.vt (by decide) (by decide) (by decide) 16 rfl (by decide) (by decide) (p + 16) rfl (by omega) W hW)
  have HPA := Lib.hid (fun (W : World) (r1 : Nat) (hW : TabAt r1 g L c (p + 8) bs W) (hr : w.heap.size < r1) (hL : LocIn w b g L c p bs W) => posFrom_any r1 g L c (p + 8) bs (by omega) HQ.out.z8 HQ.out.z12 w.heap.size 1 _ _ W hW hL.row (by decide) (by omega) (by have := hL.ng; omega))
  have HPE := Lib.hid (fun (W : World) (r1 : Nat) (hW : TabAt r1 g L c (p + 16) bs W) (hr : w.heap.size < r1) (hL : LocIn w b g L c p bs W) => posFrom_any r1 g L c (p + 16) bs (by omega) HQ.out.z16 HQ.out.z20 w.heap.size 3 _ _ W hW hL.row (by decide) (by omega) (by have := hL.ng; omega))
  clear h hq hI
  go_enter Tryz.func102, Tryz.ntmps102
  go_wp2_with fail
  ((with_reducible refine (HF.out _ HI.out.tab).mono ?_))
  rintro e w1 ⟨rfl, hm1⟩
  have HI1 := Lib.hid (HI.out.below (reads_below hm1))
  clear hm1
  have c0 : w1.cell? ⟨w.heap.size, 0, none⟩ = some (.string ⟨#[]⟩) := by rw [Lib.cell_of_heap HI1.out.row]; rfl
  have f0 := Lib.frozen_of_heap HI1.out.row 0
  have HI2 := Lib.hid (HI1.out.set 0 (.string ⟨#[]⟩) rfl)
  go_wp2_with fail
  ((with_reducible refine (HA.out _ HI2.out.tab).mono ?_))
  rintro e w3 ⟨r1, rfl, hr1, ht1, hb3⟩
  have HI3 := Lib.hid (HI2.out.below hb3)
  have hlt1 : w.heap.size < r1 := by
    have h1 := (Array.getElem?_eq_some_iff.1 HI2.out.row).1
    omega
  have HT1 := Lib.hid ht1
  clear hb3 hr1 ht1 c0 f0
  go_wp2_with fail
  ((with_reducible refine (HPA.out _ _ HT1.out hlt1 HI3.out).mono ?_))
  rintro e w4 hp4
  obtain ⟨rfl, hI4⟩ := HI3.out.pos 1 (.inl rfl) hp4
  have HI4 := Lib.hid hI4
  clear hp4 hI4
  go_wp2_with fail
  ((with_reducible refine (HE.out _ HI4.out.tab).mono ?_))
  rintro e w5 ⟨r2, rfl, hr2, ht2, hb5⟩
  have HI5 := Lib.hid (HI4.out.below hb5)
  have hlt2 : w.heap.size < r2 := by
    have h1 := (Array.getElem?_eq_some_iff.1 HI4.out.row).1
    omega
  have HT2 := Lib.hid ht2
  clear hb5 hr2 ht2
  go_wp2_with fail
  ((with_reducible refine (HPE.out _ _ HT2.out hlt2 HI5.out).mono ?_))
  rintro e w6 hp6
  obtain ⟨rfl, hI6⟩ := HI5.out.pos 3 (.inr rfl) hp6
  have HI6 := Lib.hid hI6
  clear hp6 hI6
  go_wp2_with fail
  ((with_reducible refine (HS.out _ HI6.out.tab).mono ?_))
  rintro e w7 ⟨rfl, hm7⟩
  have HI7 := Lib.hid (HI6.out.below (reads_below hm7))
  clear hm7
  have c0 : w7.cell? ⟨w.heap.size, 5, none⟩ = some (.string ⟨#[]⟩) := by rw [Lib.cell_of_heap HI7.out.row]; rfl
  have f0 := Lib.frozen_of_heap HI7.out.row 5
  have HI8 := Lib.hid (HI7.out.set 5 (.string ⟨#[]⟩) rfl)
  go_wp2
  go_ret
  exact ⟨_, rfl, Nat.le_refl _, HI8.out.row, HI8.out.bel⟩

set_option maxHeartbeats 4000000 in
set_option maxRecDepth 100000 in
theorem locValid_any (w : World) :
    Calls Tryz.prog 104 #[.agg #[.string ⟨#[]⟩, .int .i64 0, .int .i64 0, .int .i64 0, .int .i64 0, .string ⟨#[]⟩]] w fun e w' => e = .returned (.bool false) ∧ Below w.heap.size w w' := by
  go_enter Tryz.func104, Tryz.ntmps104
  go_wp2
  go_ret
  exact ⟨rfl, ((Below.refl _ w).alloc (Nat.le_refl _) _).alloc ((Below.refl _ w).alloc (Nat.le_refl _) _).size _⟩

/-- What all nodes have, with a location whose places are none. -/
structure BaseQ2 (bs : List UInt8) (p : Nat) : Prop where
  vt : VtQ 8 [4] bs p
  loc : ∃ q, p + 4 ≤ q ∧ rd bs (p + 4) 4 = q - (p + 4) ∧ q + 4 ≤ bs.length ∧ LocQ bs q

theorem BaseQ2.of {bs : List UInt8} {p : Nat} (h : TabQ 8 [4] baseFs bs p) : BaseQ2 bs p := by
  obtain ⟨q, h1, h2, h3, h4⟩ := (h.2.2.2.2.2 ⟨⟨0, 4, 0, some locB⟩, 42, TabQ 24 [0, 8, 16] locFs⟩ (by simp [baseFs])).2 (by simp)
  exact ⟨h.vt, q, h2, h1, h3, LocQ.of h4⟩

/-- A node's first cell, while its base is read. -/
structure BaseIn (w : World) (B : Nat) (cur : Array Value) (T : TypeId) (v : Value) (W : World) : Prop where
  row : W.heap[B]? = some (.cells (cur.setIfInBounds 0 v) T (0, 0))
  oth : w.grownBy W (some B)

theorem BaseIn.below {w : World} {B : Nat} {cur : Array Value} {T : TypeId} {v : Value} {W W' : World} (h : BaseIn w B cur T v W) (hb : Below W.heap.size W W') : BaseIn w B cur T v W' :=
  ⟨(hb.block _ (Array.getElem?_eq_some_iff.1 h.row).1).trans h.row, Lib.grownBy_below h.oth hb⟩

theorem set_self (cur : Array Value) (i : Nat) (h : i < cur.size) : cur.setIfInBounds i cur[i] = cur := by
  apply Array.ext
  · simp
  · intro j hi1 hi2
    rw [Array.getElem_setIfInBounds (by simpa using hi1)]
    split
    · rename_i e
      subst e
      rfl
    · rfl

theorem set_twice (cur : Array Value) (i : Nat) (u v : Value) : (cur.setIfInBounds i u).setIfInBounds i v = cur.setIfInBounds i v := by
  apply Array.ext
  · simp
  · intro j hi1 hi2
    simp only [Array.size_setIfInBounds] at hi1
    rw [Array.getElem_setIfInBounds (by simpa using hi1), Array.getElem_setIfInBounds hi1, Array.getElem_setIfInBounds (by simpa using hi1)]
    split <;> rfl

theorem BaseIn.put {w : World} {B : Nat} {cur : Array Value} {T : TypeId} {v : Value} {W : World} (h : BaseIn w B cur T v W) (u : Value) : BaseIn w B cur T u (W.setCell ⟨B, 0, none⟩ u) := by
  have h1 := row_setG h.row 0 u
  rw [set_twice] at h1
  exact ⟨h1, Lib.grownBy_setB h.oth 0 u⟩

theorem BaseIn.done {w : World} {B : Nat} {cur : Array Value} {T : TypeId} {v : Value} {W : World} (h : BaseIn w B cur T v W) (hw : w.heap[B]? = some (.cells cur T (0, 0))) (hv : cur[0]? = some v) : Below w.heap.size w W := by
  refine ⟨h.oth.os, h.oth.tape, h.oth.output, h.oth.size, fun k hk => ?_⟩
  by_cases e : k = B
  · subst e
    rw [h.row, hw]
    congr 2
    obtain ⟨h1, h2⟩ := Array.getElem?_eq_some_iff.1 hv
    rw [← h2, set_self]
  · exact h.oth.block k hk (by intro e2; cases e2; exact e rfl)

theorem base_nil (B : Nat) (w : World) :
    Calls Tryz.prog 55 #[.pointer (some ⟨B, 0, none⟩), .pointer none] w fun e w' => e = .returned (.tuple #[]) ∧ Below w.heap.size w w' := by
  go_enter Tryz.func55, Tryz.ntmps55
  go_wp2
  refine bodyPost_ret (v := .tuple #[]) (by simp [results, Tryz.results55, go_sem]) rfl ⟨rfl, Below.refl _ _⟩

set_option maxHeartbeats 4000000 in
set_option maxRecDepth 100000 in
theorem base_there (B : Nat) (cur : Array Value) (T : TypeId) (b g L c p : Nat) (bs : List UInt8) (hq : BaseQ2 bs p) (w : World) (h : TabAt b g L c p bs w) (hB : w.heap[B]? = some (.cells cur T (0, 0))) (h0 : cur[0]? = some (.pointer none)) (hb : B ≠ b) (hg : B ≠ g) :
    Calls Tryz.prog 55 #[.pointer (some ⟨B, 0, none⟩), .pointer (some ⟨b, 0, none⟩)] w fun e w' => e = .returned (.tuple #[]) ∧ Below w.heap.size w w' := by
  obtain ⟨q, q1, q2, q3, q4⟩ := hq.loc
  have HBQ := Lib.hid hq
  have HLQ := Lib.hid q4
  have HL := Lib.hid (locBaseNode_there b g L c p bs 8 [4] hq.vt (by decide) (by decide) (by decide) 4 rfl (by decide) (by decide) q q1 q2 q3 w h)
  have HF := Lib.hid (fun W r (hW : TabAt r g L c q bs W) => locFrom_any r g L c q bs q4 W hW)
  have HE := Lib.hid (fun W (hW : TabAt b g L c p bs W) => errorsLengthBaseNode_none b g L c p bs 8 [4] hq.vt (by decide) (by decide) (by intro h; exact absurd h (by decide)) W hW)
  have HC := Lib.hid (fun W (hW : TabAt b g L c p bs W) => commentsLengthBaseNode_none b g L c p bs 8 [4] hq.vt (by decide) (by decide) (by intro h; exact absurd h (by decide)) W hW)
  have H := Lib.hid h
  have HB := Lib.hid hB
  have h0l : 0 < cur.size := (Array.getElem?_eq_some_iff.1 h0).1
  have H0 := Lib.hid h0
  clear h hB hq h0 q1 q2 q3 q4
  go_enter Tryz.func55, Tryz.ntmps55
  go_wp2_with fail
  ((with_reducible refine HL.out.mono ?_))
  rintro e w1 ⟨r1, rfl, hr1, ht1, hb1⟩
  have HT1 := Lib.hid ht1
  have HI0 : Hid (BaseIn w B cur T (.pointer none) w) := Lib.hid ⟨by
    rw [HB.out]
    congr 2
    obtain ⟨h1, h2⟩ := Array.getElem?_eq_some_iff.1 H0.out
    rw [← h2, set_self], World.grownBy.refl w _⟩
  have HI1 := Lib.hid (HI0.out.below hb1)
  have HR1 := Lib.hid (H.out.below hb1)
  clear hb1 ht1 hr1
  go_wp2_with fail
  ((with_reducible refine (HF.out _ _ HT1.out).mono ?_))
  rintro e w2 ⟨r2, rfl, hr2, hrow2, hb2⟩
  have hrB : r2 ≠ B := by
    have h1 := (Array.getElem?_eq_some_iff.1 HI1.out.row).1
    omega
  have HI2 := Lib.hid (HI1.out.below hb2)
  have HR2 := Lib.hid (HR1.out.below hb2)
  have c2 : w2.cell? ⟨B, 0, none⟩ = some (.pointer none) := by rw [Lib.cell_of_heap HI2.out.row]; simp [h0l]
  have f2 := Lib.frozen_of_heap HI2.out.row 0
  have hI3 := HI2.out.put (.pointer (some ⟨r2, 0, none⟩))
  have HR3 := Lib.hid (HR2.out.set B 0 (.pointer (some ⟨r2, 0, none⟩)) hb hg)
  have hrow3 : (w2.setCell ⟨B, 0, none⟩ (.pointer (some ⟨r2, 0, none⟩))).heap[r2]? = _ := (Below.heap_setCell _ _ _ _ hrB).trans hrow2
  have c3 : (w2.setCell ⟨B, 0, none⟩ (.pointer (some ⟨r2, 0, none⟩))).cell? ⟨B, 0, none⟩ = some (.pointer (some ⟨r2, 0, none⟩)) := by rw [Lib.cell_of_heap hI3.row]; simp [h0l]
  have e0 : (w2.setCell ⟨B, 0, none⟩ (.pointer (some ⟨r2, 0, none⟩))).cell? ⟨r2, 0, none⟩ = some (.string ⟨#[]⟩) := by rw [Lib.cell_of_heap hrow3]; rfl
  have e1 : (w2.setCell ⟨B, 0, none⟩ (.pointer (some ⟨r2, 0, none⟩))).cell? ⟨r2, 1, none⟩ = some (.int .i64 0) := by rw [Lib.cell_of_heap hrow3]; rfl
  have e2 : (w2.setCell ⟨B, 0, none⟩ (.pointer (some ⟨r2, 0, none⟩))).cell? ⟨r2, 2, none⟩ = some (.int .i64 0) := by rw [Lib.cell_of_heap hrow3]; rfl
  have e3 : (w2.setCell ⟨B, 0, none⟩ (.pointer (some ⟨r2, 0, none⟩))).cell? ⟨r2, 3, none⟩ = some (.int .i64 0) := by rw [Lib.cell_of_heap hrow3]; rfl
  have e4 : (w2.setCell ⟨B, 0, none⟩ (.pointer (some ⟨r2, 0, none⟩))).cell? ⟨r2, 4, none⟩ = some (.int .i64 0) := by rw [Lib.cell_of_heap hrow3]; rfl
  have e5 : (w2.setCell ⟨B, 0, none⟩ (.pointer (some ⟨r2, 0, none⟩))).cell? ⟨r2, 5, none⟩ = some (.string ⟨#[]⟩) := by rw [Lib.cell_of_heap hrow3]; rfl
  have HI3 := Lib.hid hI3
  have HRB := Lib.hid hrB
  clear hrow2 hrow3 hb2 hr2 hrB hI3
  go_wp2_with fail
  ((with_reducible refine (locValid_any _).mono ?_))
  rintro e w4 ⟨rfl, hb4⟩
  have HI4 := Lib.hid (HI3.out.below hb4)
  have HR4 := Lib.hid (HR3.out.below hb4)
  clear c2 f2 c3 e0 e1 e2 e3 e4 e5 hb4
  have c4 : w4.cell? ⟨B, 0, none⟩ = some (.pointer (some ⟨r2, 0, none⟩)) := by rw [Lib.cell_of_heap HI4.out.row]; simp [h0l]
  have f4 := Lib.frozen_of_heap HI4.out.row 0
  have HI5 := Lib.hid (HI4.out.put (.pointer none))
  have HR5 := Lib.hid (HR4.out.set B 0 (.pointer none) hb hg)
  go_wp2_with fail
  ((with_reducible refine (HE.out _ HR5.out).mono ?_))
  rintro e w6 ⟨rfl, hm6⟩
  have HI6 := Lib.hid (HI5.out.below (reads_below hm6))
  have HR6 := Lib.hid (HR5.out.below (reads_below hm6))
  clear hm6 c4 f4
  go_wp2_with fail
  ((with_reducible refine (HC.out _ HR6.out).mono ?_))
  rintro e w7 ⟨rfl, hm7⟩
  have HI7 := Lib.hid (HI6.out.below (reads_below hm7))
  clear hm7
  go_wp2
  go_end0
  exact ⟨rfl, HI7.out.done HB.out H0.out⟩

end Go.Proofs.YtgceklahjdbipaaGreatDoor
