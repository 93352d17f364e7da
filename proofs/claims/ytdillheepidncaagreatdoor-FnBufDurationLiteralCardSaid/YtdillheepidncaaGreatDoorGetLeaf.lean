/- fbast: the readers of nodes of one text or number. -/
import Derived.Test.YtdillheepidncaaGreatDoorGetNode
namespace Go.Proofs.YtdillheepidncaaGreatDoor
open Go Go.RowKit
set_option linter.unusedVariables false
set_option linter.unusedSimpArgs false


set_option maxHeartbeats 4000000 in
set_option maxRecDepth 100000 in
theorem baseNodeStringLiteral_there (b g L c at_ : Nat) (bs : List UInt8) (size : Nat) (places : List Nat) (hq : VtQ size places bs at_) (h4 : 4 ≤ size) (hn : places.length < 1000) (hi : 0 < places.length) (v : Nat) (hv : places.getD 0 0 = v) (hv0 : 0 < v) (hv1 : v < 60000)
    (to : Nat) (hle : at_ + v ≤ to) (hr : rd bs (at_ + v) 4 = to - (at_ + v)) (hto : to + 4 ≤ bs.length) (w : World) (h : TabAt b g L c at_ bs w) :
    Calls Tryz.prog 106 #[.pointer (some ⟨b, 0, none⟩), .pointer none] w (NewTab g L c to bs w) := by
  have c0 := h.c0
  have c1 := h.c1
  have hlen := h.len
  have hbig := h.big
  have hat := hq.2.2.2.2
  have hne : ((v : Int) == 0) = false := by simp; omega
  have hw0 : IntKind.u32.wrap (v : Int) = v := by rw [IntKind.wrap_u32]; omega
  have hw1 : IntKind.u32.wrap ((v : Int) + at_) = ((at_ + v : Nat) : Int) := by rw [IntKind.wrap_u32]; omega
  have HO : Hid (∀ W, TabAt b g L c at_ bs W → Calls Tryz.prog 92 #[.pointer (some ⟨b, 0, none⟩), .int .u16 4] W fun e w' => e = .returned (.int .u16 v) ∧ ∃ m, w' = W.drewN m) :=
    Lib.hid fun W hW => offset_there b g L c at_ bs size places hq h4 hn 0 hi 4 (by omega) v hv W hW
  have HI : Hid (∀ W, TabAt b g L c at_ bs W → Calls Tryz.prog 93 #[.pointer (some ⟨b, 0, none⟩), .int .u32 (at_ + v : Nat)] W fun e w' => e = .returned (.int .u32 to) ∧ ∃ m, w' = W.drewN m) :=
    Lib.hid fun W hW => indirect_any b g L c at_ bs (at_ + v) to hle hr (by omega) (by omega) W hW
  have H := Lib.hid h
  clear h hq
  go_enter Tryz.func106, Tryz.ntmps106
  go_wp2_with fail
  ((with_reducible refine (HO.out _ H.out).mono ?_))
  rintro e w1 ⟨rfl, hm1⟩
  have HB1 := Lib.hid (reads_below hm1)
  have h1 : TabAt b g L c at_ bs w1 := by obtain ⟨m, rfl⟩ := hm1; exact H.out.drewN m
  have H1 := Lib.hid h1
  have d0 := h1.c0
  have d1 := h1.c1
  have a0 : ∀ n o, ((w1.drewN n).alloc o).cell? ⟨b, 0, none⟩ = some (.slice (some ⟨g, 0, none⟩) L c) := fun n o => (Below.cell ((Below.refl w1.heap.size (w1.drewN n)).alloc (Nat.le_refl _) o) (p := ⟨b, 0, none⟩) h1.bl).trans d0
  have a1 : ∀ n o, ((w1.drewN n).alloc o).cell? ⟨b, 1, none⟩ = some (.int .u32 at_) := fun n o => (Below.cell ((Below.refl w1.heap.size (w1.drewN n)).alloc (Nat.le_refl _) o) (p := ⟨b, 1, none⟩) h1.bl).trans d1
  have HIN : Hid (∀ n, Calls Tryz.prog 94 #[.pointer (some ⟨w1.heap.size, 0, none⟩), .slice (some ⟨g, 0, none⟩) L c, .int .u32 to] ((w1.drewN n).alloc (.cells #[.slice none 0 0, .int .u32 0] 330)) fun e w' => e = .returned (.tuple #[]) ∧ TabAt w1.heap.size g L c to bs w' ∧ Below w1.heap.size w1 w') := Lib.hid fun n => by
    have hr : RowAt g L c bs (w1.drewN n) := ⟨h1.row, h1.len, h1.cap, h1.big, h1.gl⟩
    refine (initBaseNode w1.heap.size g L c _ _ to _ (heap_alloc_new (w1.drewN n) _)).mono ?_
    rintro e w' ⟨rfl, rfl⟩
    have h2 := tab_made hr to (.slice none 0 0) (.int .u32 0) 330
    exact ⟨rfl, h2.1, (reads_below (w := w1) ⟨n, rfl⟩).trans h2.2⟩
  clear hm1 c0 c1 h1
  go_wp2
  go_quiet ((go_at_call 93; refine Calls.quiet_of (HI.out _ (H1.out.drewN _))))
  go_wp2_with fail
  ((with_reducible refine (HIN.out _).mono ?_))
  rintro e w3 ⟨rfl, h3, hb3⟩
  go_wp2
  go_ret
  exact ⟨_, rfl, HB1.out.size, h3, HB1.out.trans (hb3.mono HB1.out.size)⟩


set_option maxHeartbeats 4000000 in
set_option maxRecDepth 100000 in
theorem baseNodeStringLiteral_none (b g L c at_ : Nat) (bs : List UInt8) (size : Nat) (places : List Nat) (hq : VtQ size places bs at_) (h4 : 4 ≤ size) (hn : places.length < 1000) (hi : 0 < places.length → places.getD 0 0 = 0) (w : World) (h : TabAt b g L c at_ bs w) :
    Calls Tryz.prog 106 #[.pointer (some ⟨b, 0, none⟩), .pointer none] w fun e w' => e = .returned (.pointer none) ∧ ∃ m, w' = w.drewN m := by
  have c0 := h.c0
  have c1 := h.c1
  have HO : Hid (∀ W, TabAt b g L c at_ bs W → Calls Tryz.prog 92 #[.pointer (some ⟨b, 0, none⟩), .int .u16 4] W fun e w' => e = .returned (.int .u16 0) ∧ ∃ m, w' = W.drewN m) :=
    Lib.hid fun W hW => offsetZ b g L c at_ bs size places hq h4 hn 0 hi (by omega) 4 (by omega) W hW
  have H := Lib.hid h
  clear h hq
  go_enter Tryz.func106, Tryz.ntmps106
  go_wp2_with fail
  ((with_reducible refine (HO.out _ H.out).mono ?_))
  rintro e w1 ⟨rfl, m1, rfl⟩
  go_wp2
  go_ret
  exact ⟨rfl, _, rfl⟩


set_option maxHeartbeats 4000000 in
set_option maxRecDepth 100000 in
theorem textStringLiteral_there (b g L c at_ : Nat) (bs : List UInt8) (size : Nat) (places : List Nat) (hq : VtQ size places bs at_) (h4 : 4 ≤ size) (hn : places.length < 1000) (hi : 1 < places.length) (v : Nat) (hv : places.getD 1 0 = v) (hv0 : 0 < v) (hv1 : v < 60000) (to n o : Nat) (hle : at_ + v ≤ to) (hr : rd bs (at_ + v) 4 = to - (at_ + v)) (hn2 : rd bs to 4 = n) (ht : to + 4 + n ≤ bs.length) (ho1 : c = to + 4 → o = 0) (ho2 : ¬ c = to + 4 → o = to + 4) (w : World) (h : TabAt b g L c at_ bs w) :
    Calls Tryz.prog 107 #[.pointer (some ⟨b, 0, none⟩)] w fun e w' => e = .returned (.slice (some ⟨g, o, none⟩) n (c - (to + 4))) ∧ ∃ m, w' = w.drewN m := by
  have c0 := h.c0
  have c1 := h.c1
  have hlen := h.len
  have hbig := h.big
  have hat := hq.2.2.2.2
  have hne : ((v : Int) == 0) = false := by simp; omega
  have hw0 : IntKind.u32.wrap (v : Int) = v := by rw [IntKind.wrap_u32]; omega
  have hw1 : IntKind.u32.wrap ((v : Int) + at_) = ((at_ + v : Nat) : Int) := by rw [IntKind.wrap_u32]; omega
  have HO : Hid (∀ W, TabAt b g L c at_ bs W → Calls Tryz.prog 92 #[.pointer (some ⟨b, 0, none⟩), .int .u16 6] W fun e w' => e = .returned (.int .u16 v) ∧ ∃ m, w' = W.drewN m) :=
    Lib.hid fun W hW => offset_there b g L c at_ bs size places hq h4 hn 1 hi 6 (by omega) v hv W hW
  have HV : Hid (∀ W, TabAt b g L c at_ bs W → Calls Tryz.prog 138 #[.pointer (some ⟨b, 0, none⟩), .int .u32 (at_ + v : Nat)] W fun e w' => e = .returned (.slice (some ⟨g, o, none⟩) n (c - (to + 4))) ∧ ∃ m, w' = W.drewN m) :=
    Lib.hid fun W hW => byteVector_any b g L c at_ bs (at_ + v) to n hle hr (by omega) hn2 (by omega) o ho1 ho2 W hW
  have H := Lib.hid h
  clear h hq
  go_enter Tryz.func107, Tryz.ntmps107
  go_wp2_with fail
  ((with_reducible refine (HO.out _ H.out).mono ?_))
  rintro e w1 ⟨rfl, hm1⟩
  have HM1 := Lib.hid hm1
  have h1 : TabAt b g L c at_ bs w1 := by obtain ⟨m, rfl⟩ := hm1; exact H.out.drewN m
  have H1 := Lib.hid h1
  have d0 := h1.c0
  have d1 := h1.c1
  clear hm1 c0 c1 h1
  go_wp2
  go_quiet ((go_at_call 138; refine Calls.quiet_of (HV.out _ (H1.out.drewN _))))
  go_wp2
  go_ret
  obtain ⟨m, hm⟩ := HM1.out
  rw [hm, World.drewN_drewN]
  exact ⟨rfl, _, rfl⟩


set_option maxHeartbeats 4000000 in
set_option maxRecDepth 100000 in
theorem baseNodeIdentifier_there (b g L c at_ : Nat) (bs : List UInt8) (size : Nat) (places : List Nat) (hq : VtQ size places bs at_) (h4 : 4 ≤ size) (hn : places.length < 1000) (hi : 0 < places.length) (v : Nat) (hv : places.getD 0 0 = v) (hv0 : 0 < v) (hv1 : v < 60000)
    (to : Nat) (hle : at_ + v ≤ to) (hr : rd bs (at_ + v) 4 = to - (at_ + v)) (hto : to + 4 ≤ bs.length) (w : World) (h : TabAt b g L c at_ bs w) :
    Calls Tryz.prog 95 #[.pointer (some ⟨b, 0, none⟩), .pointer none] w (NewTab g L c to bs w) := by
  have c0 := h.c0
  have c1 := h.c1
  have hlen := h.len
  have hbig := h.big
  have hat := hq.2.2.2.2
  have hne : ((v : Int) == 0) = false := by simp; omega
  have hw0 : IntKind.u32.wrap (v : Int) = v := by rw [IntKind.wrap_u32]; omega
  have hw1 : IntKind.u32.wrap ((v : Int) + at_) = ((at_ + v : Nat) : Int) := by rw [IntKind.wrap_u32]; omega
  have HO : Hid (∀ W, TabAt b g L c at_ bs W → Calls Tryz.prog 92 #[.pointer (some ⟨b, 0, none⟩), .int .u16 4] W fun e w' => e = .returned (.int .u16 v) ∧ ∃ m, w' = W.drewN m) :=
    Lib.hid fun W hW => offset_there b g L c at_ bs size places hq h4 hn 0 hi 4 (by omega) v hv W hW
  have HI : Hid (∀ W, TabAt b g L c at_ bs W → Calls Tryz.prog 93 #[.pointer (some ⟨b, 0, none⟩), .int .u32 (at_ + v : Nat)] W fun e w' => e = .returned (.int .u32 to) ∧ ∃ m, w' = W.drewN m) :=
    Lib.hid fun W hW => indirect_any b g L c at_ bs (at_ + v) to hle hr (by omega) (by omega) W hW
  have H := Lib.hid h
  clear h hq
  go_enter Tryz.func95, Tryz.ntmps95
  go_wp2_with fail
  ((with_reducible refine (HO.out _ H.out).mono ?_))
  rintro e w1 ⟨rfl, hm1⟩
  have HB1 := Lib.hid (reads_below hm1)
  have h1 : TabAt b g L c at_ bs w1 := by obtain ⟨m, rfl⟩ := hm1; exact H.out.drewN m
  have H1 := Lib.hid h1
  have d0 := h1.c0
  have d1 := h1.c1
  have a0 : ∀ n o, ((w1.drewN n).alloc o).cell? ⟨b, 0, none⟩ = some (.slice (some ⟨g, 0, none⟩) L c) := fun n o => (Below.cell ((Below.refl w1.heap.size (w1.drewN n)).alloc (Nat.le_refl _) o) (p := ⟨b, 0, none⟩) h1.bl).trans d0
  have a1 : ∀ n o, ((w1.drewN n).alloc o).cell? ⟨b, 1, none⟩ = some (.int .u32 at_) := fun n o => (Below.cell ((Below.refl w1.heap.size (w1.drewN n)).alloc (Nat.le_refl _) o) (p := ⟨b, 1, none⟩) h1.bl).trans d1
  have HIN : Hid (∀ n, Calls Tryz.prog 94 #[.pointer (some ⟨w1.heap.size, 0, none⟩), .slice (some ⟨g, 0, none⟩) L c, .int .u32 to] ((w1.drewN n).alloc (.cells #[.slice none 0 0, .int .u32 0] 330)) fun e w' => e = .returned (.tuple #[]) ∧ TabAt w1.heap.size g L c to bs w' ∧ Below w1.heap.size w1 w') := Lib.hid fun n => by
    have hr : RowAt g L c bs (w1.drewN n) := ⟨h1.row, h1.len, h1.cap, h1.big, h1.gl⟩
    refine (initBaseNode w1.heap.size g L c _ _ to _ (heap_alloc_new (w1.drewN n) _)).mono ?_
    rintro e w' ⟨rfl, rfl⟩
    have h2 := tab_made hr to (.slice none 0 0) (.int .u32 0) 330
    exact ⟨rfl, h2.1, (reads_below (w := w1) ⟨n, rfl⟩).trans h2.2⟩
  clear hm1 c0 c1 h1
  go_wp2
  go_quiet ((go_at_call 93; refine Calls.quiet_of (HI.out _ (H1.out.drewN _))))
  go_wp2_with fail
  ((with_reducible refine (HIN.out _).mono ?_))
  rintro e w3 ⟨rfl, h3, hb3⟩
  go_wp2
  go_ret
  exact ⟨_, rfl, HB1.out.size, h3, HB1.out.trans (hb3.mono HB1.out.size)⟩


set_option maxHeartbeats 4000000 in
set_option maxRecDepth 100000 in
theorem baseNodeIdentifier_none (b g L c at_ : Nat) (bs : List UInt8) (size : Nat) (places : List Nat) (hq : VtQ size places bs at_) (h4 : 4 ≤ size) (hn : places.length < 1000) (hi : 0 < places.length → places.getD 0 0 = 0) (w : World) (h : TabAt b g L c at_ bs w) :
    Calls Tryz.prog 95 #[.pointer (some ⟨b, 0, none⟩), .pointer none] w fun e w' => e = .returned (.pointer none) ∧ ∃ m, w' = w.drewN m := by
  have c0 := h.c0
  have c1 := h.c1
  have HO : Hid (∀ W, TabAt b g L c at_ bs W → Calls Tryz.prog 92 #[.pointer (some ⟨b, 0, none⟩), .int .u16 4] W fun e w' => e = .returned (.int .u16 0) ∧ ∃ m, w' = W.drewN m) :=
    Lib.hid fun W hW => offsetZ b g L c at_ bs size places hq h4 hn 0 hi (by omega) 4 (by omega) W hW
  have H := Lib.hid h
  clear h hq
  go_enter Tryz.func95, Tryz.ntmps95
  go_wp2_with fail
  ((with_reducible refine (HO.out _ H.out).mono ?_))
  rintro e w1 ⟨rfl, m1, rfl⟩
  go_wp2
  go_ret
  exact ⟨rfl, _, rfl⟩


set_option maxHeartbeats 4000000 in
set_option maxRecDepth 100000 in
theorem textIdentifier_there (b g L c at_ : Nat) (bs : List UInt8) (size : Nat) (places : List Nat) (hq : VtQ size places bs at_) (h4 : 4 ≤ size) (hn : places.length < 1000) (hi : 1 < places.length) (v : Nat) (hv : places.getD 1 0 = v) (hv0 : 0 < v) (hv1 : v < 60000) (to n o : Nat) (hle : at_ + v ≤ to) (hr : rd bs (at_ + v) 4 = to - (at_ + v)) (hn2 : rd bs to 4 = n) (ht : to + 4 + n ≤ bs.length) (ho1 : c = to + 4 → o = 0) (ho2 : ¬ c = to + 4 → o = to + 4) (w : World) (h : TabAt b g L c at_ bs w) :
    Calls Tryz.prog 96 #[.pointer (some ⟨b, 0, none⟩)] w fun e w' => e = .returned (.slice (some ⟨g, o, none⟩) n (c - (to + 4))) ∧ ∃ m, w' = w.drewN m := by
  have c0 := h.c0
  have c1 := h.c1
  have hlen := h.len
  have hbig := h.big
  have hat := hq.2.2.2.2
  have hne : ((v : Int) == 0) = false := by simp; omega
  have hw0 : IntKind.u32.wrap (v : Int) = v := by rw [IntKind.wrap_u32]; omega
  have hw1 : IntKind.u32.wrap ((v : Int) + at_) = ((at_ + v : Nat) : Int) := by rw [IntKind.wrap_u32]; omega
  have HO : Hid (∀ W, TabAt b g L c at_ bs W → Calls Tryz.prog 92 #[.pointer (some ⟨b, 0, none⟩), .int .u16 6] W fun e w' => e = .returned (.int .u16 v) ∧ ∃ m, w' = W.drewN m) :=
    Lib.hid fun W hW => offset_there b g L c at_ bs size places hq h4 hn 1 hi 6 (by omega) v hv W hW
  have HV : Hid (∀ W, TabAt b g L c at_ bs W → Calls Tryz.prog 138 #[.pointer (some ⟨b, 0, none⟩), .int .u32 (at_ + v : Nat)] W fun e w' => e = .returned (.slice (some ⟨g, o, none⟩) n (c - (to + 4))) ∧ ∃ m, w' = W.drewN m) :=
    Lib.hid fun W hW => byteVector_any b g L c at_ bs (at_ + v) to n hle hr (by omega) hn2 (by omega) o ho1 ho2 W hW
  have H := Lib.hid h
  clear h hq
  go_enter Tryz.func96, Tryz.ntmps96
  go_wp2_with fail
  ((with_reducible refine (HO.out _ H.out).mono ?_))
  rintro e w1 ⟨rfl, hm1⟩
  have HM1 := Lib.hid hm1
  have h1 : TabAt b g L c at_ bs w1 := by obtain ⟨m, rfl⟩ := hm1; exact H.out.drewN m
  have H1 := Lib.hid h1
  have d0 := h1.c0
  have d1 := h1.c1
  clear hm1 c0 c1 h1
  go_wp2
  go_quiet ((go_at_call 138; refine Calls.quiet_of (HV.out _ (H1.out.drewN _))))
  go_wp2
  go_ret
  obtain ⟨m, hm⟩ := HM1.out
  rw [hm, World.drewN_drewN]
  exact ⟨rfl, _, rfl⟩


set_option maxHeartbeats 4000000 in
set_option maxRecDepth 100000 in
theorem baseNodeTvarType_there (b g L c at_ : Nat) (bs : List UInt8) (size : Nat) (places : List Nat) (hq : VtQ size places bs at_) (h4 : 4 ≤ size) (hn : places.length < 1000) (hi : 0 < places.length) (v : Nat) (hv : places.getD 0 0 = v) (hv0 : 0 < v) (hv1 : v < 60000)
    (to : Nat) (hle : at_ + v ≤ to) (hr : rd bs (at_ + v) 4 = to - (at_ + v)) (hto : to + 4 ≤ bs.length) (w : World) (h : TabAt b g L c at_ bs w) :
    Calls Tryz.prog 52 #[.pointer (some ⟨b, 0, none⟩), .pointer none] w (NewTab g L c to bs w) := by
  have c0 := h.c0
  have c1 := h.c1
  have hlen := h.len
  have hbig := h.big
  have hat := hq.2.2.2.2
  have hne : ((v : Int) == 0) = false := by simp; omega
  have hw0 : IntKind.u32.wrap (v : Int) = v := by rw [IntKind.wrap_u32]; omega
  have hw1 : IntKind.u32.wrap ((v : Int) + at_) = ((at_ + v : Nat) : Int) := by rw [IntKind.wrap_u32]; omega
  have HO : Hid (∀ W, TabAt b g L c at_ bs W → Calls Tryz.prog 92 #[.pointer (some ⟨b, 0, none⟩), .int .u16 4] W fun e w' => e = .returned (.int .u16 v) ∧ ∃ m, w' = W.drewN m) :=
    Lib.hid fun W hW => offset_there b g L c at_ bs size places hq h4 hn 0 hi 4 (by omega) v hv W hW
  have HI : Hid (∀ W, TabAt b g L c at_ bs W → Calls Tryz.prog 93 #[.pointer (some ⟨b, 0, none⟩), .int .u32 (at_ + v : Nat)] W fun e w' => e = .returned (.int .u32 to) ∧ ∃ m, w' = W.drewN m) :=
    Lib.hid fun W hW => indirect_any b g L c at_ bs (at_ + v) to hle hr (by omega) (by omega) W hW
  have H := Lib.hid h
  clear h hq
  go_enter Tryz.func52, Tryz.ntmps52
  go_wp2_with fail
  ((with_reducible refine (HO.out _ H.out).mono ?_))
  rintro e w1 ⟨rfl, hm1⟩
  have HB1 := Lib.hid (reads_below hm1)
  have h1 : TabAt b g L c at_ bs w1 := by obtain ⟨m, rfl⟩ := hm1; exact H.out.drewN m
  have H1 := Lib.hid h1
  have d0 := h1.c0
  have d1 := h1.c1
  have a0 : ∀ n o, ((w1.drewN n).alloc o).cell? ⟨b, 0, none⟩ = some (.slice (some ⟨g, 0, none⟩) L c) := fun n o => (Below.cell ((Below.refl w1.heap.size (w1.drewN n)).alloc (Nat.le_refl _) o) (p := ⟨b, 0, none⟩) h1.bl).trans d0
  have a1 : ∀ n o, ((w1.drewN n).alloc o).cell? ⟨b, 1, none⟩ = some (.int .u32 at_) := fun n o => (Below.cell ((Below.refl w1.heap.size (w1.drewN n)).alloc (Nat.le_refl _) o) (p := ⟨b, 1, none⟩) h1.bl).trans d1
  have HIN : Hid (∀ n, Calls Tryz.prog 94 #[.pointer (some ⟨w1.heap.size, 0, none⟩), .slice (some ⟨g, 0, none⟩) L c, .int .u32 to] ((w1.drewN n).alloc (.cells #[.slice none 0 0, .int .u32 0] 330)) fun e w' => e = .returned (.tuple #[]) ∧ TabAt w1.heap.size g L c to bs w' ∧ Below w1.heap.size w1 w') := Lib.hid fun n => by
    have hr : RowAt g L c bs (w1.drewN n) := ⟨h1.row, h1.len, h1.cap, h1.big, h1.gl⟩
    refine (initBaseNode w1.heap.size g L c _ _ to _ (heap_alloc_new (w1.drewN n) _)).mono ?_
    rintro e w' ⟨rfl, rfl⟩
    have h2 := tab_made hr to (.slice none 0 0) (.int .u32 0) 330
    exact ⟨rfl, h2.1, (reads_below (w := w1) ⟨n, rfl⟩).trans h2.2⟩
  clear hm1 c0 c1 h1
  go_wp2
  go_quiet ((go_at_call 93; refine Calls.quiet_of (HI.out _ (H1.out.drewN _))))
  go_wp2_with fail
  ((with_reducible refine (HIN.out _).mono ?_))
  rintro e w3 ⟨rfl, h3, hb3⟩
  go_wp2
  go_ret
  exact ⟨_, rfl, HB1.out.size, h3, HB1.out.trans (hb3.mono HB1.out.size)⟩


set_option maxHeartbeats 4000000 in
set_option maxRecDepth 100000 in
theorem baseNodeTvarType_none (b g L c at_ : Nat) (bs : List UInt8) (size : Nat) (places : List Nat) (hq : VtQ size places bs at_) (h4 : 4 ≤ size) (hn : places.length < 1000) (hi : 0 < places.length → places.getD 0 0 = 0) (w : World) (h : TabAt b g L c at_ bs w) :
    Calls Tryz.prog 52 #[.pointer (some ⟨b, 0, none⟩), .pointer none] w fun e w' => e = .returned (.pointer none) ∧ ∃ m, w' = w.drewN m := by
  have c0 := h.c0
  have c1 := h.c1
  have HO : Hid (∀ W, TabAt b g L c at_ bs W → Calls Tryz.prog 92 #[.pointer (some ⟨b, 0, none⟩), .int .u16 4] W fun e w' => e = .returned (.int .u16 0) ∧ ∃ m, w' = W.drewN m) :=
    Lib.hid fun W hW => offsetZ b g L c at_ bs size places hq h4 hn 0 hi (by omega) 4 (by omega) W hW
  have H := Lib.hid h
  clear h hq
  go_enter Tryz.func52, Tryz.ntmps52
  go_wp2_with fail
  ((with_reducible refine (HO.out _ H.out).mono ?_))
  rintro e w1 ⟨rfl, m1, rfl⟩
  go_wp2
  go_ret
  exact ⟨rfl, _, rfl⟩


set_option maxHeartbeats 4000000 in
set_option maxRecDepth 100000 in
theorem idTvarType_there (b g L c at_ : Nat) (bs : List UInt8) (size : Nat) (places : List Nat) (hq : VtQ size places bs at_) (h4 : 4 ≤ size) (hn : places.length < 1000) (hi : 1 < places.length) (v : Nat) (hv : places.getD 1 0 = v) (hv0 : 0 < v) (hv1 : v < 60000)
    (to : Nat) (hle : at_ + v ≤ to) (hr : rd bs (at_ + v) 4 = to - (at_ + v)) (hto : to + 4 ≤ bs.length) (w : World) (h : TabAt b g L c at_ bs w) :
    Calls Tryz.prog 54 #[.pointer (some ⟨b, 0, none⟩), .pointer none] w (NewTab g L c to bs w) := by
  have c0 := h.c0
  have c1 := h.c1
  have hlen := h.len
  have hbig := h.big
  have hat := hq.2.2.2.2
  have hne : ((v : Int) == 0) = false := by simp; omega
  have hw0 : IntKind.u32.wrap (v : Int) = v := by rw [IntKind.wrap_u32]; omega
  have hw1 : IntKind.u32.wrap ((v : Int) + at_) = ((at_ + v : Nat) : Int) := by rw [IntKind.wrap_u32]; omega
  have HO : Hid (∀ W, TabAt b g L c at_ bs W → Calls Tryz.prog 92 #[.pointer (some ⟨b, 0, none⟩), .int .u16 6] W fun e w' => e = .returned (.int .u16 v) ∧ ∃ m, w' = W.drewN m) :=
    Lib.hid fun W hW => offset_there b g L c at_ bs size places hq h4 hn 1 hi 6 (by omega) v hv W hW
  have HI : Hid (∀ W, TabAt b g L c at_ bs W → Calls Tryz.prog 93 #[.pointer (some ⟨b, 0, none⟩), .int .u32 (at_ + v : Nat)] W fun e w' => e = .returned (.int .u32 to) ∧ ∃ m, w' = W.drewN m) :=
    Lib.hid fun W hW => indirect_any b g L c at_ bs (at_ + v) to hle hr (by omega) (by omega) W hW
  have H := Lib.hid h
  clear h hq
  go_enter Tryz.func54, Tryz.ntmps54
  go_wp2_with fail
  ((with_reducible refine (HO.out _ H.out).mono ?_))
  rintro e w1 ⟨rfl, hm1⟩
  have HB1 := Lib.hid (reads_below hm1)
  have h1 : TabAt b g L c at_ bs w1 := by obtain ⟨m, rfl⟩ := hm1; exact H.out.drewN m
  have H1 := Lib.hid h1
  have d0 := h1.c0
  have d1 := h1.c1
  have a0 : ∀ n o, ((w1.drewN n).alloc o).cell? ⟨b, 0, none⟩ = some (.slice (some ⟨g, 0, none⟩) L c) := fun n o => (Below.cell ((Below.refl w1.heap.size (w1.drewN n)).alloc (Nat.le_refl _) o) (p := ⟨b, 0, none⟩) h1.bl).trans d0
  have a1 : ∀ n o, ((w1.drewN n).alloc o).cell? ⟨b, 1, none⟩ = some (.int .u32 at_) := fun n o => (Below.cell ((Below.refl w1.heap.size (w1.drewN n)).alloc (Nat.le_refl _) o) (p := ⟨b, 1, none⟩) h1.bl).trans d1
  have HIN : Hid (∀ n, Calls Tryz.prog 97 #[.pointer (some ⟨w1.heap.size, 0, none⟩), .slice (some ⟨g, 0, none⟩) L c, .int .u32 to] ((w1.drewN n).alloc (.cells #[.slice none 0 0, .int .u32 0] 332)) fun e w' => e = .returned (.tuple #[]) ∧ TabAt w1.heap.size g L c to bs w' ∧ Below w1.heap.size w1 w') := Lib.hid fun n => by
    have hr : RowAt g L c bs (w1.drewN n) := ⟨h1.row, h1.len, h1.cap, h1.big, h1.gl⟩
    refine (initIdentifier w1.heap.size g L c _ _ to _ (heap_alloc_new (w1.drewN n) _)).mono ?_
    rintro e w' ⟨rfl, rfl⟩
    have h2 := tab_made hr to (.slice none 0 0) (.int .u32 0) 332
    exact ⟨rfl, h2.1, (reads_below (w := w1) ⟨n, rfl⟩).trans h2.2⟩
  clear hm1 c0 c1 h1
  go_wp2
  go_quiet ((go_at_call 93; refine Calls.quiet_of (HI.out _ (H1.out.drewN _))))
  go_wp2_with fail
  ((with_reducible refine (HIN.out _).mono ?_))
  rintro e w3 ⟨rfl, h3, hb3⟩
  go_wp2
  go_ret
  exact ⟨_, rfl, HB1.out.size, h3, HB1.out.trans (hb3.mono HB1.out.size)⟩


set_option maxHeartbeats 4000000 in
set_option maxRecDepth 100000 in
theorem rootTvarType (g L c to : Nat) (bs : List UInt8) (hr : rd bs 0 4 = to) (ht : to ≤ L) (h4 : 4 ≤ L) (w : World) (h : RowAt g L c bs w) :
    Calls Tryz.prog 19 #[.slice (some ⟨g, 0, none⟩) L c, .int .u32 0] w (NewTab g L c to bs w) := by
  have hlen := h.len
  have hbig := h.big
  have hcap := h.cap
  have hw1 : IntKind.u32.wrap (to : Int) = to := by rw [IntKind.wrap_u32]; omega
  have HG : Hid (Calls Tryz.prog 55 #[.slice (some ⟨g, 0, none⟩) L c] w fun e w' => e = .returned (.int .u32 to) ∧ ∃ m, w' = w.drewN m) :=
    Lib.hid (getUOffset_any g 0 L c bs to w h.row (by omega) (by omega) hr (by omega))
  have HIN : Hid (∀ n, Calls Tryz.prog 56 #[.pointer (some ⟨w.heap.size, 0, none⟩), .slice (some ⟨g, 0, none⟩) L c, .int .u32 to] ((w.drewN n).alloc (.cells #[.slice none 0 0, .int .u32 0] 246)) fun e w' => e = .returned (.tuple #[]) ∧ TabAt w.heap.size g L c to bs w' ∧ Below w.heap.size w w') := Lib.hid fun n => by
    have hr : RowAt g L c bs (w.drewN n) := ⟨h.row, h.len, h.cap, h.big, h.gl⟩
    refine (initTvarType w.heap.size g L c _ _ to _ (heap_alloc_new (w.drewN n) _)).mono ?_
    rintro e w' ⟨rfl, rfl⟩
    have h2 := tab_made hr to (.slice none 0 0) (.int .u32 0) 246
    exact ⟨rfl, h2.1, (reads_below (w := w) ⟨n, rfl⟩).trans h2.2⟩
  clear h
  go_enter Tryz.func19, Tryz.ntmps19
  go_wp2_with fail
  ((with_reducible refine HG.out.mono ?_))
  rintro e w1 ⟨rfl, m1, rfl⟩
  go_wp2_with fail
  ((with_reducible refine (HIN.out _).mono ?_))
  rintro e w3 ⟨rfl, h3, hb3⟩
  go_wp2
  go_ret
  exact ⟨_, rfl, Nat.le_refl _, h3, hb3⟩


set_option maxHeartbeats 4000000 in
set_option maxRecDepth 100000 in
theorem baseNodeImportDeclaration_there (b g L c at_ : Nat) (bs : List UInt8) (size : Nat) (places : List Nat) (hq : VtQ size places bs at_) (h4 : 4 ≤ size) (hn : places.length < 1000) (hi : 0 < places.length) (v : Nat) (hv : places.getD 0 0 = v) (hv0 : 0 < v) (hv1 : v < 60000)
    (to : Nat) (hle : at_ + v ≤ to) (hr : rd bs (at_ + v) 4 = to - (at_ + v)) (hto : to + 4 ≤ bs.length) (w : World) (h : TabAt b g L c at_ bs w) :
    Calls Tryz.prog 61 #[.pointer (some ⟨b, 0, none⟩), .pointer none] w (NewTab g L c to bs w) := by
  have c0 := h.c0
  have c1 := h.c1
  have hlen := h.len
  have hbig := h.big
  have hat := hq.2.2.2.2
  have hne : ((v : Int) == 0) = false := by simp; omega
  have hw0 : IntKind.u32.wrap (v : Int) = v := by rw [IntKind.wrap_u32]; omega
  have hw1 : IntKind.u32.wrap ((v : Int) + at_) = ((at_ + v : Nat) : Int) := by rw [IntKind.wrap_u32]; omega
  have HO : Hid (∀ W, TabAt b g L c at_ bs W → Calls Tryz.prog 92 #[.pointer (some ⟨b, 0, none⟩), .int .u16 4] W fun e w' => e = .returned (.int .u16 v) ∧ ∃ m, w' = W.drewN m) :=
    Lib.hid fun W hW => offset_there b g L c at_ bs size places hq h4 hn 0 hi 4 (by omega) v hv W hW
  have HI : Hid (∀ W, TabAt b g L c at_ bs W → Calls Tryz.prog 93 #[.pointer (some ⟨b, 0, none⟩), .int .u32 (at_ + v : Nat)] W fun e w' => e = .returned (.int .u32 to) ∧ ∃ m, w' = W.drewN m) :=
    Lib.hid fun W hW => indirect_any b g L c at_ bs (at_ + v) to hle hr (by omega) (by omega) W hW
  have H := Lib.hid h
  clear h hq
  go_enter Tryz.func61, Tryz.ntmps61
  go_wp2_with fail
  ((with_reducible refine (HO.out _ H.out).mono ?_))
  rintro e w1 ⟨rfl, hm1⟩
  have HB1 := Lib.hid (reads_below hm1)
  have h1 : TabAt b g L c at_ bs w1 := by obtain ⟨m, rfl⟩ := hm1; exact H.out.drewN m
  have H1 := Lib.hid h1
  have d0 := h1.c0
  have d1 := h1.c1
  have a0 : ∀ n o, ((w1.drewN n).alloc o).cell? ⟨b, 0, none⟩ = some (.slice (some ⟨g, 0, none⟩) L c) := fun n o => (Below.cell ((Below.refl w1.heap.size (w1.drewN n)).alloc (Nat.le_refl _) o) (p := ⟨b, 0, none⟩) h1.bl).trans d0
  have a1 : ∀ n o, ((w1.drewN n).alloc o).cell? ⟨b, 1, none⟩ = some (.int .u32 at_) := fun n o => (Below.cell ((Below.refl w1.heap.size (w1.drewN n)).alloc (Nat.le_refl _) o) (p := ⟨b, 1, none⟩) h1.bl).trans d1
  have HIN : Hid (∀ n, Calls Tryz.prog 94 #[.pointer (some ⟨w1.heap.size, 0, none⟩), .slice (some ⟨g, 0, none⟩) L c, .int .u32 to] ((w1.drewN n).alloc (.cells #[.slice none 0 0, .int .u32 0] 330)) fun e w' => e = .returned (.tuple #[]) ∧ TabAt w1.heap.size g L c to bs w' ∧ Below w1.heap.size w1 w') := Lib.hid fun n => by
    have hr : RowAt g L c bs (w1.drewN n) := ⟨h1.row, h1.len, h1.cap, h1.big, h1.gl⟩
    refine (initBaseNode w1.heap.size g L c _ _ to _ (heap_alloc_new (w1.drewN n) _)).mono ?_
    rintro e w' ⟨rfl, rfl⟩
    have h2 := tab_made hr to (.slice none 0 0) (.int .u32 0) 330
    exact ⟨rfl, h2.1, (reads_below (w := w1) ⟨n, rfl⟩).trans h2.2⟩
  clear hm1 c0 c1 h1
  go_wp2
  go_quiet ((go_at_call 93; refine Calls.quiet_of (HI.out _ (H1.out.drewN _))))
  go_wp2_with fail
  ((with_reducible refine (HIN.out _).mono ?_))
  rintro e w3 ⟨rfl, h3, hb3⟩
  go_wp2
  go_ret
  exact ⟨_, rfl, HB1.out.size, h3, HB1.out.trans (hb3.mono HB1.out.size)⟩


set_option maxHeartbeats 4000000 in
set_option maxRecDepth 100000 in
theorem baseNodeImportDeclaration_none (b g L c at_ : Nat) (bs : List UInt8) (size : Nat) (places : List Nat) (hq : VtQ size places bs at_) (h4 : 4 ≤ size) (hn : places.length < 1000) (hi : 0 < places.length → places.getD 0 0 = 0) (w : World) (h : TabAt b g L c at_ bs w) :
    Calls Tryz.prog 61 #[.pointer (some ⟨b, 0, none⟩), .pointer none] w fun e w' => e = .returned (.pointer none) ∧ ∃ m, w' = w.drewN m := by
  have c0 := h.c0
  have c1 := h.c1
  have HO : Hid (∀ W, TabAt b g L c at_ bs W → Calls Tryz.prog 92 #[.pointer (some ⟨b, 0, none⟩), .int .u16 4] W fun e w' => e = .returned (.int .u16 0) ∧ ∃ m, w' = W.drewN m) :=
    Lib.hid fun W hW => offsetZ b g L c at_ bs size places hq h4 hn 0 hi (by omega) 4 (by omega) W hW
  have H := Lib.hid h
  clear h hq
  go_enter Tryz.func61, Tryz.ntmps61
  go_wp2_with fail
  ((with_reducible refine (HO.out _ H.out).mono ?_))
  rintro e w1 ⟨rfl, m1, rfl⟩
  go_wp2
  go_ret
  exact ⟨rfl, _, rfl⟩


set_option maxHeartbeats 4000000 in
set_option maxRecDepth 100000 in
theorem asImportDeclaration_there (b g L c at_ : Nat) (bs : List UInt8) (size : Nat) (places : List Nat) (hq : VtQ size places bs at_) (h4 : 4 ≤ size) (hn : places.length < 1000) (hi : 1 < places.length) (v : Nat) (hv : places.getD 1 0 = v) (hv0 : 0 < v) (hv1 : v < 60000)
    (to : Nat) (hle : at_ + v ≤ to) (hr : rd bs (at_ + v) 4 = to - (at_ + v)) (hto : to + 4 ≤ bs.length) (w : World) (h : TabAt b g L c at_ bs w) :
    Calls Tryz.prog 62 #[.pointer (some ⟨b, 0, none⟩), .pointer none] w (NewTab g L c to bs w) := by
  have c0 := h.c0
  have c1 := h.c1
  have hlen := h.len
  have hbig := h.big
  have hat := hq.2.2.2.2
  have hne : ((v : Int) == 0) = false := by simp; omega
  have hw0 : IntKind.u32.wrap (v : Int) = v := by rw [IntKind.wrap_u32]; omega
  have hw1 : IntKind.u32.wrap ((v : Int) + at_) = ((at_ + v : Nat) : Int) := by rw [IntKind.wrap_u32]; omega
  have HO : Hid (∀ W, TabAt b g L c at_ bs W → Calls Tryz.prog 92 #[.pointer (some ⟨b, 0, none⟩), .int .u16 6] W fun e w' => e = .returned (.int .u16 v) ∧ ∃ m, w' = W.drewN m) :=
    Lib.hid fun W hW => offset_there b g L c at_ bs size places hq h4 hn 1 hi 6 (by omega) v hv W hW
  have HI : Hid (∀ W, TabAt b g L c at_ bs W → Calls Tryz.prog 93 #[.pointer (some ⟨b, 0, none⟩), .int .u32 (at_ + v : Nat)] W fun e w' => e = .returned (.int .u32 to) ∧ ∃ m, w' = W.drewN m) :=
    Lib.hid fun W hW => indirect_any b g L c at_ bs (at_ + v) to hle hr (by omega) (by omega) W hW
  have H := Lib.hid h
  clear h hq
  go_enter Tryz.func62, Tryz.ntmps62
  go_wp2_with fail
  ((with_reducible refine (HO.out _ H.out).mono ?_))
  rintro e w1 ⟨rfl, hm1⟩
  have HB1 := Lib.hid (reads_below hm1)
  have h1 : TabAt b g L c at_ bs w1 := by obtain ⟨m, rfl⟩ := hm1; exact H.out.drewN m
  have H1 := Lib.hid h1
  have d0 := h1.c0
  have d1 := h1.c1
  have a0 : ∀ n o, ((w1.drewN n).alloc o).cell? ⟨b, 0, none⟩ = some (.slice (some ⟨g, 0, none⟩) L c) := fun n o => (Below.cell ((Below.refl w1.heap.size (w1.drewN n)).alloc (Nat.le_refl _) o) (p := ⟨b, 0, none⟩) h1.bl).trans d0
  have a1 : ∀ n o, ((w1.drewN n).alloc o).cell? ⟨b, 1, none⟩ = some (.int .u32 at_) := fun n o => (Below.cell ((Below.refl w1.heap.size (w1.drewN n)).alloc (Nat.le_refl _) o) (p := ⟨b, 1, none⟩) h1.bl).trans d1
  have HIN : Hid (∀ n, Calls Tryz.prog 97 #[.pointer (some ⟨w1.heap.size, 0, none⟩), .slice (some ⟨g, 0, none⟩) L c, .int .u32 to] ((w1.drewN n).alloc (.cells #[.slice none 0 0, .int .u32 0] 332)) fun e w' => e = .returned (.tuple #[]) ∧ TabAt w1.heap.size g L c to bs w' ∧ Below w1.heap.size w1 w') := Lib.hid fun n => by
    have hr : RowAt g L c bs (w1.drewN n) := ⟨h1.row, h1.len, h1.cap, h1.big, h1.gl⟩
    refine (initIdentifier w1.heap.size g L c _ _ to _ (heap_alloc_new (w1.drewN n) _)).mono ?_
    rintro e w' ⟨rfl, rfl⟩
    have h2 := tab_made hr to (.slice none 0 0) (.int .u32 0) 332
    exact ⟨rfl, h2.1, (reads_below (w := w1) ⟨n, rfl⟩).trans h2.2⟩
  clear hm1 c0 c1 h1
  go_wp2
  go_quiet ((go_at_call 93; refine Calls.quiet_of (HI.out _ (H1.out.drewN _))))
  go_wp2_with fail
  ((with_reducible refine (HIN.out _).mono ?_))
  rintro e w3 ⟨rfl, h3, hb3⟩
  go_wp2
  go_ret
  exact ⟨_, rfl, HB1.out.size, h3, HB1.out.trans (hb3.mono HB1.out.size)⟩


set_option maxHeartbeats 4000000 in
set_option maxRecDepth 100000 in
theorem asImportDeclaration_none (b g L c at_ : Nat) (bs : List UInt8) (size : Nat) (places : List Nat) (hq : VtQ size places bs at_) (h4 : 4 ≤ size) (hn : places.length < 1000) (hi : 1 < places.length → places.getD 1 0 = 0) (w : World) (h : TabAt b g L c at_ bs w) :
    Calls Tryz.prog 62 #[.pointer (some ⟨b, 0, none⟩), .pointer none] w fun e w' => e = .returned (.pointer none) ∧ ∃ m, w' = w.drewN m := by
  have c0 := h.c0
  have c1 := h.c1
  have HO : Hid (∀ W, TabAt b g L c at_ bs W → Calls Tryz.prog 92 #[.pointer (some ⟨b, 0, none⟩), .int .u16 6] W fun e w' => e = .returned (.int .u16 0) ∧ ∃ m, w' = W.drewN m) :=
    Lib.hid fun W hW => offsetZ b g L c at_ bs size places hq h4 hn 1 hi (by omega) 6 (by omega) W hW
  have H := Lib.hid h
  clear h hq
  go_enter Tryz.func62, Tryz.ntmps62
  go_wp2_with fail
  ((with_reducible refine (HO.out _ H.out).mono ?_))
  rintro e w1 ⟨rfl, m1, rfl⟩
  go_wp2
  go_ret
  exact ⟨rfl, _, rfl⟩


set_option maxHeartbeats 4000000 in
set_option maxRecDepth 100000 in
theorem pathImportDeclaration_there (b g L c at_ : Nat) (bs : List UInt8) (size : Nat) (places : List Nat) (hq : VtQ size places bs at_) (h4 : 4 ≤ size) (hn : places.length < 1000) (hi : 2 < places.length) (v : Nat) (hv : places.getD 2 0 = v) (hv0 : 0 < v) (hv1 : v < 60000)
    (to : Nat) (hle : at_ + v ≤ to) (hr : rd bs (at_ + v) 4 = to - (at_ + v)) (hto : to + 4 ≤ bs.length) (w : World) (h : TabAt b g L c at_ bs w) :
    Calls Tryz.prog 64 #[.pointer (some ⟨b, 0, none⟩), .pointer none] w (NewTab g L c to bs w) := by
  have c0 := h.c0
  have c1 := h.c1
  have hlen := h.len
  have hbig := h.big
  have hat := hq.2.2.2.2
  have hne : ((v : Int) == 0) = false := by simp; omega
  have hw0 : IntKind.u32.wrap (v : Int) = v := by rw [IntKind.wrap_u32]; omega
  have hw1 : IntKind.u32.wrap ((v : Int) + at_) = ((at_ + v : Nat) : Int) := by rw [IntKind.wrap_u32]; omega
  have HO : Hid (∀ W, TabAt b g L c at_ bs W → Calls Tryz.prog 92 #[.pointer (some ⟨b, 0, none⟩), .int .u16 8] W fun e w' => e = .returned (.int .u16 v) ∧ ∃ m, w' = W.drewN m) :=
    Lib.hid fun W hW => offset_there b g L c at_ bs size places hq h4 hn 2 hi 8 (by omega) v hv W hW
  have HI : Hid (∀ W, TabAt b g L c at_ bs W → Calls Tryz.prog 93 #[.pointer (some ⟨b, 0, none⟩), .int .u32 (at_ + v : Nat)] W fun e w' => e = .returned (.int .u32 to) ∧ ∃ m, w' = W.drewN m) :=
    Lib.hid fun W hW => indirect_any b g L c at_ bs (at_ + v) to hle hr (by omega) (by omega) W hW
  have H := Lib.hid h
  clear h hq
  go_enter Tryz.func64, Tryz.ntmps64
  go_wp2_with fail
  ((with_reducible refine (HO.out _ H.out).mono ?_))
  rintro e w1 ⟨rfl, hm1⟩
  have HB1 := Lib.hid (reads_below hm1)
  have h1 : TabAt b g L c at_ bs w1 := by obtain ⟨m, rfl⟩ := hm1; exact H.out.drewN m
  have H1 := Lib.hid h1
  have d0 := h1.c0
  have d1 := h1.c1
  have a0 : ∀ n o, ((w1.drewN n).alloc o).cell? ⟨b, 0, none⟩ = some (.slice (some ⟨g, 0, none⟩) L c) := fun n o => (Below.cell ((Below.refl w1.heap.size (w1.drewN n)).alloc (Nat.le_refl _) o) (p := ⟨b, 0, none⟩) h1.bl).trans d0
  have a1 : ∀ n o, ((w1.drewN n).alloc o).cell? ⟨b, 1, none⟩ = some (.int .u32 at_) := fun n o => (Below.cell ((Below.refl w1.heap.size (w1.drewN n)).alloc (Nat.le_refl _) o) (p := ⟨b, 1, none⟩) h1.bl).trans d1
  have HIN : Hid (∀ n, Calls Tryz.prog 108 #[.pointer (some ⟨w1.heap.size, 0, none⟩), .slice (some ⟨g, 0, none⟩) L c, .int .u32 to] ((w1.drewN n).alloc (.cells #[.slice none 0 0, .int .u32 0] 336)) fun e w' => e = .returned (.tuple #[]) ∧ TabAt w1.heap.size g L c to bs w' ∧ Below w1.heap.size w1 w') := Lib.hid fun n => by
    have hr : RowAt g L c bs (w1.drewN n) := ⟨h1.row, h1.len, h1.cap, h1.big, h1.gl⟩
    refine (initStringLiteral w1.heap.size g L c _ _ to _ (heap_alloc_new (w1.drewN n) _)).mono ?_
    rintro e w' ⟨rfl, rfl⟩
    have h2 := tab_made hr to (.slice none 0 0) (.int .u32 0) 336
    exact ⟨rfl, h2.1, (reads_below (w := w1) ⟨n, rfl⟩).trans h2.2⟩
  clear hm1 c0 c1 h1
  go_wp2
  go_quiet ((go_at_call 93; refine Calls.quiet_of (HI.out _ (H1.out.drewN _))))
  go_wp2_with fail
  ((with_reducible refine (HIN.out _).mono ?_))
  rintro e w3 ⟨rfl, h3, hb3⟩
  go_wp2
  go_ret
  exact ⟨_, rfl, HB1.out.size, h3, HB1.out.trans (hb3.mono HB1.out.size)⟩


set_option maxHeartbeats 4000000 in
set_option maxRecDepth 100000 in
theorem rootImportDeclaration (g L c to : Nat) (bs : List UInt8) (hr : rd bs 0 4 = to) (ht : to ≤ L) (h4 : 4 ≤ L) (w : World) (h : RowAt g L c bs w) :
    Calls Tryz.prog 24 #[.slice (some ⟨g, 0, none⟩) L c, .int .u32 0] w (NewTab g L c to bs w) := by
  have hlen := h.len
  have hbig := h.big
  have hcap := h.cap
  have hw1 : IntKind.u32.wrap (to : Int) = to := by rw [IntKind.wrap_u32]; omega
  have HG : Hid (Calls Tryz.prog 55 #[.slice (some ⟨g, 0, none⟩) L c] w fun e w' => e = .returned (.int .u32 to) ∧ ∃ m, w' = w.drewN m) :=
    Lib.hid (getUOffset_any g 0 L c bs to w h.row (by omega) (by omega) hr (by omega))
  have HIN : Hid (∀ n, Calls Tryz.prog 65 #[.pointer (some ⟨w.heap.size, 0, none⟩), .slice (some ⟨g, 0, none⟩) L c, .int .u32 to] ((w.drewN n).alloc (.cells #[.slice none 0 0, .int .u32 0] 258)) fun e w' => e = .returned (.tuple #[]) ∧ TabAt w.heap.size g L c to bs w' ∧ Below w.heap.size w w') := Lib.hid fun n => by
    have hr : RowAt g L c bs (w.drewN n) := ⟨h.row, h.len, h.cap, h.big, h.gl⟩
    refine (initImportDeclaration w.heap.size g L c _ _ to _ (heap_alloc_new (w.drewN n) _)).mono ?_
    rintro e w' ⟨rfl, rfl⟩
    have h2 := tab_made hr to (.slice none 0 0) (.int .u32 0) 258
    exact ⟨rfl, h2.1, (reads_below (w := w) ⟨n, rfl⟩).trans h2.2⟩
  clear h
  go_enter Tryz.func24, Tryz.ntmps24
  go_wp2_with fail
  ((with_reducible refine HG.out.mono ?_))
  rintro e w1 ⟨rfl, m1, rfl⟩
  go_wp2_with fail
  ((with_reducible refine (HIN.out _).mono ?_))
  rintro e w3 ⟨rfl, h3, hb3⟩
  go_wp2
  go_ret
  exact ⟨_, rfl, Nat.le_refl _, h3, hb3⟩


end Go.Proofs.YtdillheepidncaaGreatDoor
