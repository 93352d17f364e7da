/- fbast: the readers of nodes of one text or number. -/
import Derived.Test.YtgceklahjdbipaaGreatDoorGet
namespace Go.Proofs.YtgceklahjdbipaaGreatDoor
open Go Go.RowKit
set_option linter.unusedVariables false
set_option linter.unusedSimpArgs false


set_option maxHeartbeats 4000000 in
set_option maxRecDepth 100000 in
theorem baseNodeIdentifier_there (b g L c at_ : Nat) (bs : List UInt8) (size : Nat) (places : List Nat) (hq : VtQ size places bs at_) (h4 : 4 ≤ size) (hn : places.length < 1000) (hi : 0 < places.length) (v : Nat) (hv : places.getD 0 0 = v) (hv0 : 0 < v) (hv1 : v < 60000)
    (to : Nat) (hle : at_ + v ≤ to) (hr : rd bs (at_ + v) 4 = to - (at_ + v)) (hto : to + 4 ≤ bs.length) (w : World) (h : TabAt b g L c at_ bs w) :
    Calls Tryz.prog 133 #[.pointer (some ⟨b, 0, none⟩), .pointer none] w (NewTab g L c to bs w) := by
  have c0 := h.c0
  have c1 := h.c1
  have hlen := h.len
  have hbig := h.big
  have hat := hq.2.2.2.2
  have hne : ((v : Int) == 0) = false := by simp; omega
  have hw0 : IntKind.u32.wrap (v : Int) = v := by rw [IntKind.wrap_u32]; omega
  have hw1 : IntKind.u32.wrap ((v : Int) + at_) = ((at_ + v : Nat) : Int) := by rw [IntKind.wrap_u32]; omega
  have HO : Hid (∀ W, TabAt b g L c at_ bs W → Calls Tryz.prog 110 #[.pointer (some ⟨b, 0, none⟩), .int .u16 4] W fun e w' => e = .returned (.int .u16 v) ∧ ∃ m, w' = W.drewN m) :=
    Lib.hid fun W hW => offset_there b g L c at_ bs size places hq h4 hn 0 hi 4 (by omega) v hv W hW
  have HI : Hid (∀ W, TabAt b g L c at_ bs W → Calls Tryz.prog 111 #[.pointer (some ⟨b, 0, none⟩), .int .u32 (at_ + v : Nat)] W fun e w' => e = .returned (.int .u32 to) ∧ ∃ m, w' = W.drewN m) :=
    Lib.hid fun W hW => indirect_any b g L c at_ bs (at_ + v) to hle hr (by omega) (by omega) W hW
  have H := Lib.hid h
  clear h hq
  go_enter Tryz.func133, Tryz.ntmps133
  go_wp2_with fail
  ((with_reducible refine (HO.out _ H.out).mono ?_))
  rintro e w1 ⟨rfl, hm1⟩
  have HB1 := Lib.hid (reads_below hm1)
  have h1 : TabAt b g L c at_ bs w1 := by obtain ⟨m, rfl⟩ := hm1; exact H.out.drewN m
  have H1 := Lib.hid h1
  have d0 := h1.c0
  have d1 := h1.c1
  have a0 : ∀ n o, ((w1.drewN n).alloc o).cell? ⟨b, 0, none⟩ = some (.slice (some ⟨g, 0, none⟩) L c) := fun n o => (Below.cell ((Below.refl w1.heap.size (w1.drewN n)).alloc (Nat.le_refl _) o) (p := ⟨b, 0, none⟩) h1.bl).trans d0
  have a1 : ∀ n o, ((w1.drewN n).alloc o).cell? ⟨b, 1, none⟩ = some (.int .u32 at_) := fun n o => (Below.cell ((Below.refl w1.heap.size (w1.drewN n)).alloc (Nat.le_refl _) o) (p := ⟨b, 1, none⟩) h1.bl).trans d1
  have HIN : Hid (∀ n, Calls Tryz.prog 112 #[.pointer (some ⟨w1.heap.size, 0, none⟩), .slice (some ⟨g, 0, none⟩) L c, .int .u32 to] ((w1.drewN n).alloc (.cells #[.slice none 0 0, .int .u32 0] 341)) fun e w' => e = .returned (.tuple #[]) ∧ TabAt w1.heap.size g L c to bs w' ∧ Below w1.heap.size w1 w') := Lib.hid fun n => by
    have hr : RowAt g L c bs (w1.drewN n) := ⟨h1.row, h1.len, h1.cap, h1.big, h1.gl⟩
    refine (initBaseNode w1.heap.size g L c _ _ to _ (heap_alloc_new (w1.drewN n) _)).mono ?_
    rintro e w' ⟨rfl, rfl⟩
    have h2 := tab_made hr to (.slice none 0 0) (.int .u32 0) 341
    exact ⟨rfl, h2.1, (reads_below (w := w1) ⟨n, rfl⟩).trans h2.2⟩
  clear hm1 c0 c1 h1
  go_wp2
  go_quiet ((go_at_call 111; refine Calls.quiet_of (HI.out _ (H1.out.drewN _))))
  go_wp2_with fail
  ((with_reducible refine (HIN.out _).mono ?_))
  rintro e w3 ⟨rfl, h3, hb3⟩
  go_wp2
  go_ret
  exact ⟨_, rfl, HB1.out.size, h3, HB1.out.trans (hb3.mono HB1.out.size)⟩


set_option maxHeartbeats 4000000 in
set_option maxRecDepth 100000 in
theorem baseNodeIdentifier_none (b g L c at_ : Nat) (bs : List UInt8) (size : Nat) (places : List Nat) (hq : VtQ size places bs at_) (h4 : 4 ≤ size) (hn : places.length < 1000) (hi : 0 < places.length → places.getD 0 0 = 0) (w : World) (h : TabAt b g L c at_ bs w) :
    Calls Tryz.prog 133 #[.pointer (some ⟨b, 0, none⟩), .pointer none] w fun e w' => e = .returned (.pointer none) ∧ ∃ m, w' = w.drewN m := by
  have c0 := h.c0
  have c1 := h.c1
  have HO : Hid (∀ W, TabAt b g L c at_ bs W → Calls Tryz.prog 110 #[.pointer (some ⟨b, 0, none⟩), .int .u16 4] W fun e w' => e = .returned (.int .u16 0) ∧ ∃ m, w' = W.drewN m) :=
    Lib.hid fun W hW => offsetZ b g L c at_ bs size places hq h4 hn 0 hi (by omega) 4 (by omega) W hW
  have H := Lib.hid h
  clear h hq
  go_enter Tryz.func133, Tryz.ntmps133
  go_wp2_with fail
  ((with_reducible refine (HO.out _ H.out).mono ?_))
  rintro e w1 ⟨rfl, m1, rfl⟩
  go_wp2
  go_ret
  exact ⟨rfl, _, rfl⟩


set_option maxHeartbeats 4000000 in
set_option maxRecDepth 100000 in
theorem textIdentifier_there (b g L c at_ : Nat) (bs : List UInt8) (size : Nat) (places : List Nat) (hq : VtQ size places bs at_) (h4 : 4 ≤ size) (hn : places.length < 1000) (hi : 1 < places.length) (v : Nat) (hv : places.getD 1 0 = v) (hv0 : 0 < v) (hv1 : v < 60000) (to n o : Nat) (hle : at_ + v ≤ to) (hr : rd bs (at_ + v) 4 = to - (at_ + v)) (hn2 : rd bs to 4 = n) (ht : to + 4 + n ≤ bs.length) (ho1 : c = to + 4 → o = 0) (ho2 : ¬ c = to + 4 → o = to + 4) (w : World) (h : TabAt b g L c at_ bs w) :
    Calls Tryz.prog 134 #[.pointer (some ⟨b, 0, none⟩)] w fun e w' => e = .returned (.slice (some ⟨g, o, none⟩) n (c - (to + 4))) ∧ ∃ m, w' = w.drewN m := by
  have c0 := h.c0
  have c1 := h.c1
  have hlen := h.len
  have hbig := h.big
  have hat := hq.2.2.2.2
  have hne : ((v : Int) == 0) = false := by simp; omega
  have hw0 : IntKind.u32.wrap (v : Int) = v := by rw [IntKind.wrap_u32]; omega
  have hw1 : IntKind.u32.wrap ((v : Int) + at_) = ((at_ + v : Nat) : Int) := by rw [IntKind.wrap_u32]; omega
  have HO : Hid (∀ W, TabAt b g L c at_ bs W → Calls Tryz.prog 110 #[.pointer (some ⟨b, 0, none⟩), .int .u16 6] W fun e w' => e = .returned (.int .u16 v) ∧ ∃ m, w' = W.drewN m) :=
    Lib.hid fun W hW => offset_there b g L c at_ bs size places hq h4 hn 1 hi 6 (by omega) v hv W hW
  have HV : Hid (∀ W, TabAt b g L c at_ bs W → Calls Tryz.prog 167 #[.pointer (some ⟨b, 0, none⟩), .int .u32 (at_ + v : Nat)] W fun e w' => e = .returned (.slice (some ⟨g, o, none⟩) n (c - (to + 4))) ∧ ∃ m, w' = W.drewN m) :=
    Lib.hid fun W hW => byteVector_any b g L c at_ bs (at_ + v) to n hle hr (by omega) hn2 (by omega) o ho1 ho2 W hW
  have H := Lib.hid h
  clear h hq
  go_enter Tryz.func134, Tryz.ntmps134
  go_wp2_with fail
  ((with_reducible refine (HO.out _ H.out).mono ?_))
  rintro e w1 ⟨rfl, hm1⟩
  have HM1 := Lib.hid hm1
  have h1 : TabAt b g L c at_ bs w1 := by obtain ⟨m, rfl⟩ := hm1; exact H.out.drewN m
  have H1 := Lib.hid h1
  have d0 := h1.c0
  have d1 := h1.c1
  clear hm1 c0 c1 h1
  go_wp2
  go_quiet ((go_at_call 167; refine Calls.quiet_of (HV.out _ (H1.out.drewN _))))
  go_wp2
  go_ret
  obtain ⟨m, hm⟩ := HM1.out
  rw [hm, World.drewN_drewN]
  exact ⟨rfl, _, rfl⟩


set_option maxHeartbeats 4000000 in
set_option maxRecDepth 100000 in
theorem baseNodeTvarType_there (b g L c at_ : Nat) (bs : List UInt8) (size : Nat) (places : List Nat) (hq : VtQ size places bs at_) (h4 : 4 ≤ size) (hn : places.length < 1000) (hi : 0 < places.length) (v : Nat) (hv : places.getD 0 0 = v) (hv0 : 0 < v) (hv1 : v < 60000)
    (to : Nat) (hle : at_ + v ≤ to) (hr : rd bs (at_ + v) 4 = to - (at_ + v)) (hto : to + 4 ≤ bs.length) (w : World) (h : TabAt b g L c at_ bs w) :
    Calls Tryz.prog 174 #[.pointer (some ⟨b, 0, none⟩), .pointer none] w (NewTab g L c to bs w) := by
  have c0 := h.c0
  have c1 := h.c1
  have hlen := h.len
  have hbig := h.big
  have hat := hq.2.2.2.2
  have hne : ((v : Int) == 0) = false := by simp; omega
  have hw0 : IntKind.u32.wrap (v : Int) = v := by rw [IntKind.wrap_u32]; omega
  have hw1 : IntKind.u32.wrap ((v : Int) + at_) = ((at_ + v : Nat) : Int) := by rw [IntKind.wrap_u32]; omega
  have HO : Hid (∀ W, TabAt b g L c at_ bs W → Calls Tryz.prog 110 #[.pointer (some ⟨b, 0, none⟩), .int .u16 4] W fun e w' => e = .returned (.int .u16 v) ∧ ∃ m, w' = W.drewN m) :=
    Lib.hid fun W hW => offset_there b g L c at_ bs size places hq h4 hn 0 hi 4 (by omega) v hv W hW
  have HI : Hid (∀ W, TabAt b g L c at_ bs W → Calls Tryz.prog 111 #[.pointer (some ⟨b, 0, none⟩), .int .u32 (at_ + v : Nat)] W fun e w' => e = .returned (.int .u32 to) ∧ ∃ m, w' = W.drewN m) :=
    Lib.hid fun W hW => indirect_any b g L c at_ bs (at_ + v) to hle hr (by omega) (by omega) W hW
  have H := Lib.hid h
  clear h hq
  go_enter Tryz.func174, Tryz.ntmps174
  go_wp2_with fail
  ((with_reducible refine (HO.out _ H.out).mono ?_))
  rintro e w1 ⟨rfl, hm1⟩
  have HB1 := Lib.hid (reads_below hm1)
  have h1 : TabAt b g L c at_ bs w1 := by obtain ⟨m, rfl⟩ := hm1; exact H.out.drewN m
  have H1 := Lib.hid h1
  have d0 := h1.c0
  have d1 := h1.c1
  have a0 : ∀ n o, ((w1.drewN n).alloc o).cell? ⟨b, 0, none⟩ = some (.slice (some ⟨g, 0, none⟩) L c) := fun n o => (Below.cell ((Below.refl w1.heap.size (w1.drewN n)).alloc (Nat.le_refl _) o) (p := ⟨b, 0, none⟩) h1.bl).trans d0
  have a1 : ∀ n o, ((w1.drewN n).alloc o).cell? ⟨b, 1, none⟩ = some (.int .u32 at_) := fun n o => (Below.cell ((Below.refl w1.heap.size (w1.drewN n)).alloc (Nat.le_refl _) o) (p := ⟨b, 1, none⟩) h1.bl).trans d1
  have HIN : Hid (∀ n, Calls Tryz.prog 112 #[.pointer (some ⟨w1.heap.size, 0, none⟩), .slice (some ⟨g, 0, none⟩) L c, .int .u32 to] ((w1.drewN n).alloc (.cells #[.slice none 0 0, .int .u32 0] 341)) fun e w' => e = .returned (.tuple #[]) ∧ TabAt w1.heap.size g L c to bs w' ∧ Below w1.heap.size w1 w') := Lib.hid fun n => by
    have hr : RowAt g L c bs (w1.drewN n) := ⟨h1.row, h1.len, h1.cap, h1.big, h1.gl⟩
    refine (initBaseNode w1.heap.size g L c _ _ to _ (heap_alloc_new (w1.drewN n) _)).mono ?_
    rintro e w' ⟨rfl, rfl⟩
    have h2 := tab_made hr to (.slice none 0 0) (.int .u32 0) 341
    exact ⟨rfl, h2.1, (reads_below (w := w1) ⟨n, rfl⟩).trans h2.2⟩
  clear hm1 c0 c1 h1
  go_wp2
  go_quiet ((go_at_call 111; refine Calls.quiet_of (HI.out _ (H1.out.drewN _))))
  go_wp2_with fail
  ((with_reducible refine (HIN.out _).mono ?_))
  rintro e w3 ⟨rfl, h3, hb3⟩
  go_wp2
  go_ret
  exact ⟨_, rfl, HB1.out.size, h3, HB1.out.trans (hb3.mono HB1.out.size)⟩


set_option maxHeartbeats 4000000 in
set_option maxRecDepth 100000 in
theorem baseNodeTvarType_none (b g L c at_ : Nat) (bs : List UInt8) (size : Nat) (places : List Nat) (hq : VtQ size places bs at_) (h4 : 4 ≤ size) (hn : places.length < 1000) (hi : 0 < places.length → places.getD 0 0 = 0) (w : World) (h : TabAt b g L c at_ bs w) :
    Calls Tryz.prog 174 #[.pointer (some ⟨b, 0, none⟩), .pointer none] w fun e w' => e = .returned (.pointer none) ∧ ∃ m, w' = w.drewN m := by
  have c0 := h.c0
  have c1 := h.c1
  have HO : Hid (∀ W, TabAt b g L c at_ bs W → Calls Tryz.prog 110 #[.pointer (some ⟨b, 0, none⟩), .int .u16 4] W fun e w' => e = .returned (.int .u16 0) ∧ ∃ m, w' = W.drewN m) :=
    Lib.hid fun W hW => offsetZ b g L c at_ bs size places hq h4 hn 0 hi (by omega) 4 (by omega) W hW
  have H := Lib.hid h
  clear h hq
  go_enter Tryz.func174, Tryz.ntmps174
  go_wp2_with fail
  ((with_reducible refine (HO.out _ H.out).mono ?_))
  rintro e w1 ⟨rfl, m1, rfl⟩
  go_wp2
  go_ret
  exact ⟨rfl, _, rfl⟩


set_option maxHeartbeats 4000000 in
set_option maxRecDepth 100000 in
theorem idTvarType_there (b g L c at_ : Nat) (bs : List UInt8) (size : Nat) (places : List Nat) (hq : VtQ size places bs at_) (h4 : 4 ≤ size) (hn : places.length < 1000) (hi : 1 < places.length) (v : Nat) (hv : places.getD 1 0 = v) (hv0 : 0 < v) (hv1 : v < 60000)
    (to : Nat) (hle : at_ + v ≤ to) (hr : rd bs (at_ + v) 4 = to - (at_ + v)) (hto : to + 4 ≤ bs.length) (w : World) (h : TabAt b g L c at_ bs w) :
    Calls Tryz.prog 175 #[.pointer (some ⟨b, 0, none⟩), .pointer none] w (NewTab g L c to bs w) := by
  have c0 := h.c0
  have c1 := h.c1
  have hlen := h.len
  have hbig := h.big
  have hat := hq.2.2.2.2
  have hne : ((v : Int) == 0) = false := by simp; omega
  have hw0 : IntKind.u32.wrap (v : Int) = v := by rw [IntKind.wrap_u32]; omega
  have hw1 : IntKind.u32.wrap ((v : Int) + at_) = ((at_ + v : Nat) : Int) := by rw [IntKind.wrap_u32]; omega
  have HO : Hid (∀ W, TabAt b g L c at_ bs W → Calls Tryz.prog 110 #[.pointer (some ⟨b, 0, none⟩), .int .u16 6] W fun e w' => e = .returned (.int .u16 v) ∧ ∃ m, w' = W.drewN m) :=
    Lib.hid fun W hW => offset_there b g L c at_ bs size places hq h4 hn 1 hi 6 (by omega) v hv W hW
  have HI : Hid (∀ W, TabAt b g L c at_ bs W → Calls Tryz.prog 111 #[.pointer (some ⟨b, 0, none⟩), .int .u32 (at_ + v : Nat)] W fun e w' => e = .returned (.int .u32 to) ∧ ∃ m, w' = W.drewN m) :=
    Lib.hid fun W hW => indirect_any b g L c at_ bs (at_ + v) to hle hr (by omega) (by omega) W hW
  have H := Lib.hid h
  clear h hq
  go_enter Tryz.func175, Tryz.ntmps175
  go_wp2_with fail
  ((with_reducible refine (HO.out _ H.out).mono ?_))
  rintro e w1 ⟨rfl, hm1⟩
  have HB1 := Lib.hid (reads_below hm1)
  have h1 : TabAt b g L c at_ bs w1 := by obtain ⟨m, rfl⟩ := hm1; exact H.out.drewN m
  have H1 := Lib.hid h1
  have d0 := h1.c0
  have d1 := h1.c1
  have a0 : ∀ n o, ((w1.drewN n).alloc o).cell? ⟨b, 0, none⟩ = some (.slice (some ⟨g, 0, none⟩) L c) := fun n o => (Below.cell ((Below.refl w1.heap.size (w1.drewN n)).alloc (Nat.le_refl _) o) (p := ⟨b, 0, none⟩) h1.bl).trans d0
  have a1 : ∀ n o, ((w1.drewN n).alloc o).cell? ⟨b, 1, none⟩ = some (.int .u32 at_) := fun n o => (Below.cell ((Below.refl w1.heap.size (w1.drewN n)).alloc (Nat.le_refl _) o) (p := ⟨b, 1, none⟩) h1.bl).trans d1
  have HIN : Hid (∀ n, Calls Tryz.prog 135 #[.pointer (some ⟨w1.heap.size, 0, none⟩), .slice (some ⟨g, 0, none⟩) L c, .int .u32 to] ((w1.drewN n).alloc (.cells #[.slice none 0 0, .int .u32 0] 364)) fun e w' => e = .returned (.tuple #[]) ∧ TabAt w1.heap.size g L c to bs w' ∧ Below w1.heap.size w1 w') := Lib.hid fun n => by
    have hr : RowAt g L c bs (w1.drewN n) := ⟨h1.row, h1.len, h1.cap, h1.big, h1.gl⟩
    refine (initIdentifier w1.heap.size g L c _ _ to _ (heap_alloc_new (w1.drewN n) _)).mono ?_
    rintro e w' ⟨rfl, rfl⟩
    have h2 := tab_made hr to (.slice none 0 0) (.int .u32 0) 364
    exact ⟨rfl, h2.1, (reads_below (w := w1) ⟨n, rfl⟩).trans h2.2⟩
  clear hm1 c0 c1 h1
  go_wp2
  go_quiet ((go_at_call 111; refine Calls.quiet_of (HI.out _ (H1.out.drewN _))))
  go_wp2_with fail
  ((with_reducible refine (HIN.out _).mono ?_))
  rintro e w3 ⟨rfl, h3, hb3⟩
  go_wp2
  go_ret
  exact ⟨_, rfl, HB1.out.size, h3, HB1.out.trans (hb3.mono HB1.out.size)⟩


end Go.Proofs.YtgceklahjdbipaaGreatDoor
