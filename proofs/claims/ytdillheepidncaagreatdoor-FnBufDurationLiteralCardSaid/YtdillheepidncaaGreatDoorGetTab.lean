/- flatbuffers.Table: fields, references, texts, numbers. -/
import Derived.Test.YtdillheepidncaaGreatDoorGet
namespace Go.Proofs.YtdillheepidncaaGreatDoor
open Go Go.RowKit
set_option linter.unusedVariables false
set_option linter.unusedSimpArgs false

/-- A table's reader in memory: its bytes and its place. -/
structure TabAt (b g L c p : Nat) (bs : List UInt8) (w : World) : Prop where
  c0 : w.cell? ⟨b, 0, none⟩ = some (.slice (some ⟨g, 0, none⟩) L c)
  c1 : w.cell? ⟨b, 1, none⟩ = some (.int .u32 p)
  row : RowIn w g bs
  len : bs.length = L
  cap : L ≤ c
  big : L < 1000000000
  gl : g < w.heap.size
  bl : b < w.heap.size

theorem TabAt.drewN {b g L c p : Nat} {bs : List UInt8} {w : World} (h : TabAt b g L c p bs w) (n : Nat) : TabAt b g L c p bs (w.drewN n) := ⟨h.c0, h.c1, h.row, h.len, h.cap, h.big, h.gl, h.bl⟩

set_option maxHeartbeats 4000000 in
set_option maxRecDepth 100000 in
theorem tGetSOffsetT (b g L c p : Nat) (bs : List UInt8) (off v : Nat) (ho : off + 4 ≤ L) (hv : rd bs off 4 = v) (hr : v < 2147483648) (w : World) (h : TabAt b g L c p bs w) :
    Calls Tryz.prog 141 #[.pointer (some ⟨b, 0, none⟩), .int .u32 off] w fun e w' => e = .returned (.int .i32 v) ∧ ∃ m, w' = w.drewN m := by
  have c0 := h.c0
  have c1 := h.c1
  have hcap := h.cap
  have hlen := h.len
  have hbig := h.big
  have HR := Lib.hid h.row
  have HA : Hid (∀ W, RowIn W g bs → Calls Tryz.prog 167 #[.slice (some ⟨g, off, none⟩) (L - off) (c - off)] W fun e w' => e = .returned (.int .i32 v) ∧ ∃ m, w' = W.drewN m) :=
    Lib.hid fun W hW => getSOffset_any g off (L - off) (c - off) bs v W hW (by omega) (by omega) hv hr
  clear h
  go_enter Tryz.func141, Tryz.ntmps141
  go_wp2_with fail
  ((with_reducible refine (HA.out _ HR.out).mono ?_))
  rintro e w' ⟨rfl, m0, rfl⟩
  go_wp2
  go_ret
  exact ⟨rfl, _, rfl⟩

set_option maxHeartbeats 4000000 in
set_option maxRecDepth 100000 in
theorem tGetVOffsetT (b g L c p : Nat) (bs : List UInt8) (off v : Nat) (ho : off + 2 ≤ L) (hv : rd bs off 2 = v) (w : World) (h : TabAt b g L c p bs w) :
    Calls Tryz.prog 142 #[.pointer (some ⟨b, 0, none⟩), .int .u32 off] w fun e w' => e = .returned (.int .u16 v) ∧ ∃ m, w' = w.drewN m := by
  have c0 := h.c0
  have c1 := h.c1
  have hcap := h.cap
  have hlen := h.len
  have hbig := h.big
  have HR := Lib.hid h.row
  have HA : Hid (∀ W, RowIn W g bs → Calls Tryz.prog 168 #[.slice (some ⟨g, off, none⟩) (L - off) (c - off)] W fun e w' => e = .returned (.int .u16 v) ∧ ∃ m, w' = W.drewN m) :=
    Lib.hid fun W hW => getVOffset_any g off (L - off) (c - off) bs v W hW (by omega) (by omega) hv
  clear h
  go_enter Tryz.func142, Tryz.ntmps142
  go_wp2_with fail
  ((with_reducible refine (HA.out _ HR.out).mono ?_))
  rintro e w' ⟨rfl, m0, rfl⟩
  go_wp2
  go_ret
  exact ⟨rfl, _, rfl⟩

set_option maxHeartbeats 4000000 in
set_option maxRecDepth 100000 in
theorem tGetInt32 (b g L c p : Nat) (bs : List UInt8) (off v : Nat) (ho : off + 4 ≤ L) (hv : rd bs off 4 = v) (hr : v < 2147483648) (w : World) (h : TabAt b g L c p bs w) :
    Calls Tryz.prog 189 #[.pointer (some ⟨b, 0, none⟩), .int .u32 off] w fun e w' => e = .returned (.int .i32 v) ∧ ∃ m, w' = w.drewN m := by
  have c0 := h.c0
  have c1 := h.c1
  have hcap := h.cap
  have hlen := h.len
  have hbig := h.big
  have HR := Lib.hid h.row
  have HA : Hid (∀ W, RowIn W g bs → Calls Tryz.prog 98 #[.slice (some ⟨g, off, none⟩) (L - off) (c - off)] W fun e w' => e = .returned (.int .i32 v) ∧ ∃ m, w' = W.drewN m) :=
    Lib.hid fun W hW => getInt32_any g off (L - off) (c - off) bs v W hW (by omega) (by omega) hv hr
  clear h
  go_enter Tryz.func189, Tryz.ntmps189
  go_wp2_with fail
  ((with_reducible refine (HA.out _ HR.out).mono ?_))
  rintro e w' ⟨rfl, m0, rfl⟩
  go_wp2
  go_ret
  exact ⟨rfl, _, rfl⟩


/-- What a table's head says: where its row of places stands, and the places. -/
def VtQ (size : Nat) (places : List Nat) (l : List UInt8) (at_ : Nat) : Prop :=
  4 + 2 * places.length ≤ at_ ∧ rd l at_ 4 = 4 + 2 * places.length ∧ rd l (at_ - (4 + 2 * places.length)) 2 = 4 + 2 * places.length ∧
    (∀ i, i < places.length → rd l (at_ - (4 + 2 * places.length) + 4 + 2 * i) 2 = places.getD i 0) ∧ at_ + size ≤ l.length

theorem TabQ.vt {size : Nat} {places : List Nat} {fs : List SlotQ} {l : List UInt8} {at_ : Nat} (h : TabQ size places fs l at_) : VtQ size places l at_ := ⟨h.1, h.2.1, h.2.2.1, h.2.2.2.1, h.2.2.2.2.1⟩

set_option maxHeartbeats 4000000 in
set_option maxRecDepth 100000 in
theorem offset_there (b g L c p : Nat) (bs : List UInt8) (size : Nat) (places : List Nat) (hq : VtQ size places bs p) (h4 : 4 ≤ size) (hn : places.length < 1000) (i : Nat) (hi : i < places.length) (x : Int) (hx0 : x = 4 + 2 * i) (v : Nat) (hv : places.getD i 0 = v) (w : World) (h : TabAt b g L c p bs w) :
    Calls Tryz.prog 92 #[.pointer (some ⟨b, 0, none⟩), .int .u16 x] w fun e w' => e = .returned (.int .u16 v) ∧ ∃ m, w' = w.drewN m := by
  obtain ⟨q0, q1, q2, q3, q4⟩ := hq
  have q5 := q3 i hi
  rw [hv] at q5
  have c1 := h.c1
  have hlen := h.len
  have hbig := h.big
  rw [hlen] at q4
  generalize hV : 4 + 2 * places.length = V at *
  have hw1 : IntKind.i32.wrap (p : Int) = p := by rw [IntKind.wrap_i32]; omega
  have hw2 : IntKind.i32.wrap ((p : Int) - V) = ((p - V : Nat) : Int) := by rw [IntKind.wrap_i32]; omega
  have hw3 : IntKind.u32.wrap ((p - V : Nat) : Int) = ((p - V : Nat) : Int) := by rw [IntKind.wrap_u32]; omega
  have hw4 : IntKind.u32.wrap x = x := by rw [IntKind.wrap_u32]; omega
  obtain ⟨q, hqd⟩ : ∃ q : Nat, q = p - V + 4 + 2 * i := ⟨_, rfl⟩
  rw [← hqd] at q5
  have hw5 : IntKind.u32.wrap (((p - V : Nat) : Int) + x) = q := by rw [IntKind.wrap_u32]; omega
  have hlt : x < (V : Int) := by omega
  have HA : Hid (∀ W, TabAt b g L c p bs W → Calls Tryz.prog 141 #[.pointer (some ⟨b, 0, none⟩), .int .u32 p] W fun e w' => e = .returned (.int .i32 V) ∧ ∃ m, w' = W.drewN m) :=
    Lib.hid fun W hW => tGetSOffsetT b g L c p bs p V (by omega) q1 (by omega) W hW
  have HB : Hid (∀ W, TabAt b g L c p bs W → Calls Tryz.prog 142 #[.pointer (some ⟨b, 0, none⟩), .int .u32 (p - V : Nat)] W fun e w' => e = .returned (.int .u16 V) ∧ ∃ m, w' = W.drewN m) :=
    Lib.hid fun W hW => tGetVOffsetT b g L c p bs (p - V) V (by omega) q2 W hW
  have HC : Hid (∀ W, TabAt b g L c p bs W → Calls Tryz.prog 142 #[.pointer (some ⟨b, 0, none⟩), .int .u32 q] W fun e w' => e = .returned (.int .u16 v) ∧ ∃ m, w' = W.drewN m) :=
    Lib.hid fun W hW => tGetVOffsetT b g L c p bs q v (by omega) q5 W hW
  have H := Lib.hid h
  clear hx0 hqd h q0 q1 q2 q3 q4 q5 hV
  go_enter Tryz.func92, Tryz.ntmps92
  go_wp2
  go_quiet ((go_at_call 141; refine Calls.quiet_of (HA.out _ (H.out.drewN _))))
  go_wp2_with fail
  ((with_reducible refine (HB.out _ (H.out.drewN _)).mono ?_))
  rintro e w' ⟨rfl, m1, rfl⟩
  go_wp2_with fail
  ((with_reducible refine (HC.out _ (H.out.drewN _)).mono ?_))
  rintro e w' ⟨rfl, m2, rfl⟩
  go_wp2
  go_ret
  exact ⟨rfl, _, rfl⟩

set_option maxHeartbeats 4000000 in
set_option maxRecDepth 100000 in
theorem offset_none (b g L c p : Nat) (bs : List UInt8) (size : Nat) (places : List Nat) (hq : VtQ size places bs p) (h4 : 4 ≤ size) (hn : places.length < 1000) (i : Nat) (hi : places.length ≤ i) (hi2 : i < 1000) (x : Int) (hx : x = 4 + 2 * i) (w : World) (h : TabAt b g L c p bs w) :
    Calls Tryz.prog 92 #[.pointer (some ⟨b, 0, none⟩), .int .u16 x] w fun e w' => e = .returned (.int .u16 0) ∧ ∃ m, w' = w.drewN m := by
  obtain ⟨q0, q1, q2, q3, q4⟩ := hq
  have c1 := h.c1
  have hlen := h.len
  have hbig := h.big
  rw [hlen] at q4
  generalize hV : 4 + 2 * places.length = V at *
  have hw1 : IntKind.i32.wrap (p : Int) = p := by rw [IntKind.wrap_i32]; omega
  have hw2 : IntKind.i32.wrap ((p : Int) - V) = ((p - V : Nat) : Int) := by rw [IntKind.wrap_i32]; omega
  have hw3 : IntKind.u32.wrap ((p - V : Nat) : Int) = ((p - V : Nat) : Int) := by rw [IntKind.wrap_u32]; omega
  have hlt : ¬ x < (V : Int) := by omega
  have HA : Hid (∀ W, TabAt b g L c p bs W → Calls Tryz.prog 141 #[.pointer (some ⟨b, 0, none⟩), .int .u32 p] W fun e w' => e = .returned (.int .i32 V) ∧ ∃ m, w' = W.drewN m) :=
    Lib.hid fun W hW => tGetSOffsetT b g L c p bs p V (by omega) q1 (by omega) W hW
  have HB : Hid (∀ W, TabAt b g L c p bs W → Calls Tryz.prog 142 #[.pointer (some ⟨b, 0, none⟩), .int .u32 (p - V : Nat)] W fun e w' => e = .returned (.int .u16 V) ∧ ∃ m, w' = W.drewN m) :=
    Lib.hid fun W hW => tGetVOffsetT b g L c p bs (p - V) V (by omega) q2 W hW
  have H := Lib.hid h
  clear h q0 q1 q2 q3 q4 hV
  go_enter Tryz.func92, Tryz.ntmps92
  go_wp2
  go_quiet ((go_at_call 141; refine Calls.quiet_of (HA.out _ (H.out.drewN _))))
  go_wp2_with fail
  ((with_reducible refine (HB.out _ (H.out.drewN _)).mono ?_))
  rintro e w' ⟨rfl, m1, rfl⟩
  go_wp2
  go_ret
  exact ⟨rfl, _, rfl⟩

set_option maxHeartbeats 4000000 in
set_option maxRecDepth 100000 in
theorem indirect_any (b g L c p : Nat) (bs : List UInt8) (off to : Nat) (hle : off ≤ to) (hr : rd bs off 4 = to - off) (ho : off + 4 ≤ L) (ht : to ≤ L) (w : World) (h : TabAt b g L c p bs w) :
    Calls Tryz.prog 93 #[.pointer (some ⟨b, 0, none⟩), .int .u32 off] w fun e w' => e = .returned (.int .u32 to) ∧ ∃ m, w' = w.drewN m := by
  have c0 := h.c0
  have hcap := h.cap
  have hlen := h.len
  have hbig := h.big
  have HR := Lib.hid h.row
  have hw1 : IntKind.u32.wrap ((off : Int) + ((to - off : Nat) : Int)) = to := by rw [IntKind.wrap_u32]; omega
  have HA : Hid (∀ W, RowIn W g bs → Calls Tryz.prog 55 #[.slice (some ⟨g, off, none⟩) (L - off) (c - off)] W fun e w' => e = .returned (.int .u32 (to - off : Nat)) ∧ ∃ m, w' = W.drewN m) :=
    Lib.hid fun W hW => getUOffset_any g off (L - off) (c - off) bs _ W hW (by omega) (by omega) hr (by omega)
  clear h
  go_enter Tryz.func93, Tryz.ntmps93
  go_wp2_with fail
  ((with_reducible refine (HA.out _ HR.out).mono ?_))
  rintro e w' ⟨rfl, m0, rfl⟩
  go_wp2
  go_ret
  exact ⟨rfl, _, rfl⟩

set_option maxHeartbeats 4000000 in
set_option maxRecDepth 100000 in
theorem byteVector_any (b g L c p : Nat) (bs : List UInt8) (off to n : Nat) (hle : off ≤ to) (hr : rd bs off 4 = to - off) (ho : off + 4 ≤ L) (hn : rd bs to 4 = n) (ht : to + 4 + n ≤ L) (o : Nat) (ho1 : c = to + 4 → o = 0) (ho2 : ¬ c = to + 4 → o = to + 4) (w : World) (h : TabAt b g L c p bs w) :
    Calls Tryz.prog 138 #[.pointer (some ⟨b, 0, none⟩), .int .u32 off] w fun e w' => e = .returned (.slice (some ⟨g, o, none⟩) n (c - (to + 4))) ∧ ∃ m, w' = w.drewN m := by
  have c0 := h.c0
  have hcap := h.cap
  have hlen := h.len
  have hbig := h.big
  have HR := Lib.hid h.row
  have hw1 : IntKind.u32.wrap ((off : Int) + ((to - off : Nat) : Int)) = to := by rw [IntKind.wrap_u32]; omega
  have hw2 : IntKind.u32.wrap ((to : Int) + 4) = ((to + 4 : Nat) : Int) := by rw [IntKind.wrap_u32]; omega
  have hw3 : IntKind.u32.wrap (((to + 4 : Nat) : Int) + n) = ((to + 4 + n : Nat) : Int) := by rw [IntKind.wrap_u32]; omega
  have HA : Hid (∀ W, RowIn W g bs → Calls Tryz.prog 55 #[.slice (some ⟨g, off, none⟩) (L - off) (c - off)] W fun e w' => e = .returned (.int .u32 (to - off : Nat)) ∧ ∃ m, w' = W.drewN m) :=
    Lib.hid fun W hW => getUOffset_any g off (L - off) (c - off) bs _ W hW (by omega) (by omega) hr (by omega)
  have HB : Hid (∀ W, RowIn W g bs → Calls Tryz.prog 55 #[.slice (some ⟨g, to, none⟩) (L - to) (c - to)] W fun e w' => e = .returned (.int .u32 n) ∧ ∃ m, w' = W.drewN m) :=
    Lib.hid fun W hW => getUOffset_any g to (L - to) (c - to) bs _ W hW (by omega) (by omega) hn (by omega)
  have HRD : Hid (∀ m, RowIn (w.drewN m) g bs) := Lib.hid fun m => HR.out
  have HO1 := Lib.hid ho1
  have HO2 := Lib.hid ho2
  clear h ho1 ho2
  go_enter Tryz.func138, Tryz.ntmps138
  go_wp2_with fail
  ((with_reducible refine (HA.out _ HR.out).mono ?_))
  rintro e w' ⟨rfl, m0, rfl⟩
  go_wp2_with fail
  ((with_reducible refine (HB.out _ (HRD.out _)).mono ?_))
  rintro e w' ⟨rfl, m1, rfl⟩
  go_wp2
  all_goals
    first
      | (obtain rfl := HO1.out (by assumption)
         go_ret
         exact ⟨rfl, _, rfl⟩)
      | (obtain rfl := HO2.out (by assumption)
         go_ret
         exact ⟨rfl, _, rfl⟩)

end Go.Proofs.YtdillheepidncaaGreatDoor
