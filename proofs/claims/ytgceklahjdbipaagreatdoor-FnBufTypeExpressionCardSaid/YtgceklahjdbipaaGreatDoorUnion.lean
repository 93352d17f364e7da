/- flatbuffers: bytes and unions. -/
import Derived.Test.YtgceklahjdbipaaGreatDoorVec
import Derived.Test.YtgceklahjdbipaaGreatDoorGet
namespace Go.Proofs.YtgceklahjdbipaaGreatDoor
open Go Go.RowKit
set_option linter.unusedVariables false
set_option linter.unusedSimpArgs false

set_option maxHeartbeats 1000000 in
set_option maxRecDepth 100000 in
theorem getUint8_any (g p n c : Nat) (bs : List UInt8) (v : Nat) (w : World) (h : RowIn w g bs) (hn : 1 ≤ n) (hp : p + 1 ≤ bs.length) (hv0 : rd bs p 1 = v) :
    Calls Tryz.prog 215 #[.slice (some ⟨g, p, none⟩) n c] w fun e w' => e = .returned (.int .u8 v) ∧ ∃ m, w' = w.drewN m := by
  have c0 := h p (by omega)
  have hv : (gB bs p).toNat = v := hv0
  rw [hv] at c0
  clear h hv hv0
  go_enter Tryz.func215, Tryz.ntmps215
  go_wp2
  go_ret
  exact ⟨rfl, 0, rfl⟩

set_option maxHeartbeats 1000000 in
set_option maxRecDepth 100000 in
theorem getByte_any (g p n c : Nat) (bs : List UInt8) (v : Nat) (w : World) (h : RowIn w g bs) (hn : 1 ≤ n) (hp : p + 1 ≤ bs.length) (hv0 : rd bs p 1 = v) :
    Calls Tryz.prog 189 #[.slice (some ⟨g, p, none⟩) n c] w fun e w' => e = .returned (.int .u8 v) ∧ ∃ m, w' = w.drewN m := by
  have HA := Lib.hid (getUint8_any g p n c bs v w h hn hp hv0)
  clear h hv0
  go_enter Tryz.func189, Tryz.ntmps189
  go_wp2_with fail
  ((with_reducible refine HA.out.mono ?_))
  rintro e w' ⟨rfl, m0, rfl⟩
  go_wp2
  go_ret
  exact ⟨rfl, _, rfl⟩


set_option maxHeartbeats 4000000 in
set_option maxRecDepth 100000 in
theorem tGetByte (b g L c p : Nat) (bs : List UInt8) (off v : Nat) (ho : off + 1 ≤ L) (hv : rd bs off 1 = v) (w : World) (h : TabAt b g L c p bs w) :
    Calls Tryz.prog 124 #[.pointer (some ⟨b, 0, none⟩), .int .u32 off] w fun e w' => e = .returned (.int .u8 v) ∧ ∃ m, w' = w.drewN m := by
  have c0 := h.c0
  have c1 := h.c1
  have hcap := h.cap
  have hlen := h.len
  have hbig := h.big
  have HR := Lib.hid h.row
  have HA : Hid (∀ W, RowIn W g bs → Calls Tryz.prog 189 #[.slice (some ⟨g, off, none⟩) (L - off) (c - off)] W fun e w' => e = .returned (.int .u8 v) ∧ ∃ m, w' = W.drewN m) :=
    Lib.hid fun W hW => getByte_any g off (L - off) (c - off) bs v W hW (by omega) (by omega) hv
  clear h
  go_enter Tryz.func124, Tryz.ntmps124
  go_wp2_with fail
  ((with_reducible refine (HA.out _ HR.out).mono ?_))
  rintro e w' ⟨rfl, m0, rfl⟩
  go_wp2
  go_ret
  exact ⟨rfl, _, rfl⟩


set_option maxHeartbeats 4000000 in
set_option maxRecDepth 100000 in
theorem tGetUOffsetT (b g L c p : Nat) (bs : List UInt8) (off v : Nat) (ho : off + 4 ≤ L) (hv : rd bs off 4 = v) (hr : v < 2147483648) (w : World) (h : TabAt b g L c p bs w) :
    Calls Tryz.prog 188 #[.pointer (some ⟨b, 0, none⟩), .int .u32 off] w fun e w' => e = .returned (.int .u32 v) ∧ ∃ m, w' = w.drewN m := by
  have c0 := h.c0
  have c1 := h.c1
  have hcap := h.cap
  have hlen := h.len
  have hbig := h.big
  have HR := Lib.hid h.row
  have HA : Hid (∀ W, RowIn W g bs → Calls Tryz.prog 63 #[.slice (some ⟨g, off, none⟩) (L - off) (c - off)] W fun e w' => e = .returned (.int .u32 v) ∧ ∃ m, w' = W.drewN m) :=
    Lib.hid fun W hW => getUOffset_any g off (L - off) (c - off) bs v W hW (by omega) (by omega) hv hr
  clear h
  go_enter Tryz.func188, Tryz.ntmps188
  go_wp2_with fail
  ((with_reducible refine (HA.out _ HR.out).mono ?_))
  rintro e w' ⟨rfl, m0, rfl⟩
  go_wp2
  go_ret
  exact ⟨rfl, _, rfl⟩


/-- A table's reader, set by a union. -/
abbrev unionW (w : World) (r : Nat) (v : Value) (p : Int) : World := (w.setCell ⟨r, 1, none⟩ (.int .u32 p)).setCell ⟨r, 0, none⟩ v

set_option maxHeartbeats 4000000 in
set_option maxRecDepth 100000 in
theorem union_any (b g L c p : Nat) (bs : List UInt8) (off to : Nat) (hle : p + off ≤ to) (hr : rd bs (p + off) 4 = to - (p + off)) (ho : p + off + 4 ≤ L) (ht : to ≤ L) (r : Nat) (x0 x1 : Value) (hrb : r ≠ b) (hrg : r ≠ g) (w : World) (h : TabAt b g L c p bs w)
    (hr0 : w.heap[r]? = some (.cells #[x0, x1] 258 (0, 0))) :
    Calls Tryz.prog 123 #[.pointer (some ⟨b, 0, none⟩), .pointer (some ⟨r, 0, none⟩), .int .u32 off] w fun e w' => e = .returned (.tuple #[]) ∧ ∃ m, w' = unionW (w.drewN m) r (.slice (some ⟨g, 0, none⟩) L c) to := by
  have c0 := h.c0
  have c1 := h.c1
  have hcap := h.cap
  have hlen := h.len
  have hbig := h.big
  have d0 : w.cell? ⟨r, 0, none⟩ = some x0 := by rw [Lib.cell_of_heap hr0]; rfl
  have d1 : w.cell? ⟨r, 1, none⟩ = some x1 := by rw [Lib.cell_of_heap hr0]; rfl
  have f0 := Lib.frozen_of_heap hr0 0
  have f1 := Lib.frozen_of_heap hr0 1
  have hw1 : IntKind.u32.wrap ((off : Int) + p) = ((p + off : Nat) : Int) := by rw [IntKind.wrap_u32]; omega
  have hw2 : IntKind.u32.wrap (((p + off : Nat) : Int) + ((to - (p + off) : Nat) : Int)) = to := by rw [IntKind.wrap_u32]; omega
  obtain ⟨q, hqq⟩ : ∃ q, q = p + off := ⟨_, rfl⟩
  rw [← hqq] at hr hw1 hw2 hle ho
  have HA : Hid (∀ W, TabAt b g L c p bs W → Calls Tryz.prog 188 #[.pointer (some ⟨b, 0, none⟩), .int .u32 q] W fun e w' => e = .returned (.int .u32 (to - q : Nat)) ∧ ∃ m, w' = W.drewN m) :=
    Lib.hid fun W hW => tGetUOffsetT b g L c p bs q (to - q) (by omega) hr (by omega) W hW
  have H := Lib.hid h
  clear h hqq
  go_enter Tryz.func123, Tryz.ntmps123
  go_wp2_with fail
  ((with_reducible refine (HA.out _ H.out).mono ?_))
  rintro e w' ⟨rfl, m0, rfl⟩
  go_wp2
  go_end0
  exact ⟨rfl, _, rfl⟩


end Go.Proofs.YtgceklahjdbipaaGreatDoor
