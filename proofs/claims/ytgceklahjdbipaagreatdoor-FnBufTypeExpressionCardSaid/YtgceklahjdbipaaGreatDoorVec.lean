/- flatbuffers: vectors, numbers of 64 bits with a sign, numbers of 8 bits. -/
import Derived.Test.YtgceklahjdbipaaGreatDoorGet
namespace Go.Proofs.YtgceklahjdbipaaGreatDoor
open Go Go.RowKit
set_option linter.unusedVariables false
set_option linter.unusedSimpArgs false

theorem ofInt_wrap64 (n : Int) : BitVec.ofInt 64 (IntKind.i64.wrap n) = BitVec.ofInt 64 n := by
  apply BitVec.eq_of_toNat_eq
  rw [BitVec.toNat_ofInt, BitVec.toNat_ofInt, IntKind.wrap_i64]
  congr 1
  omega

theorem wrap_both (z : Nat) (h : z < 2 ^ 64) : IntKind.i64.wrap (z : Int) = IntKind.i64.wrap (IntKind.u64.wrap (z : Int)) := by
  congr 1
  rw [IntKind.wrap_u64]
  omega

theorem bits_i64_u64 (y x : Int) : bits .or .i64 y x = IntKind.i64.wrap (bits .or .u64 y x) :=
  wrap_both _ (BitVec.isLt _)

theorem wraps_i63 (n : Int) (h₀ : 0 ≤ n) (h₁ : n < 2 ^ 63) : IntKind.i64.wrap n = n := by rw [IntKind.wrap_i64]; omega
theorem i64_or8 (y x : Int) (hy₀ : 0 ≤ y) (hy : y < 256) (hx₀ : 0 ≤ x) (hx : x % 256 = 0) (hx₁ : x < 9223372036854775808) : bits .or .i64 y x = y + x :=
  bits_join_low .i64 63 (by decide) wraps_i63 8 y x hy₀ hy (by omega) hx₀ hx hx₁
theorem i64_or16 (y x : Int) (hy₀ : 0 ≤ y) (hy : y < 65536) (hx₀ : 0 ≤ x) (hx : x % 65536 = 0) (hx₁ : x < 9223372036854775808) : bits .or .i64 y x = y + x :=
  bits_join_low .i64 63 (by decide) wraps_i63 16 y x hy₀ hy (by omega) hx₀ hx hx₁
theorem i64_or24 (y x : Int) (hy₀ : 0 ≤ y) (hy : y < 16777216) (hx₀ : 0 ≤ x) (hx : x % 16777216 = 0) (hx₁ : x < 9223372036854775808) : bits .or .i64 y x = y + x :=
  bits_join_low .i64 63 (by decide) wraps_i63 24 y x hy₀ hy (by omega) hx₀ hx hx₁
theorem i64_or32 (y x : Int) (hy₀ : 0 ≤ y) (hy : y < 4294967296) (hx₀ : 0 ≤ x) (hx : x % 4294967296 = 0) (hx₁ : x < 9223372036854775808) : bits .or .i64 y x = y + x :=
  bits_join_low .i64 63 (by decide) wraps_i63 32 y x hy₀ hy (by omega) hx₀ hx hx₁
theorem i64_or40 (y x : Int) (hy₀ : 0 ≤ y) (hy : y < 1099511627776) (hx₀ : 0 ≤ x) (hx : x % 1099511627776 = 0) (hx₁ : x < 9223372036854775808) : bits .or .i64 y x = y + x :=
  bits_join_low .i64 63 (by decide) wraps_i63 40 y x hy₀ hy (by omega) hx₀ hx hx₁
theorem i64_or48 (y x : Int) (hy₀ : 0 ≤ y) (hy : y < 281474976710656) (hx₀ : 0 ≤ x) (hx : x % 281474976710656 = 0) (hx₁ : x < 9223372036854775808) : bits .or .i64 y x = y + x :=
  bits_join_low .i64 63 (by decide) wraps_i63 48 y x hy₀ hy (by omega) hx₀ hx hx₁
theorem i64_or0 (x : Int) (hx₀ : 0 ≤ x) (hx₁ : x < 9223372036854775808) : bits .or .i64 0 x = x := by
  rw [bits_join_low .i64 63 (by decide) wraps_i63 0 0 x (by omega) (by omega) (by omega) hx₀ (by omega) hx₁, Int.zero_add]
theorem i64_top (y : Int) (b : Nat) (hy₀ : 0 ≤ y) (hy : y < 72057594037927936) (hb : b < 256) (x : Int) (hx : x = IntKind.i64.wrap ((b : Int) * 72057594037927936)) : bits .or .i64 y x = IntKind.i64.wrap (y + (b : Int) * 72057594037927936) := by
  have h1 : bits .or .i64 y x = bits .or .i64 y ((b : Int) * 72057594037927936) := by
    rw [hx]
    simp only [bits, IntKind.bits, ofInt_wrap64]
  rw [h1, bits_i64_u64, u64_or56 y _ hy₀ hy (by omega) (by omega) (by omega)]

/-- A number's 64 bits, with a sign. -/
def sgn (v : Nat) : Int := IntKind.i64.wrap (v : Int)

set_option maxHeartbeats 1000000 in
set_option maxRecDepth 100000 in
theorem getInt8_any (g p n c : Nat) (bs : List UInt8) (v : Nat) (w : World) (h : RowIn w g bs) (hn : 1 ≤ n) (hp : p + 1 ≤ bs.length) (hv0 : rd bs p 1 = v) (hv1 : v < 128) :
    Calls Tryz.prog 201 #[.slice (some ⟨g, p, none⟩) n c] w fun e w' => e = .returned (.int .i8 v) ∧ ∃ m, w' = w.drewN m := by
  have c0 := h p (by omega)
  have hv : (gB bs p).toNat = v := hv0
  rw [hv] at c0
  have hw : IntKind.i8.wrap (v : Int) = v := by simp [IntKind.wrap, IntKind.bits, IntKind.signed]; omega
  clear h hv hv0
  go_enter Tryz.func201, Tryz.ntmps201
  go_wp2
  go_ret
  exact ⟨rfl, 0, rfl⟩


set_option maxHeartbeats 4000000 in
set_option maxRecDepth 100000 in
theorem tGetInt8 (b g L c p : Nat) (bs : List UInt8) (off v : Nat) (ho : off + 1 ≤ L) (hv : rd bs off 1 = v) (hr : v < 128) (w : World) (h : TabAt b g L c p bs w) :
    Calls Tryz.prog 136 #[.pointer (some ⟨b, 0, none⟩), .int .u32 off] w fun e w' => e = .returned (.int .i8 v) ∧ ∃ m, w' = w.drewN m := by
  have c0 := h.c0
  have c1 := h.c1
  have hcap := h.cap
  have hlen := h.len
  have hbig := h.big
  have HR := Lib.hid h.row
  have HA : Hid (∀ W, RowIn W g bs → Calls Tryz.prog 201 #[.slice (some ⟨g, off, none⟩) (L - off) (c - off)] W fun e w' => e = .returned (.int .i8 v) ∧ ∃ m, w' = W.drewN m) :=
    Lib.hid fun W hW => getInt8_any g off (L - off) (c - off) bs v W hW (by omega) (by omega) hv hr
  clear h
  go_enter Tryz.func136, Tryz.ntmps136
  go_wp2_with fail
  ((with_reducible refine (HA.out _ HR.out).mono ?_))
  rintro e w' ⟨rfl, m0, rfl⟩
  go_wp2
  go_ret
  exact ⟨rfl, _, rfl⟩


set_option maxHeartbeats 4000000 in
set_option maxRecDepth 100000 in
theorem vectorLen_any (b g L c p : Nat) (bs : List UInt8) (off to n : Nat) (hle : p + off ≤ to) (hr : rd bs (p + off) 4 = to - (p + off)) (ho : p + off + 4 ≤ L) (hn : rd bs to 4 = n) (ht : to + 4 ≤ L) (hnb : n < 1000000000) (w : World) (h : TabAt b g L c p bs w) :
    Calls Tryz.prog 137 #[.pointer (some ⟨b, 0, none⟩), .int .u32 off] w fun e w' => e = .returned (.int .i64 n) ∧ ∃ m, w' = w.drewN m := by
  have c0 := h.c0
  have c1 := h.c1
  have hcap := h.cap
  have hlen := h.len
  have hbig := h.big
  have HR := Lib.hid h.row
  have hw1 : IntKind.u32.wrap ((off : Int) + p) = ((p + off : Nat) : Int) := by rw [IntKind.wrap_u32]; omega
  have hw2 : IntKind.u32.wrap (((p + off : Nat) : Int) + ((to - (p + off) : Nat) : Int)) = to := by rw [IntKind.wrap_u32]; omega
  have hw4 : IntKind.u32.wrap ((to : Int) + 4) = ((to + 4 : Nat) : Int) := by rw [IntKind.wrap_u32]; omega
  have hw3 : IntKind.i64.wrap (n : Int) = n := by rw [IntKind.wrap_i64]; omega
  obtain ⟨q, hqq⟩ : ∃ q, q = p + off := ⟨_, rfl⟩
  rw [← hqq] at hr hw1 hw2 hle ho
  have HA : Hid (∀ W, RowIn W g bs → Calls Tryz.prog 63 #[.slice (some ⟨g, q, none⟩) (L - q) (c - q)] W fun e w' => e = .returned (.int .u32 (to - q : Nat)) ∧ ∃ m, w' = W.drewN m) :=
    Lib.hid fun W hW => getUOffset_any g q (L - q) (c - q) bs _ W hW (by omega) (by omega) hr (by omega)
  have HB : Hid (∀ W, RowIn W g bs → Calls Tryz.prog 63 #[.slice (some ⟨g, to, none⟩) (L - to) (c - to)] W fun e w' => e = .returned (.int .u32 n) ∧ ∃ m, w' = W.drewN m) :=
    Lib.hid fun W hW => getUOffset_any g to (L - to) (c - to) bs _ W hW (by omega) (by omega) hn (by omega)
  have HRD : Hid (∀ m, RowIn (w.drewN m) g bs) := Lib.hid fun m => HR.out
  clear h hqq
  go_enter Tryz.func137, Tryz.ntmps137
  go_wp2_with fail
  ((with_reducible refine (HA.out _ HR.out).mono ?_))
  rintro e w' ⟨rfl, m0, rfl⟩
  go_wp2_with fail
  ((with_reducible refine (HB.out _ (HRD.out _)).mono ?_))
  rintro e w' ⟨rfl, m1, rfl⟩
  go_wp2
  go_ret
  exact ⟨rfl, _, rfl⟩

set_option maxHeartbeats 4000000 in
set_option maxRecDepth 100000 in
theorem vector_any (b g L c p : Nat) (bs : List UInt8) (off to n : Nat) (hle : p + off ≤ to) (hr : rd bs (p + off) 4 = to - (p + off)) (ho : p + off + 4 ≤ L) (hn : rd bs to 4 = n) (ht : to + 4 ≤ L) (hnb : n < 1000000000) (w : World) (h : TabAt b g L c p bs w) :
    Calls Tryz.prog 138 #[.pointer (some ⟨b, 0, none⟩), .int .u32 off] w fun e w' => e = .returned (.int .u32 (to + 4 : Nat)) ∧ ∃ m, w' = w.drewN m := by
  have c0 := h.c0
  have c1 := h.c1
  have hcap := h.cap
  have hlen := h.len
  have hbig := h.big
  have HR := Lib.hid h.row
  have hw1 : IntKind.u32.wrap ((off : Int) + p) = ((p + off : Nat) : Int) := by rw [IntKind.wrap_u32]; omega
  have hw2 : IntKind.u32.wrap (((p + off : Nat) : Int) + ((to - (p + off) : Nat) : Int)) = to := by rw [IntKind.wrap_u32]; omega
  have hw4 : IntKind.u32.wrap ((to : Int) + 4) = ((to + 4 : Nat) : Int) := by rw [IntKind.wrap_u32]; omega
  have hw3 : IntKind.i64.wrap (n : Int) = n := by rw [IntKind.wrap_i64]; omega
  obtain ⟨q, hqq⟩ : ∃ q, q = p + off := ⟨_, rfl⟩
  rw [← hqq] at hr hw1 hw2 hle ho
  have HA : Hid (∀ W, RowIn W g bs → Calls Tryz.prog 63 #[.slice (some ⟨g, q, none⟩) (L - q) (c - q)] W fun e w' => e = .returned (.int .u32 (to - q : Nat)) ∧ ∃ m, w' = W.drewN m) :=
    Lib.hid fun W hW => getUOffset_any g q (L - q) (c - q) bs _ W hW (by omega) (by omega) hr (by omega)
  have HB : Hid (∀ W, RowIn W g bs → Calls Tryz.prog 63 #[.slice (some ⟨g, to, none⟩) (L - to) (c - to)] W fun e w' => e = .returned (.int .u32 n) ∧ ∃ m, w' = W.drewN m) :=
    Lib.hid fun W hW => getUOffset_any g to (L - to) (c - to) bs _ W hW (by omega) (by omega) hn (by omega)
  have HRD : Hid (∀ m, RowIn (w.drewN m) g bs) := Lib.hid fun m => HR.out
  clear h hqq
  go_enter Tryz.func138, Tryz.ntmps138
  go_wp2_with fail
  ((with_reducible refine (HA.out _ HR.out).mono ?_))
  rintro e w' ⟨rfl, m0, rfl⟩
  go_wp2
  go_ret
  exact ⟨rfl, _, rfl⟩


end Go.Proofs.YtgceklahjdbipaaGreatDoor
