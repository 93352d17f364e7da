/- flatbuffers: vectors, numbers of 64 bits with a sign, numbers of 8 bits. -/
import Derived.Test.YtdillheepidncaaGreatDoorGetTab
namespace Go.Proofs.YtdillheepidncaaGreatDoor
open Go Go.RowKit
set_option linter.unusedVariables false
set_option linter.unusedSimpArgs false

theorem ofInt_wrap64 (n : Int) : BitVec.ofInt 64 (IntKind.i64.wrap n) = BitVec.ofInt 64 n := by
  apply BitVec.eq_of_toNat_eq
  rw [BitVec.toNat_ofInt, BitVec.toNat_ofInt, IntKind.wrap_i64]
  congr 1
  omega

theorem wrap_both (z : Nat) (h : z < 2 ^ 64) : IntKind.i64.wrap (z : Int) = IntKind.i64.wrap (IntKind.u64.wrap (z : Int)) := by
  congr 1
  rw [IntKind.wrap_u64]
  omega

theorem bits_i64_u64 (y x : Int) : bits .or .i64 y x = IntKind.i64.wrap (bits .or .u64 y x) :=
  wrap_both _ (BitVec.isLt _)

theorem wraps_i63 (n : Int) (h₀ : 0 ≤ n) (h₁ : n < 2 ^ 63) : IntKind.i64.wrap n = n := by rw [IntKind.wrap_i64]; omega
theorem i64_or8 (y x : Int) (hy₀ : 0 ≤ y) (hy : y < 256) (hx₀ : 0 ≤ x) (hx : x % 256 = 0) (hx₁ : x < 9223372036854775808) : bits .or .i64 y x = y + x :=
  bits_join_low .i64 63 (by decide) wraps_i63 8 y x hy₀ hy (by omega) hx₀ hx hx₁
theorem i64_or16 (y x : Int) (hy₀ : 0 ≤ y) (hy : y < 65536) (hx₀ : 0 ≤ x) (hx : x % 65536 = 0) (hx₁ : x < 9223372036854775808) : bits .or .i64 y x = y + x :=
  bits_join_low .i64 63 (by decide) wraps_i63 16 y x hy₀ hy (by omega) hx₀ hx hx₁
theorem i64_or24 (y x : Int) (hy₀ : 0 ≤ y) (hy : y < 16777216) (hx₀ : 0 ≤ x) (hx : x % 16777216 = 0) (hx₁ : x < 9223372036854775808) : bits .or .i64 y x = y + x :=
  bits_join_low .i64 63 (by decide) wraps_i63 24 y x hy₀ hy (by omega) hx₀ hx hx₁
theorem i64_or32 (y x : Int) (hy₀ : 0 ≤ y) (hy : y < 4294967296) (hx₀ : 0 ≤ x) (hx : x % 4294967296 = 0) (hx₁ : x < 9223372036854775808) : bits .or .i64 y x = y + x :=
  bits_join_low .i64 63 (by decide) wraps_i63 32 y x hy₀ hy (by omega) hx₀ hx hx₁
theorem i64_or40 (y x : Int) (hy₀ : 0 ≤ y) (hy : y < 1099511627776) (hx₀ : 0 ≤ x) (hx : x % 1099511627776 = 0) (hx₁ : x < 9223372036854775808) : bits .or .i64 y x = y + x :=
  bits_join_low .i64 63 (by decide) wraps_i63 40 y x hy₀ hy (by omega) hx₀ hx hx₁
theorem i64_or48 (y x : Int) (hy₀ : 0 ≤ y) (hy : y < 281474976710656) (hx₀ : 0 ≤ x) (hx : x % 281474976710656 = 0) (hx₁ : x < 9223372036854775808) : bits .or .i64 y x = y + x :=
  bits_join_low .i64 63 (by decide) wraps_i63 48 y x hy₀ hy (by omega) hx₀ hx hx₁
theorem i64_or0 (x : Int) (hx₀ : 0 ≤ x) (hx₁ : x < 9223372036854775808) : bits .or .i64 0 x = x := by
  rw [bits_join_low .i64 63 (by decide) wraps_i63 0 0 x (by omega) (by omega) (by omega) hx₀ (by omega) hx₁, Int.zero_add]
theorem i64_top (y : Int) (b : Nat) (hy₀ : 0 ≤ y) (hy : y < 72057594037927936) (hb : b < 256) (x : Int) (hx : x = IntKind.i64.wrap ((b : Int) * 72057594037927936)) : bits .or .i64 y x = IntKind.i64.wrap (y + (b : Int) * 72057594037927936) := by
  have h1 : bits .or .i64 y x = bits .or .i64 y ((b : Int) * 72057594037927936) := by
    rw [hx]
    simp only [bits, IntKind.bits, ofInt_wrap64]
  rw [h1, bits_i64_u64, u64_or56 y _ hy₀ hy (by omega) (by omega) (by omega)]

/-- A number's 64 bits, with a sign. -/
def sgn (v : Nat) : Int := IntKind.i64.wrap (v : Int)

set_option maxHeartbeats 4000000 in
set_option maxRecDepth 100000 in
theorem getInt64_any (g p n c : Nat) (bs : List UInt8) (v : Nat) (w : World) (h : RowIn w g bs) (hn : 8 ≤ n) (hp : p + 8 ≤ bs.length) (hv0 : rd bs p 8 = v) :
    Calls Tryz.prog 183 #[.slice (some ⟨g, p, none⟩) n c] w fun e w' => e = .returned (.int .i64 (sgn v)) ∧ ∃ m, w' = w.drewN m := by
  have c0 := h (p) (by omega)
  have h0 := (gB bs (p)).toNat_lt
  have c1 := h (p + 1) (by omega)
  have h1 := (gB bs (p + 1)).toNat_lt
  have c2 := h (p + 2) (by omega)
  have h2 := (gB bs (p + 2)).toNat_lt
  have c3 := h (p + 3) (by omega)
  have h3 := (gB bs (p + 3)).toNat_lt
  have c4 := h (p + 4) (by omega)
  have h4 := (gB bs (p + 4)).toNat_lt
  have c5 := h (p + 5) (by omega)
  have h5 := (gB bs (p + 5)).toNat_lt
  have c6 := h (p + 6) (by omega)
  have h6 := (gB bs (p + 6)).toNat_lt
  have c7 := h (p + 7) (by omega)
  have h7 := (gB bs (p + 7)).toNat_lt
  have hv := rd8 bs p
  rw [hv0] at hv
  generalize (gB bs p).toNat = b0 at *
  generalize (gB bs (p + 1)).toNat = b1 at *
  generalize (gB bs (p + 2)).toNat = b2 at *
  generalize (gB bs (p + 3)).toNat = b3 at *
  generalize (gB bs (p + 4)).toNat = b4 at *
  generalize (gB bs (p + 5)).toNat = b5 at *
  generalize (gB bs (p + 6)).toNat = b6 at *
  generalize (gB bs (p + 7)).toNat = b7 at *
  have HV := Lib.hid hv
  clear hv h hv0
  go_enter Tryz.func183, Tryz.ntmps183
  go_wp2
  go_ret
  refine ⟨?_, 0, rfl⟩
  unfold sgn
  rw [HV.out]
  simp (disch := omega) only [i64_or0, i64_or8, i64_or16, i64_or24, i64_or32, i64_or40, i64_or48]
  rw [i64_top _ b7 (by omega) (by omega) h7 _ (by simp [wrap64, IntKind.wrap_i64])]
  rfl

set_option maxHeartbeats 1000000 in
set_option maxRecDepth 100000 in
theorem getInt8_any (g p n c : Nat) (bs : List UInt8) (v : Nat) (w : World) (h : RowIn w g bs) (hn : 1 ≤ n) (hp : p + 1 ≤ bs.length) (hv0 : rd bs p 1 = v) (hv1 : v < 128) :
    Calls Tryz.prog 184 #[.slice (some ⟨g, p, none⟩) n c] w fun e w' => e = .returned (.int .i8 v) ∧ ∃ m, w' = w.drewN m := by
  have c0 := h p (by omega)
  have hv : (gB bs p).toNat = v := hv0
  rw [hv] at c0
  have hw : IntKind.i8.wrap (v : Int) = v := by simp [IntKind.wrap, IntKind.bits, IntKind.signed]; omega
  clear h hv hv0
  go_enter Tryz.func184, Tryz.ntmps184
  go_wp2
  go_ret
  exact ⟨rfl, 0, rfl⟩


set_option maxHeartbeats 4000000 in
set_option maxRecDepth 100000 in
theorem tGetInt64 (b g L c p : Nat) (bs : List UInt8) (off v : Nat) (ho : off + 8 ≤ L) (hv : rd bs off 8 = v) (w : World) (h : TabAt b g L c p bs w) :
    Calls Tryz.prog 155 #[.pointer (some ⟨b, 0, none⟩), .int .u32 off] w fun e w' => e = .returned (.int .i64 (sgn v)) ∧ ∃ m, w' = w.drewN m := by
  have c0 := h.c0
  have c1 := h.c1
  have hcap := h.cap
  have hlen := h.len
  have hbig := h.big
  have HR := Lib.hid h.row
  have HA : Hid (∀ W, RowIn W g bs → Calls Tryz.prog 183 #[.slice (some ⟨g, off, none⟩) (L - off) (c - off)] W fun e w' => e = .returned (.int .i64 (sgn v)) ∧ ∃ m, w' = W.drewN m) :=
    Lib.hid fun W hW => getInt64_any g off (L - off) (c - off) bs v W hW (by omega) (by omega) hv
  clear h
  go_enter Tryz.func155, Tryz.ntmps155
  go_wp2_with fail
  ((with_reducible refine (HA.out _ HR.out).mono ?_))
  rintro e w' ⟨rfl, m0, rfl⟩
  go_wp2
  go_ret
  exact ⟨rfl, _, rfl⟩


set_option maxHeartbeats 4000000 in
set_option maxRecDepth 100000 in
theorem tGetInt8 (b g L c p : Nat) (bs : List UInt8) (off v : Nat) (ho : off + 1 ≤ L) (hv : rd bs off 1 = v) (hr : v < 128) (w : World) (h : TabAt b g L c p bs w) :
    Calls Tryz.prog 156 #[.pointer (some ⟨b, 0, none⟩), .int .u32 off] w fun e w' => e = .returned (.int .i8 v) ∧ ∃ m, w' = w.drewN m := by
  have c0 := h.c0
  have c1 := h.c1
  have hcap := h.cap
  have hlen := h.len
  have hbig := h.big
  have HR := Lib.hid h.row
  have HA : Hid (∀ W, RowIn W g bs → Calls Tryz.prog 184 #[.slice (some ⟨g, off, none⟩) (L - off) (c - off)] W fun e w' => e = .returned (.int .i8 v) ∧ ∃ m, w' = W.drewN m) :=
    Lib.hid fun W hW => getInt8_any g off (L - off) (c - off) bs v W hW (by omega) (by omega) hv hr
  clear h
  go_enter Tryz.func156, Tryz.ntmps156
  go_wp2_with fail
  ((with_reducible refine (HA.out _ HR.out).mono ?_))
  rintro e w' ⟨rfl, m0, rfl⟩
  go_wp2
  go_ret
  exact ⟨rfl, _, rfl⟩


set_option maxHeartbeats 4000000 in
set_option maxRecDepth 100000 in
theorem vectorLen_any (b g L c p : Nat) (bs : List UInt8) (off to n : Nat) (hle : p + off ≤ to) (hr : rd bs (p + off) 4 = to - (p + off)) (ho : p + off + 4 ≤ L) (hn : rd bs to 4 = n) (ht : to + 4 ≤ L) (hnb : n < 1000000000) (w : World) (h : TabAt b g L c p bs w) :
    Calls Tryz.prog 109 #[.pointer (some ⟨b, 0, none⟩), .int .u32 off] w fun e w' => e = .returned (.int .i64 n) ∧ ∃ m, w' = w.drewN m := by
  have c0 := h.c0
  have c1 := h.c1
  have hcap := h.cap
  have hlen := h.len
  have hbig := h.big
  have HR := Lib.hid h.row
  have hw1 : IntKind.u32.wrap ((off : Int) + p) = ((p + off : Nat) : Int) := by rw [IntKind.wrap_u32]; omega
  have hw2 : IntKind.u32.wrap (((p + off : Nat) : Int) + ((to - (p + off) : Nat) : Int)) = to := by rw [IntKind.wrap_u32]; omega
  have hw4 : IntKind.u32.wrap ((to : Int) + 4) = ((to + 4 : Nat) : Int) := by rw [IntKind.wrap_u32]; omega
  have hw3 : IntKind.i64.wrap (n : Int) = n := by rw [IntKind.wrap_i64]; omega
  obtain ⟨q, hqq⟩ : ∃ q, q = p + off := ⟨_, rfl⟩
  rw [← hqq] at hr hw1 hw2 hle ho
  have HA : Hid (∀ W, RowIn W g bs → Calls Tryz.prog 55 #[.slice (some ⟨g, q, none⟩) (L - q) (c - q)] W fun e w' => e = .returned (.int .u32 (to - q : Nat)) ∧ ∃ m, w' = W.drewN m) :=
    Lib.hid fun W hW => getUOffset_any g q (L - q) (c - q) bs _ W hW (by omega) (by omega) hr (by omega)
  have HB : Hid (∀ W, RowIn W g bs → Calls Tryz.prog 55 #[.slice (some ⟨g, to, none⟩) (L - to) (c - to)] W fun e w' => e = .returned (.int .u32 n) ∧ ∃ m, w' = W.drewN m) :=
    Lib.hid fun W hW => getUOffset_any g to (L - to) (c - to) bs _ W hW (by omega) (by omega) hn (by omega)
  have HRD : Hid (∀ m, RowIn (w.drewN m) g bs) := Lib.hid fun m => HR.out
  clear h hqq
  go_enter Tryz.func109, Tryz.ntmps109
  go_wp2_with fail
  ((with_reducible refine (HA.out _ HR.out).mono ?_))
  rintro e w' ⟨rfl, m0, rfl⟩
  go_wp2_with fail
  ((with_reducible refine (HB.out _ (HRD.out _)).mono ?_))
  rintro e w' ⟨rfl, m1, rfl⟩
  go_wp2
  go_ret
  exact ⟨rfl, _, rfl⟩

set_option maxHeartbeats 4000000 in
set_option maxRecDepth 100000 in
theorem vector_any (b g L c p : Nat) (bs : List UInt8) (off to n : Nat) (hle : p + off ≤ to) (hr : rd bs (p + off) 4 = to - (p + off)) (ho : p + off + 4 ≤ L) (hn : rd bs to 4 = n) (ht : to + 4 ≤ L) (hnb : n < 1000000000) (w : World) (h : TabAt b g L c p bs w) :
    Calls Tryz.prog 110 #[.pointer (some ⟨b, 0, none⟩), .int .u32 off] w fun e w' => e = .returned (.int .u32 (to + 4 : Nat)) ∧ ∃ m, w' = w.drewN m := by
  have c0 := h.c0
  have c1 := h.c1
  have hcap := h.cap
  have hlen := h.len
  have hbig := h.big
  have HR := Lib.hid h.row
  have hw1 : IntKind.u32.wrap ((off : Int) + p) = ((p + off : Nat) : Int) := by rw [IntKind.wrap_u32]; omega
  have hw2 : IntKind.u32.wrap (((p + off : Nat) : Int) + ((to - (p + off) : Nat) : Int)) = to := by rw [IntKind.wrap_u32]; omega
  have hw4 : IntKind.u32.wrap ((to : Int) + 4) = ((to + 4 : Nat) : Int) := by rw [IntKind.wrap_u32]; omega
  have hw3 : IntKind.i64.wrap (n : Int) = n := by rw [IntKind.wrap_i64]; omega
  obtain ⟨q, hqq⟩ : ∃ q, q = p + off := ⟨_, rfl⟩
  rw [← hqq] at hr hw1 hw2 hle ho
  have HA : Hid (∀ W, RowIn W g bs → Calls Tryz.prog 55 #[.slice (some ⟨g, q, none⟩) (L - q) (c - q)] W fun e w' => e = .returned (.int .u32 (to - q : Nat)) ∧ ∃ m, w' = W.drewN m) :=
    Lib.hid fun W hW => getUOffset_any g q (L - q) (c - q) bs _ W hW (by omega) (by omega) hr (by omega)
  have HB : Hid (∀ W, RowIn W g bs → Calls Tryz.prog 55 #[.slice (some ⟨g, to, none⟩) (L - to) (c - to)] W fun e w' => e = .returned (.int .u32 n) ∧ ∃ m, w' = W.drewN m) :=
    Lib.hid fun W hW => getUOffset_any g to (L - to) (c - to) bs _ W hW (by omega) (by omega) hn (by omega)
  have HRD : Hid (∀ m, RowIn (w.drewN m) g bs) := Lib.hid fun m => HR.out
  clear h hqq
  go_enter Tryz.func110, Tryz.ntmps110
  go_wp2_with fail
  ((with_reducible refine (HA.out _ HR.out).mono ?_))
  rintro e w' ⟨rfl, m0, rfl⟩
  go_wp2
  go_ret
  exact ⟨rfl, _, rfl⟩


end Go.Proofs.YtdillheepidncaaGreatDoor
