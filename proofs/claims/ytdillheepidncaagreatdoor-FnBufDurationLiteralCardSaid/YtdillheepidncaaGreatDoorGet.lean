/- flatbuffers' numbers out of bytes. -/
import Derived.Test.YtdillheepidncaaGreatDoorProg
import Derived.Test.YtdillheepidncaaGreatDoorBufPure
import Derived.WalkKit
import Derived.WalkLawsBesides
import Derived.Outline
import Derived.BigCall
import Derived.LoopTactic
import Derived.Lib.Hide
import Derived.Lib.UnsafeStr
import Derived.Deep.QuietTactic
import Derived.BigQuiet
import Derived.Lib.EndianBits
import Derived.Laws.Externs
namespace Go.Proofs.YtdillheepidncaaGreatDoor
open Go Go.RowKit
set_option linter.unusedVariables false
set_option linter.unusedSimpArgs false

/-- Bytes that stand in a row, each by itself. -/
def RowIn (w : World) (g : Nat) (bs : List UInt8) : Prop := ∀ i, i < bs.length → w.cell? ⟨g, i, none⟩ = some (.int .u8 ((gB bs i).toNat : Int))

theorem rd2 (l : List UInt8) (p : Nat) : ((rd l p 2 : Nat) : Int) = ((gB l p).toNat : Int) + ((gB l (p + 1)).toNat : Int) * 256 := by
  have e : rd l p 2 = (gB l p).toNat + 256 * ((gB l (p + 1)).toNat + 256 * (0)) := rfl
  rw [e]
  generalize (gB l p).toNat = b0
  generalize (gB l (p + 1)).toNat = b1
  omega
theorem rd4 (l : List UInt8) (p : Nat) : ((rd l p 4 : Nat) : Int) = ((gB l p).toNat : Int) + ((gB l (p + 1)).toNat : Int) * 256 + ((gB l (p + 2)).toNat : Int) * 65536 + ((gB l (p + 3)).toNat : Int) * 16777216 := by
  have e : rd l p 4 = (gB l p).toNat + 256 * ((gB l (p + 1)).toNat + 256 * ((gB l (p + 2)).toNat + 256 * ((gB l (p + 3)).toNat + 256 * (0)))) := rfl
  rw [e]
  generalize (gB l p).toNat = b0
  generalize (gB l (p + 1)).toNat = b1
  generalize (gB l (p + 2)).toNat = b2
  generalize (gB l (p + 3)).toNat = b3
  omega
theorem rd8 (l : List UInt8) (p : Nat) : ((rd l p 8 : Nat) : Int) = ((gB l p).toNat : Int) + ((gB l (p + 1)).toNat : Int) * 256 + ((gB l (p + 2)).toNat : Int) * 65536 + ((gB l (p + 3)).toNat : Int) * 16777216 + ((gB l (p + 4)).toNat : Int) * 4294967296 + ((gB l (p + 5)).toNat : Int) * 1099511627776 + ((gB l (p + 6)).toNat : Int) * 281474976710656 + ((gB l (p + 7)).toNat : Int) * 72057594037927936 := by
  have e : rd l p 8 = (gB l p).toNat + 256 * ((gB l (p + 1)).toNat + 256 * ((gB l (p + 2)).toNat + 256 * ((gB l (p + 3)).toNat + 256 * ((gB l (p + 4)).toNat + 256 * ((gB l (p + 5)).toNat + 256 * ((gB l (p + 6)).toNat + 256 * ((gB l (p + 7)).toNat + 256 * (0)))))))) := rfl
  rw [e]
  generalize (gB l p).toNat = b0
  generalize (gB l (p + 1)).toNat = b1
  generalize (gB l (p + 2)).toNat = b2
  generalize (gB l (p + 3)).toNat = b3
  generalize (gB l (p + 4)).toNat = b4
  generalize (gB l (p + 5)).toNat = b5
  generalize (gB l (p + 6)).toNat = b6
  generalize (gB l (p + 7)).toNat = b7
  omega

theorem wraps_i32 (n : Int) (h₀ : 0 ≤ n) (h₁ : n < 2 ^ 31) : IntKind.i32.wrap n = n := by rw [IntKind.wrap_i32]; omega
theorem i32_or0 (x : Int) (hx₀ : 0 ≤ x) (hx₁ : x < 2147483648) : bits .or .i32 0 x = x := by
  rw [bits_join_low .i32 31 (by decide) wraps_i32 0 0 x (by omega) (by omega) (by omega) hx₀ (by omega) hx₁, Int.zero_add]
theorem i32_or8 (y x : Int) (hy₀ : 0 ≤ y) (hy : y < 256) (hx₀ : 0 ≤ x) (hx : x % 256 = 0) (hx₁ : x < 2147483648) : bits .or .i32 y x = y + x :=
  bits_join_low .i32 31 (by decide) wraps_i32 8 y x hy₀ hy (by omega) hx₀ hx hx₁
theorem i32_or16 (y x : Int) (hy₀ : 0 ≤ y) (hy : y < 65536) (hx₀ : 0 ≤ x) (hx : x % 65536 = 0) (hx₁ : x < 2147483648) : bits .or .i32 y x = y + x :=
  bits_join_low .i32 31 (by decide) wraps_i32 16 y x hy₀ hy (by omega) hx₀ hx hx₁
theorem i32_or24 (y x : Int) (hy₀ : 0 ≤ y) (hy : y < 16777216) (hx₀ : 0 ≤ x) (hx : x % 16777216 = 0) (hx₁ : x < 2147483648) : bits .or .i32 y x = y + x :=
  bits_join_low .i32 31 (by decide) wraps_i32 24 y x hy₀ hy (by omega) hx₀ hx hx₁
theorem u16_or0 (x : Int) (hx₀ : 0 ≤ x) (hx₁ : x < 65536) : bits .or .u16 0 x = x := by
  rw [bits_join_low .u16 16 (by decide) wraps_u16 0 0 x (by omega) (by omega) (by omega) hx₀ (by omega) hx₁, Int.zero_add]
theorem u64_or0 (x : Int) (hx₀ : 0 ≤ x) (hx₁ : x < 18446744073709551616) : bits .or .u64 0 x = x := by
  rw [bits_join_low .u64 64 (by decide) wraps_u64 0 0 x (by omega) (by omega) (by omega) hx₀ (by omega) hx₁, Int.zero_add]

set_option maxHeartbeats 4000000 in
set_option maxRecDepth 100000 in
theorem getUint16_any (g p n c : Nat) (bs : List UInt8) (v : Nat) (w : World) (h : RowIn w g bs) (hn : 2 ≤ n) (hp : p + 2 ≤ bs.length) (hv0 : rd bs p 2 = v) :
    Calls Tryz.prog 190 #[.slice (some ⟨g, p, none⟩) n c] w fun e w' => e = .returned (.int .u16 v) ∧ ∃ m, w' = w.drewN m := by
  have c0 := h p (by omega)
  have h0 := (gB bs p).toNat_lt
  have c1 := h (p + 1) (by omega)
  have h1 := (gB bs (p + 1)).toNat_lt
  have hv := rd2 bs p
  rw [hv0] at hv
  generalize (gB bs p).toNat = b0 at *
  generalize (gB bs (p + 1)).toNat = b1 at *
  have HV := Lib.hid hv
  clear hv h hv0
  go_enter Tryz.func190, Tryz.ntmps190
  go_wp2
  go_ret
  refine ⟨?_, 0, rfl⟩
  simp (disch := omega) only [u16_or0, u16_or8]
  rw [HV.out]
  rfl

set_option maxHeartbeats 4000000 in
set_option maxRecDepth 100000 in
theorem getInt32_any (g p n c : Nat) (bs : List UInt8) (v : Nat) (w : World) (h : RowIn w g bs) (hn : 4 ≤ n) (hp : p + 4 ≤ bs.length) (hv0 : rd bs p 4 = v) (hr : v < 2147483648) :
    Calls Tryz.prog 98 #[.slice (some ⟨g, p, none⟩) n c] w fun e w' => e = .returned (.int .i32 v) ∧ ∃ m, w' = w.drewN m := by
  have c0 := h p (by omega)
  have h0 := (gB bs p).toNat_lt
  have c1 := h (p + 1) (by omega)
  have h1 := (gB bs (p + 1)).toNat_lt
  have c2 := h (p + 2) (by omega)
  have h2 := (gB bs (p + 2)).toNat_lt
  have c3 := h (p + 3) (by omega)
  have h3 := (gB bs (p + 3)).toNat_lt
  have hv := rd4 bs p
  rw [hv0] at hv
  generalize (gB bs p).toNat = b0 at *
  generalize (gB bs (p + 1)).toNat = b1 at *
  generalize (gB bs (p + 2)).toNat = b2 at *
  generalize (gB bs (p + 3)).toNat = b3 at *
  have HV := Lib.hid hv
  clear hv h hv0
  go_enter Tryz.func98, Tryz.ntmps98
  go_wp2
  go_ret
  refine ⟨?_, 0, rfl⟩
  have hv := HV.out
  have hw : wrap32 ((b3 : Int) * 16777216) = (b3 : Int) * 16777216 := by unfold wrap32; omega
  rw [hw]
  simp (disch := omega) only [i32_or8, i32_or16, i32_or24]
  rw [hv]
  rfl


set_option maxHeartbeats 4000000 in
set_option maxRecDepth 100000 in
theorem getVOffset_any (g p n c : Nat) (bs : List UInt8) (v : Nat) (w : World) (h : RowIn w g bs) (hn : 2 ≤ n) (hp : p + 2 ≤ bs.length) (hv0 : rd bs p 2 = v) :
    Calls Tryz.prog 168 #[.slice (some ⟨g, p, none⟩) n c] w fun e w' => e = .returned (.int .u16 v) ∧ ∃ m, w' = w.drewN m := by
  have HA : Hid (∀ W, RowIn W g bs → Calls Tryz.prog 190 #[.slice (some ⟨g, p, none⟩) n c] W fun e w' => e = .returned (.int .u16 v) ∧ ∃ m, w' = W.drewN m) :=
    Lib.hid fun W hW => getUint16_any g p n c bs v W hW hn hp hv0
  have HR := Lib.hid h
  clear h
  go_enter Tryz.func168, Tryz.ntmps168
  go_wp2_with fail
  ((with_reducible refine (HA.out _ HR.out).mono ?_))
  rintro e w' ⟨rfl, m, rfl⟩
  go_wp2
  go_ret
  exact ⟨rfl, m, rfl⟩

set_option maxHeartbeats 4000000 in
set_option maxRecDepth 100000 in
theorem getSOffset_any (g p n c : Nat) (bs : List UInt8) (v : Nat) (w : World) (h : RowIn w g bs) (hn : 4 ≤ n) (hp : p + 4 ≤ bs.length) (hv0 : rd bs p 4 = v) (hr : v < 2147483648) :
    Calls Tryz.prog 167 #[.slice (some ⟨g, p, none⟩) n c] w fun e w' => e = .returned (.int .i32 v) ∧ ∃ m, w' = w.drewN m := by
  have HA : Hid (∀ W, RowIn W g bs → Calls Tryz.prog 98 #[.slice (some ⟨g, p, none⟩) n c] W fun e w' => e = .returned (.int .i32 v) ∧ ∃ m, w' = W.drewN m) :=
    Lib.hid fun W hW => getInt32_any g p n c bs v W hW hn hp hv0 hr
  have HR := Lib.hid h
  clear h
  go_enter Tryz.func167, Tryz.ntmps167
  go_wp2_with fail
  ((with_reducible refine (HA.out _ HR.out).mono ?_))
  rintro e w' ⟨rfl, m, rfl⟩
  go_wp2
  go_ret
  exact ⟨rfl, m, rfl⟩

set_option maxHeartbeats 4000000 in
set_option maxRecDepth 100000 in
theorem getUOffset_any (g p n c : Nat) (bs : List UInt8) (v : Nat) (w : World) (h : RowIn w g bs) (hn : 4 ≤ n) (hp : p + 4 ≤ bs.length) (hv0 : rd bs p 4 = v) (hr : v < 2147483648) :
    Calls Tryz.prog 55 #[.slice (some ⟨g, p, none⟩) n c] w fun e w' => e = .returned (.int .u32 v) ∧ ∃ m, w' = w.drewN m := by
  have hw : IntKind.u32.wrap (v : Int) = v := by rw [IntKind.wrap_u32]; omega
  have HA : Hid (∀ W, RowIn W g bs → Calls Tryz.prog 98 #[.slice (some ⟨g, p, none⟩) n c] W fun e w' => e = .returned (.int .i32 v) ∧ ∃ m, w' = W.drewN m) :=
    Lib.hid fun W hW => getInt32_any g p n c bs v W hW hn hp hv0 hr
  have HR := Lib.hid h
  clear h
  go_enter Tryz.func55, Tryz.ntmps55
  go_wp2_with fail
  ((with_reducible refine (HA.out _ HR.out).mono ?_))
  rintro e w' ⟨rfl, m, rfl⟩
  go_wp2
  go_ret
  exact ⟨rfl, m, rfl⟩

end Go.Proofs.YtdillheepidncaaGreatDoor
