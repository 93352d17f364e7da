/- flatbuffers' numbers out of bytes. flatbuffers.Table: fields, references, texts, numbers. fbast: the readers of nodes. -/
import Derived.Test.YtgceklahjdbipaaGreatDoorProg
import Derived.Test.YtgceklahjdbipaaGreatDoorBufPure
import Derived.WalkKit
import Derived.WalkLawsBesides
import Derived.Outline
import Derived.BigCall
import Derived.LoopTactic
import Derived.Lib.Hide
import Derived.Lib.UnsafeStr
import Derived.Deep.QuietTactic
import Derived.BigQuiet
import Derived.Lib.EndianBits
import Derived.Laws.Externs
import Derived.Below
import Derived.Lib.BufferOwn
import Derived.Laws.IdiomStrings
namespace Go.Proofs.YtgceklahjdbipaaGreatDoor
open Go Go.RowKit
set_option linter.unusedVariables false
set_option linter.unusedSimpArgs false

/-- Bytes that stand in a row, each by itself. -/
def RowIn (w : World) (g : Nat) (bs : List UInt8) : Prop := ∀ i, i < bs.length → w.cell? ⟨g, i, none⟩ = some (.int .u8 ((gB bs i).toNat : Int))

theorem rd2 (l : List UInt8) (p : Nat) : ((rd l p 2 : Nat) : Int) = ((gB l p).toNat : Int) + ((gB l (p + 1)).toNat : Int) * 256 := by
  have e : rd l p 2 = (gB l p).toNat + 256 * ((gB l (p + 1)).toNat + 256 * (0)) := rfl
  rw [e]
  generalize (gB l p).toNat = b0
  generalize (gB l (p + 1)).toNat = b1
  omega
theorem rd4 (l : List UInt8) (p : Nat) : ((rd l p 4 : Nat) : Int) = ((gB l p).toNat : Int) + ((gB l (p + 1)).toNat : Int) * 256 + ((gB l (p + 2)).toNat : Int) * 65536 + ((gB l (p + 3)).toNat : Int) * 16777216 := by
  have e : rd l p 4 = (gB l p).toNat + 256 * ((gB l (p + 1)).toNat + 256 * ((gB l (p + 2)).toNat + 256 * ((gB l (p + 3)).toNat + 256 * (0)))) := rfl
  rw [e]
  generalize (gB l p).toNat = b0
  generalize (gB l (p + 1)).toNat = b1
  generalize (gB l (p + 2)).toNat = b2
  generalize (gB l (p + 3)).toNat = b3
  omega
theorem rd8 (l : List UInt8) (p : Nat) : ((rd l p 8 : Nat) : Int) = ((gB l p).toNat : Int) + ((gB l (p + 1)).toNat : Int) * 256 + ((gB l (p + 2)).toNat : Int) * 65536 + ((gB l (p + 3)).toNat : Int) * 16777216 + ((gB l (p + 4)).toNat : Int) * 4294967296 + ((gB l (p + 5)).toNat : Int) * 1099511627776 + ((gB l (p + 6)).toNat : Int) * 281474976710656 + ((gB l (p + 7)).toNat : Int) * 72057594037927936 := by
  have e : rd l p 8 = (gB l p).toNat + 256 * ((gB l (p + 1)).toNat + 256 * ((gB l (p + 2)).toNat + 256 * ((gB l (p + 3)).toNat + 256 * ((gB l (p + 4)).toNat + 256 * ((gB l (p + 5)).toNat + 256 * ((gB l (p + 6)).toNat + 256 * ((gB l (p + 7)).toNat + 256 * (0)))))))) := rfl
  rw [e]
  generalize (gB l p).toNat = b0
  generalize (gB l (p + 1)).toNat = b1
  generalize (gB l (p + 2)).toNat = b2
  generalize (gB l (p + 3)).toNat = b3
  generalize (gB l (p + 4)).toNat = b4
  generalize (gB l (p + 5)).toNat = b5
  generalize (gB l (p + 6)).toNat = b6
  generalize (gB l (p + 7)).toNat = b7
  omega

theorem wraps_i32 (n : Int) (h₀ : 0 ≤ n) (h₁ : n < 2 ^ 31) : IntKind.i32.wrap n = n := by rw [IntKind.wrap_i32]; omega
theorem i32_or0 (x : Int) (hx₀ : 0 ≤ x) (hx₁ : x < 2147483648) : bits .or .i32 0 x = x := by
  rw [bits_join_low .i32 31 (by decide) wraps_i32 0 0 x (by omega) (by omega) (by omega) hx₀ (by omega) hx₁, Int.zero_add]
theorem i32_or8 (y x : Int) (hy₀ : 0 ≤ y) (hy : y < 256) (hx₀ : 0 ≤ x) (hx : x % 256 = 0) (hx₁ : x < 2147483648) : bits .or .i32 y x = y + x :=
  bits_join_low .i32 31 (by decide) wraps_i32 8 y x hy₀ hy (by omega) hx₀ hx hx₁
theorem i32_or16 (y x : Int) (hy₀ : 0 ≤ y) (hy : y < 65536) (hx₀ : 0 ≤ x) (hx : x % 65536 = 0) (hx₁ : x < 2147483648) : bits .or .i32 y x = y + x :=
  bits_join_low .i32 31 (by decide) wraps_i32 16 y x hy₀ hy (by omega) hx₀ hx hx₁
theorem i32_or24 (y x : Int) (hy₀ : 0 ≤ y) (hy : y < 16777216) (hx₀ : 0 ≤ x) (hx : x % 16777216 = 0) (hx₁ : x < 2147483648) : bits .or .i32 y x = y + x :=
  bits_join_low .i32 31 (by decide) wraps_i32 24 y x hy₀ hy (by omega) hx₀ hx hx₁
theorem u16_or0 (x : Int) (hx₀ : 0 ≤ x) (hx₁ : x < 65536) : bits .or .u16 0 x = x := by
  rw [bits_join_low .u16 16 (by decide) wraps_u16 0 0 x (by omega) (by omega) (by omega) hx₀ (by omega) hx₁, Int.zero_add]
theorem u64_or0 (x : Int) (hx₀ : 0 ≤ x) (hx₁ : x < 18446744073709551616) : bits .or .u64 0 x = x := by
  rw [bits_join_low .u64 64 (by decide) wraps_u64 0 0 x (by omega) (by omega) (by omega) hx₀ (by omega) hx₁, Int.zero_add]

set_option maxHeartbeats 4000000 in
set_option maxRecDepth 100000 in
theorem getUint16_any (g p n c : Nat) (bs : List UInt8) (v : Nat) (w : World) (h : RowIn w g bs) (hn : 2 ≤ n) (hp : p + 2 ≤ bs.length) (hv0 : rd bs p 2 = v) :
    Calls Tryz.prog 235 #[.slice (some ⟨g, p, none⟩) n c] w fun e w' => e = .returned (.int .u16 v) ∧ ∃ m, w' = w.drewN m := by
  have c0 := h p (by omega)
  have h0 := (gB bs p).toNat_lt
  have c1 := h (p + 1) (by omega)
  have h1 := (gB bs (p + 1)).toNat_lt
  have hv := rd2 bs p
  rw [hv0] at hv
  generalize (gB bs p).toNat = b0 at *
  generalize (gB bs (p + 1)).toNat = b1 at *
  have HV := Lib.hid hv
  clear hv h hv0
  go_enter Tryz.func235, Tryz.ntmps235
  go_wp2
  go_ret
  refine ⟨?_, 0, rfl⟩
  simp (disch := omega) only [u16_or0, u16_or8]
  rw [HV.out]
  rfl

set_option maxHeartbeats 4000000 in
set_option maxRecDepth 100000 in
theorem getInt32_any (g p n c : Nat) (bs : List UInt8) (v : Nat) (w : World) (h : RowIn w g bs) (hn : 4 ≤ n) (hp : p + 4 ≤ bs.length) (hv0 : rd bs p 4 = v) (hr : v < 2147483648) :
    Calls Tryz.prog 125 #[.slice (some ⟨g, p, none⟩) n c] w fun e w' => e = .returned (.int .i32 v) ∧ ∃ m, w' = w.drewN m := by
  have c0 := h p (by omega)
  have h0 := (gB bs p).toNat_lt
  have c1 := h (p + 1) (by omega)
  have h1 := (gB bs (p + 1)).toNat_lt
  have c2 := h (p + 2) (by omega)
  have h2 := (gB bs (p + 2)).toNat_lt
  have c3 := h (p + 3) (by omega)
  have h3 := (gB bs (p + 3)).toNat_lt
  have hv := rd4 bs p
  rw [hv0] at hv
  generalize (gB bs p).toNat = b0 at *
  generalize (gB bs (p + 1)).toNat = b1 at *
  generalize (gB bs (p + 2)).toNat = b2 at *
  generalize (gB bs (p + 3)).toNat = b3 at *
  have HV := Lib.hid hv
  clear hv h hv0
  go_enter Tryz.func125, Tryz.ntmps125
  go_wp2
  go_ret
  refine ⟨?_, 0, rfl⟩
  have hv := HV.out
  have hw : wrap32 ((b3 : Int) * 16777216) = (b3 : Int) * 16777216 := by unfold wrap32; omega
  rw [hw]
  simp (disch := omega) only [i32_or8, i32_or16, i32_or24]
  rw [hv]
  rfl


set_option maxHeartbeats 4000000 in
set_option maxRecDepth 100000 in
theorem getVOffset_any (g p n c : Nat) (bs : List UInt8) (v : Nat) (w : World) (h : RowIn w g bs) (hn : 2 ≤ n) (hp : p + 2 ≤ bs.length) (hv0 : rd bs p 2 = v) :
    Calls Tryz.prog 214 #[.slice (some ⟨g, p, none⟩) n c] w fun e w' => e = .returned (.int .u16 v) ∧ ∃ m, w' = w.drewN m := by
  have HA : Hid (∀ W, RowIn W g bs → Calls Tryz.prog 235 #[.slice (some ⟨g, p, none⟩) n c] W fun e w' => e = .returned (.int .u16 v) ∧ ∃ m, w' = W.drewN m) :=
    Lib.hid fun W hW => getUint16_any g p n c bs v W hW hn hp hv0
  have HR := Lib.hid h
  clear h
  go_enter Tryz.func214, Tryz.ntmps214
  go_wp2_with fail
  ((with_reducible refine (HA.out _ HR.out).mono ?_))
  rintro e w' ⟨rfl, m, rfl⟩
  go_wp2
  go_ret
  exact ⟨rfl, m, rfl⟩

set_option maxHeartbeats 4000000 in
set_option maxRecDepth 100000 in
theorem getSOffset_any (g p n c : Nat) (bs : List UInt8) (v : Nat) (w : World) (h : RowIn w g bs) (hn : 4 ≤ n) (hp : p + 4 ≤ bs.length) (hv0 : rd bs p 4 = v) (hr : v < 2147483648) :
    Calls Tryz.prog 213 #[.slice (some ⟨g, p, none⟩) n c] w fun e w' => e = .returned (.int .i32 v) ∧ ∃ m, w' = w.drewN m := by
  have HA : Hid (∀ W, RowIn W g bs → Calls Tryz.prog 125 #[.slice (some ⟨g, p, none⟩) n c] W fun e w' => e = .returned (.int .i32 v) ∧ ∃ m, w' = W.drewN m) :=
    Lib.hid fun W hW => getInt32_any g p n c bs v W hW hn hp hv0 hr
  have HR := Lib.hid h
  clear h
  go_enter Tryz.func213, Tryz.ntmps213
  go_wp2_with fail
  ((with_reducible refine (HA.out _ HR.out).mono ?_))
  rintro e w' ⟨rfl, m, rfl⟩
  go_wp2
  go_ret
  exact ⟨rfl, m, rfl⟩

set_option maxHeartbeats 4000000 in
set_option maxRecDepth 100000 in
theorem getUOffset_any (g p n c : Nat) (bs : List UInt8) (v : Nat) (w : World) (h : RowIn w g bs) (hn : 4 ≤ n) (hp : p + 4 ≤ bs.length) (hv0 : rd bs p 4 = v) (hr : v < 2147483648) :
    Calls Tryz.prog 63 #[.slice (some ⟨g, p, none⟩) n c] w fun e w' => e = .returned (.int .u32 v) ∧ ∃ m, w' = w.drewN m := by
  have hw : IntKind.u32.wrap (v : Int) = v := by rw [IntKind.wrap_u32]; omega
  have HA : Hid (∀ W, RowIn W g bs → Calls Tryz.prog 125 #[.slice (some ⟨g, p, none⟩) n c] W fun e w' => e = .returned (.int .i32 v) ∧ ∃ m, w' = W.drewN m) :=
    Lib.hid fun W hW => getInt32_any g p n c bs v W hW hn hp hv0 hr
  have HR := Lib.hid h
  clear h
  go_enter Tryz.func63, Tryz.ntmps63
  go_wp2_with fail
  ((with_reducible refine (HA.out _ HR.out).mono ?_))
  rintro e w' ⟨rfl, m, rfl⟩
  go_wp2
  go_ret
  exact ⟨rfl, m, rfl⟩

/-- A table's reader in memory: its bytes and its place. -/
structure TabAt (b g L c p : Nat) (bs : List UInt8) (w : World) : Prop where
  c0 : w.cell? ⟨b, 0, none⟩ = some (.slice (some ⟨g, 0, none⟩) L c)
  c1 : w.cell? ⟨b, 1, none⟩ = some (.int .u32 p)
  row : RowIn w g bs
  len : bs.length = L
  cap : L ≤ c
  big : L < 1000000000
  gl : g < w.heap.size
  bl : b < w.heap.size

theorem TabAt.drewN {b g L c p : Nat} {bs : List UInt8} {w : World} (h : TabAt b g L c p bs w) (n : Nat) : TabAt b g L c p bs (w.drewN n) := ⟨h.c0, h.c1, h.row, h.len, h.cap, h.big, h.gl, h.bl⟩

set_option maxHeartbeats 4000000 in
set_option maxRecDepth 100000 in
theorem tGetSOffsetT (b g L c p : Nat) (bs : List UInt8) (off v : Nat) (ho : off + 4 ≤ L) (hv : rd bs off 4 = v) (hr : v < 2147483648) (w : World) (h : TabAt b g L c p bs w) :
    Calls Tryz.prog 170 #[.pointer (some ⟨b, 0, none⟩), .int .u32 off] w fun e w' => e = .returned (.int .i32 v) ∧ ∃ m, w' = w.drewN m := by
  have c0 := h.c0
  have c1 := h.c1
  have hcap := h.cap
  have hlen := h.len
  have hbig := h.big
  have HR := Lib.hid h.row
  have HA : Hid (∀ W, RowIn W g bs → Calls Tryz.prog 213 #[.slice (some ⟨g, off, none⟩) (L - off) (c - off)] W fun e w' => e = .returned (.int .i32 v) ∧ ∃ m, w' = W.drewN m) :=
    Lib.hid fun W hW => getSOffset_any g off (L - off) (c - off) bs v W hW (by omega) (by omega) hv hr
  clear h
  go_enter Tryz.func170, Tryz.ntmps170
  go_wp2_with fail
  ((with_reducible refine (HA.out _ HR.out).mono ?_))
  rintro e w' ⟨rfl, m0, rfl⟩
  go_wp2
  go_ret
  exact ⟨rfl, _, rfl⟩

set_option maxHeartbeats 4000000 in
set_option maxRecDepth 100000 in
theorem tGetVOffsetT (b g L c p : Nat) (bs : List UInt8) (off v : Nat) (ho : off + 2 ≤ L) (hv : rd bs off 2 = v) (w : World) (h : TabAt b g L c p bs w) :
    Calls Tryz.prog 171 #[.pointer (some ⟨b, 0, none⟩), .int .u32 off] w fun e w' => e = .returned (.int .u16 v) ∧ ∃ m, w' = w.drewN m := by
  have c0 := h.c0
  have c1 := h.c1
  have hcap := h.cap
  have hlen := h.len
  have hbig := h.big
  have HR := Lib.hid h.row
  have HA : Hid (∀ W, RowIn W g bs → Calls Tryz.prog 214 #[.slice (some ⟨g, off, none⟩) (L - off) (c - off)] W fun e w' => e = .returned (.int .u16 v) ∧ ∃ m, w' = W.drewN m) :=
    Lib.hid fun W hW => getVOffset_any g off (L - off) (c - off) bs v W hW (by omega) (by omega) hv
  clear h
  go_enter Tryz.func171, Tryz.ntmps171
  go_wp2_with fail
  ((with_reducible refine (HA.out _ HR.out).mono ?_))
  rintro e w' ⟨rfl, m0, rfl⟩
  go_wp2
  go_ret
  exact ⟨rfl, _, rfl⟩

set_option maxHeartbeats 4000000 in
set_option maxRecDepth 100000 in
theorem tGetInt32 (b g L c p : Nat) (bs : List UInt8) (off v : Nat) (ho : off + 4 ≤ L) (hv : rd bs off 4 = v) (hr : v < 2147483648) (w : World) (h : TabAt b g L c p bs w) :
    Calls Tryz.prog 234 #[.pointer (some ⟨b, 0, none⟩), .int .u32 off] w fun e w' => e = .returned (.int .i32 v) ∧ ∃ m, w' = w.drewN m := by
  have c0 := h.c0
  have c1 := h.c1
  have hcap := h.cap
  have hlen := h.len
  have hbig := h.big
  have HR := Lib.hid h.row
  have HA : Hid (∀ W, RowIn W g bs → Calls Tryz.prog 125 #[.slice (some ⟨g, off, none⟩) (L - off) (c - off)] W fun e w' => e = .returned (.int .i32 v) ∧ ∃ m, w' = W.drewN m) :=
    Lib.hid fun W hW => getInt32_any g off (L - off) (c - off) bs v W hW (by omega) (by omega) hv hr
  clear h
  go_enter Tryz.func234, Tryz.ntmps234
  go_wp2_with fail
  ((with_reducible refine (HA.out _ HR.out).mono ?_))
  rintro e w' ⟨rfl, m0, rfl⟩
  go_wp2
  go_ret
  exact ⟨rfl, _, rfl⟩


/-- What a table's head says: where its row of places stands, and the places. -/
def VtQ (size : Nat) (places : List Nat) (l : List UInt8) (at_ : Nat) : Prop :=
  4 + 2 * places.length ≤ at_ ∧ rd l at_ 4 = 4 + 2 * places.length ∧ rd l (at_ - (4 + 2 * places.length)) 2 = 4 + 2 * places.length ∧
    (∀ i, i < places.length → rd l (at_ - (4 + 2 * places.length) + 4 + 2 * i) 2 = places.getD i 0) ∧ at_ + size ≤ l.length

theorem TabQ.vt {size : Nat} {places : List Nat} {fs : List SlotQ} {l : List UInt8} {at_ : Nat} (h : TabQ size places fs l at_) : VtQ size places l at_ := ⟨h.1, h.2.1, h.2.2.1, h.2.2.2.1, h.2.2.2.2.1⟩

set_option maxHeartbeats 4000000 in
set_option maxRecDepth 100000 in
theorem offset_there (b g L c p : Nat) (bs : List UInt8) (size : Nat) (places : List Nat) (hq : VtQ size places bs p) (h4 : 4 ≤ size) (hn : places.length < 1000) (i : Nat) (hi : i < places.length) (x : Int) (hx0 : x = 4 + 2 * i) (v : Nat) (hv : places.getD i 0 = v) (w : World) (h : TabAt b g L c p bs w) :
    Calls Tryz.prog 110 #[.pointer (some ⟨b, 0, none⟩), .int .u16 x] w fun e w' => e = .returned (.int .u16 v) ∧ ∃ m, w' = w.drewN m := by
  obtain ⟨q0, q1, q2, q3, q4⟩ := hq
  have q5 := q3 i hi
  rw [hv] at q5
  have c1 := h.c1
  have hlen := h.len
  have hbig := h.big
  rw [hlen] at q4
  generalize hV : 4 + 2 * places.length = V at *
  have hw1 : IntKind.i32.wrap (p : Int) = p := by rw [IntKind.wrap_i32]; omega
  have hw2 : IntKind.i32.wrap ((p : Int) - V) = ((p - V : Nat) : Int) := by rw [IntKind.wrap_i32]; omega
  have hw3 : IntKind.u32.wrap ((p - V : Nat) : Int) = ((p - V : Nat) : Int) := by rw [IntKind.wrap_u32]; omega
  have hw4 : IntKind.u32.wrap x = x := by rw [IntKind.wrap_u32]; omega
  obtain ⟨q, hqd⟩ : ∃ q : Nat, q = p - V + 4 + 2 * i := ⟨_, rfl⟩
  rw [← hqd] at q5
  have hw5 : IntKind.u32.wrap (((p - V : Nat) : Int) + x) = q := by rw [IntKind.wrap_u32]; omega
  have hlt : x < (V : Int) := by omega
  have HA : Hid (∀ W, TabAt b g L c p bs W → Calls Tryz.prog 170 #[.pointer (some ⟨b, 0, none⟩), .int .u32 p] W fun e w' => e = .returned (.int .i32 V) ∧ ∃ m, w' = W.drewN m) :=
    Lib.hid fun W hW => tGetSOffsetT b g L c p bs p V (by omega) q1 (by omega) W hW
  have HB : Hid (∀ W, TabAt b g L c p bs W → Calls Tryz.prog 171 #[.pointer (some ⟨b, 0, none⟩), .int .u32 (p - V : Nat)] W fun e w' => e = .returned (.int .u16 V) ∧ ∃ m, w' = W.drewN m) :=
    Lib.hid fun W hW => tGetVOffsetT b g L c p bs (p - V) V (by omega) q2 W hW
  have HC : Hid (∀ W, TabAt b g L c p bs W → Calls Tryz.prog 171 #[.pointer (some ⟨b, 0, none⟩), .int .u32 q] W fun e w' => e = .returned (.int .u16 v) ∧ ∃ m, w' = W.drewN m) :=
    Lib.hid fun W hW => tGetVOffsetT b g L c p bs q v (by omega) q5 W hW
  have H := Lib.hid h
  clear hx0 hqd h q0 q1 q2 q3 q4 q5 hV
  go_enter Tryz.func110, Tryz.ntmps110
  go_wp2
  go_quiet ((go_at_call 170; refine Calls.quiet_of (HA.out _ (H.out.drewN _))))
  go_wp2_with fail
  ((with_reducible refine (HB.out _ (H.out.drewN _)).mono ?_))
  rintro e w' ⟨rfl, m1, rfl⟩
  go_wp2_with fail
  ((with_reducible refine (HC.out _ (H.out.drewN _)).mono ?_))
  rintro e w' ⟨rfl, m2, rfl⟩
  go_wp2
  go_ret
  exact ⟨rfl, _, rfl⟩

set_option maxHeartbeats 4000000 in
set_option maxRecDepth 100000 in
theorem offset_none (b g L c p : Nat) (bs : List UInt8) (size : Nat) (places : List Nat) (hq : VtQ size places bs p) (h4 : 4 ≤ size) (hn : places.length < 1000) (i : Nat) (hi : places.length ≤ i) (hi2 : i < 1000) (x : Int) (hx : x = 4 + 2 * i) (w : World) (h : TabAt b g L c p bs w) :
    Calls Tryz.prog 110 #[.pointer (some ⟨b, 0, none⟩), .int .u16 x] w fun e w' => e = .returned (.int .u16 0) ∧ ∃ m, w' = w.drewN m := by
  obtain ⟨q0, q1, q2, q3, q4⟩ := hq
  have c1 := h.c1
  have hlen := h.len
  have hbig := h.big
  rw [hlen] at q4
  generalize hV : 4 + 2 * places.length = V at *
  have hw1 : IntKind.i32.wrap (p : Int) = p := by rw [IntKind.wrap_i32]; omega
  have hw2 : IntKind.i32.wrap ((p : Int) - V) = ((p - V : Nat) : Int) := by rw [IntKind.wrap_i32]; omega
  have hw3 : IntKind.u32.wrap ((p - V : Nat) : Int) = ((p - V : Nat) : Int) := by rw [IntKind.wrap_u32]; omega
  have hlt : ¬ x < (V : Int) := by omega
  have HA : Hid (∀ W, TabAt b g L c p bs W → Calls Tryz.prog 170 #[.pointer (some ⟨b, 0, none⟩), .int .u32 p] W fun e w' => e = .returned (.int .i32 V) ∧ ∃ m, w' = W.drewN m) :=
    Lib.hid fun W hW => tGetSOffsetT b g L c p bs p V (by omega) q1 (by omega) W hW
  have HB : Hid (∀ W, TabAt b g L c p bs W → Calls Tryz.prog 171 #[.pointer (some ⟨b, 0, none⟩), .int .u32 (p - V : Nat)] W fun e w' => e = .returned (.int .u16 V) ∧ ∃ m, w' = W.drewN m) :=
    Lib.hid fun W hW => tGetVOffsetT b g L c p bs (p - V) V (by omega) q2 W hW
  have H := Lib.hid h
  clear h q0 q1 q2 q3 q4 hV
  go_enter Tryz.func110, Tryz.ntmps110
  go_wp2
  go_quiet ((go_at_call 170; refine Calls.quiet_of (HA.out _ (H.out.drewN _))))
  go_wp2_with fail
  ((with_reducible refine (HB.out _ (H.out.drewN _)).mono ?_))
  rintro e w' ⟨rfl, m1, rfl⟩
  go_wp2
  go_ret
  exact ⟨rfl, _, rfl⟩

set_option maxHeartbeats 4000000 in
set_option maxRecDepth 100000 in
theorem indirect_any (b g L c p : Nat) (bs : List UInt8) (off to : Nat) (hle : off ≤ to) (hr : rd bs off 4 = to - off) (ho : off + 4 ≤ L) (ht : to ≤ L) (w : World) (h : TabAt b g L c p bs w) :
    Calls Tryz.prog 111 #[.pointer (some ⟨b, 0, none⟩), .int .u32 off] w fun e w' => e = .returned (.int .u32 to) ∧ ∃ m, w' = w.drewN m := by
  have c0 := h.c0
  have hcap := h.cap
  have hlen := h.len
  have hbig := h.big
  have HR := Lib.hid h.row
  have hw1 : IntKind.u32.wrap ((off : Int) + ((to - off : Nat) : Int)) = to := by rw [IntKind.wrap_u32]; omega
  have HA : Hid (∀ W, RowIn W g bs → Calls Tryz.prog 63 #[.slice (some ⟨g, off, none⟩) (L - off) (c - off)] W fun e w' => e = .returned (.int .u32 (to - off : Nat)) ∧ ∃ m, w' = W.drewN m) :=
    Lib.hid fun W hW => getUOffset_any g off (L - off) (c - off) bs _ W hW (by omega) (by omega) hr (by omega)
  clear h
  go_enter Tryz.func111, Tryz.ntmps111
  go_wp2_with fail
  ((with_reducible refine (HA.out _ HR.out).mono ?_))
  rintro e w' ⟨rfl, m0, rfl⟩
  go_wp2
  go_ret
  exact ⟨rfl, _, rfl⟩

set_option maxHeartbeats 4000000 in
set_option maxRecDepth 100000 in
theorem byteVector_any (b g L c p : Nat) (bs : List UInt8) (off to n : Nat) (hle : off ≤ to) (hr : rd bs off 4 = to - off) (ho : off + 4 ≤ L) (hn : rd bs to 4 = n) (ht : to + 4 + n ≤ L) (o : Nat) (ho1 : c = to + 4 → o = 0) (ho2 : ¬ c = to + 4 → o = to + 4) (w : World) (h : TabAt b g L c p bs w) :
    Calls Tryz.prog 167 #[.pointer (some ⟨b, 0, none⟩), .int .u32 off] w fun e w' => e = .returned (.slice (some ⟨g, o, none⟩) n (c - (to + 4))) ∧ ∃ m, w' = w.drewN m := by
  have c0 := h.c0
  have hcap := h.cap
  have hlen := h.len
  have hbig := h.big
  have HR := Lib.hid h.row
  have hw1 : IntKind.u32.wrap ((off : Int) + ((to - off : Nat) : Int)) = to := by rw [IntKind.wrap_u32]; omega
  have hw2 : IntKind.u32.wrap ((to : Int) + 4) = ((to + 4 : Nat) : Int) := by rw [IntKind.wrap_u32]; omega
  have hw3 : IntKind.u32.wrap (((to + 4 : Nat) : Int) + n) = ((to + 4 + n : Nat) : Int) := by rw [IntKind.wrap_u32]; omega
  have HA : Hid (∀ W, RowIn W g bs → Calls Tryz.prog 63 #[.slice (some ⟨g, off, none⟩) (L - off) (c - off)] W fun e w' => e = .returned (.int .u32 (to - off : Nat)) ∧ ∃ m, w' = W.drewN m) :=
    Lib.hid fun W hW => getUOffset_any g off (L - off) (c - off) bs _ W hW (by omega) (by omega) hr (by omega)
  have HB : Hid (∀ W, RowIn W g bs → Calls Tryz.prog 63 #[.slice (some ⟨g, to, none⟩) (L - to) (c - to)] W fun e w' => e = .returned (.int .u32 n) ∧ ∃ m, w' = W.drewN m) :=
    Lib.hid fun W hW => getUOffset_any g to (L - to) (c - to) bs _ W hW (by omega) (by omega) hn (by omega)
  have HRD : Hid (∀ m, RowIn (w.drewN m) g bs) := Lib.hid fun m => HR.out
  have HO1 := Lib.hid ho1
  have HO2 := Lib.hid ho2
  clear h ho1 ho2
  go_enter Tryz.func167, Tryz.ntmps167
  go_wp2_with fail
  ((with_reducible refine (HA.out _ HR.out).mono ?_))
  rintro e w' ⟨rfl, m0, rfl⟩
  go_wp2_with fail
  ((with_reducible refine (HB.out _ (HRD.out _)).mono ?_))
  rintro e w' ⟨rfl, m1, rfl⟩
  go_wp2
  all_goals
    first
      | (obtain rfl := HO1.out (by assumption)
         go_ret
         exact ⟨rfl, _, rfl⟩)
      | (obtain rfl := HO2.out (by assumption)
         go_ret
         exact ⟨rfl, _, rfl⟩)

/-- A reader is laid. -/
abbrev initW (w : World) (b : Nat) (v : Value) (p : Int) : World := (w.setCell ⟨b, 0, none⟩ v).setCell ⟨b, 1, none⟩ (.int .u32 p)

theorem row_setG {w : World} {g : Nat} {cur : Array Value} {T : TypeId} {fz : Nat × Nat} (h : w.heap[g]? = some (.cells cur T fz)) (i : Nat) (v : Value) : (w.setCell ⟨g, i, none⟩ v).heap[g]? = some (.cells (cur.setIfInBounds i v) T fz) := Lib.heap_setCell_same h v

theorem reads_below {w w' : World} (h : ∃ m, w' = w.drewN m) : Below w.heap.size w w' := by
  obtain ⟨m, rfl⟩ := h
  exact (Below.refl _ w).trans ⟨rfl, rfl, rfl, Nat.le_refl _, fun _ _ => rfl⟩

theorem TabAt.below {b g L c p : Nat} {bs : List UInt8} {w w' : World} (h : TabAt b g L c p bs w) (hb : Below w.heap.size w w') : TabAt b g L c p bs w' :=
  ⟨(hb.cell (p := ⟨b, 0, none⟩) h.bl).trans h.c0, (hb.cell (p := ⟨b, 1, none⟩) h.bl).trans h.c1, fun i hi => (hb.cell (p := ⟨g, i, none⟩) h.gl).trans (h.row i hi), h.len, h.cap, h.big, Nat.lt_of_lt_of_le h.gl hb.size, Nat.lt_of_lt_of_le h.bl hb.size⟩

/-- The bytes, and where they stand. -/
structure RowAt (g L c : Nat) (bs : List UInt8) (w : World) : Prop where
  row : RowIn w g bs
  len : bs.length = L
  cap : L ≤ c
  big : L < 1000000000
  gl : g < w.heap.size

theorem TabAt.rowAt {b g L c p : Nat} {bs : List UInt8} {w : World} (h : TabAt b g L c p bs w) : RowAt g L c bs w := ⟨h.row, h.len, h.cap, h.big, h.gl⟩

/-- A new reader. -/
theorem tab_made {g L c : Nat} {bs : List UInt8} {w : World} (h : RowAt g L c bs w) (p : Nat) (x0 x1 : Value) (T : TypeId) :
    TabAt w.heap.size g L c p bs (initW (w.alloc (.cells #[x0, x1] T)) w.heap.size (.slice (some ⟨g, 0, none⟩) L c) p) ∧ Below w.heap.size w (initW (w.alloc (.cells #[x0, x1] T)) w.heap.size (.slice (some ⟨g, 0, none⟩) L c) p) := by
  have hb := (((Below.refl _ w).alloc (Nat.le_refl _) (.cells #[x0, x1] T)).setCell (p := ⟨w.heap.size, 0, none⟩) (Nat.le_refl _) (.slice (some ⟨g, 0, none⟩) L c)).setCell (p := ⟨w.heap.size, 1, none⟩) (Nat.le_refl _) (.int .u32 (p : Int))
  have hr := row_setG (row_setG (heap_alloc_new w (.cells #[x0, x1] T)) 0 (.slice (some ⟨g, 0, none⟩) L c)) 1 (.int .u32 (p : Int))
  refine ⟨⟨?_, ?_, fun i hi => (hb.cell (p := ⟨g, i, none⟩) h.gl).trans (h.row i hi), h.len, h.cap, h.big, Nat.lt_of_lt_of_le h.gl hb.size, (Array.getElem?_eq_some_iff.1 hr).1⟩, hb⟩
  · rw [Lib.cell_of_heap hr]; rfl
  · rw [Lib.cell_of_heap hr]; rfl

/-- A reader is returned that stands at a place. -/
def NewTab (g L c p : Nat) (bs : List UInt8) (w : World) (e : Ending) (w' : World) : Prop :=
  ∃ r, e = .returned (.pointer (some ⟨r, 0, none⟩)) ∧ w.heap.size ≤ r ∧ TabAt r g L c p bs w' ∧ Below w.heap.size w w'


theorem offsetZ (b g L c p : Nat) (bs : List UInt8) (size : Nat) (places : List Nat) (hq : VtQ size places bs p) (h4 : 4 ≤ size) (hn : places.length < 1000) (i : Nat) (hi : i < places.length → places.getD i 0 = 0) (hi2 : i < 1000) (x : Int) (hx : x = 4 + 2 * i) (w : World) (h : TabAt b g L c p bs w) :
    Calls Tryz.prog 110 #[.pointer (some ⟨b, 0, none⟩), .int .u16 x] w fun e w' => e = .returned (.int .u16 0) ∧ ∃ m, w' = w.drewN m := by
  by_cases h1 : i < places.length
  · exact offset_there b g L c p bs size places hq h4 hn i h1 x hx 0 (hi h1) w h
  · exact offset_none b g L c p bs size places hq h4 hn i (by omega) hi2 x hx w h


set_option maxHeartbeats 1000000 in
set_option maxRecDepth 100000 in
theorem initBaseNode (b g L c : Nat) (x0 x1 : Value) (q : Int) (w : World) (h : w.heap[b]? = some (.cells #[x0, x1] 341 (0, 0))) :
    Calls Tryz.prog 112 #[.pointer (some ⟨b, 0, none⟩), .slice (some ⟨g, 0, none⟩) L c, .int .u32 q] w fun e w' => e = .returned (.tuple #[]) ∧ w' = initW w b (.slice (some ⟨g, 0, none⟩) L c) q := by
  have c0 : w.cell? ⟨b, 0, none⟩ = some x0 := by rw [Lib.cell_of_heap h]; rfl
  have c1 : w.cell? ⟨b, 1, none⟩ = some x1 := by rw [Lib.cell_of_heap h]; rfl
  have f0 := Lib.frozen_of_heap h 0
  have f1 := Lib.frozen_of_heap h 1
  go_enter Tryz.func112, Tryz.ntmps112
  go_wp2
  go_end0
  exact ⟨rfl, rfl⟩


set_option maxHeartbeats 1000000 in
set_option maxRecDepth 100000 in
theorem initSourceLocation (b g L c : Nat) (x0 x1 : Value) (q : Int) (w : World) (h : w.heap[b]? = some (.cells #[x0, x1] 382 (0, 0))) :
    Calls Tryz.prog 165 #[.pointer (some ⟨b, 0, none⟩), .slice (some ⟨g, 0, none⟩) L c, .int .u32 q] w fun e w' => e = .returned (.tuple #[]) ∧ w' = initW w b (.slice (some ⟨g, 0, none⟩) L c) q := by
  have c0 : w.cell? ⟨b, 0, none⟩ = some x0 := by rw [Lib.cell_of_heap h]; rfl
  have c1 : w.cell? ⟨b, 1, none⟩ = some x1 := by rw [Lib.cell_of_heap h]; rfl
  have f0 := Lib.frozen_of_heap h 0
  have f1 := Lib.frozen_of_heap h 1
  go_enter Tryz.func165, Tryz.ntmps165
  go_wp2
  go_end0
  exact ⟨rfl, rfl⟩


set_option maxHeartbeats 1000000 in
set_option maxRecDepth 100000 in
theorem initPosition (b g L c : Nat) (x0 x1 : Value) (q : Int) (w : World) (h : w.heap[b]? = some (.cells #[x0, x1] 412 (0, 0))) :
    Calls Tryz.prog 212 #[.pointer (some ⟨b, 0, none⟩), .slice (some ⟨g, 0, none⟩) L c, .int .u32 q] w fun e w' => e = .returned (.tuple #[]) ∧ w' = initW w b (.slice (some ⟨g, 0, none⟩) L c) q := by
  have c0 : w.cell? ⟨b, 0, none⟩ = some x0 := by rw [Lib.cell_of_heap h]; rfl
  have c1 : w.cell? ⟨b, 1, none⟩ = some x1 := by rw [Lib.cell_of_heap h]; rfl
  have f0 := Lib.frozen_of_heap h 0
  have f1 := Lib.frozen_of_heap h 1
  go_enter Tryz.func212, Tryz.ntmps212
  go_wp2
  go_end0
  exact ⟨rfl, rfl⟩


set_option maxHeartbeats 1000000 in
set_option maxRecDepth 100000 in
theorem initIdentifier (b g L c : Nat) (x0 x1 : Value) (q : Int) (w : World) (h : w.heap[b]? = some (.cells #[x0, x1] 364 (0, 0))) :
    Calls Tryz.prog 135 #[.pointer (some ⟨b, 0, none⟩), .slice (some ⟨g, 0, none⟩) L c, .int .u32 q] w fun e w' => e = .returned (.tuple #[]) ∧ w' = initW w b (.slice (some ⟨g, 0, none⟩) L c) q := by
  have c0 : w.cell? ⟨b, 0, none⟩ = some x0 := by rw [Lib.cell_of_heap h]; rfl
  have c1 : w.cell? ⟨b, 1, none⟩ = some x1 := by rw [Lib.cell_of_heap h]; rfl
  have f0 := Lib.frozen_of_heap h 0
  have f1 := Lib.frozen_of_heap h 1
  go_enter Tryz.func135, Tryz.ntmps135
  go_wp2
  go_end0
  exact ⟨rfl, rfl⟩


set_option maxHeartbeats 1000000 in
set_option maxRecDepth 100000 in
theorem initTvarType (b g L c : Nat) (x0 x1 : Value) (q : Int) (w : World) (h : w.heap[b]? = some (.cells #[x0, x1] 346 (0, 0))) :
    Calls Tryz.prog 115 #[.pointer (some ⟨b, 0, none⟩), .slice (some ⟨g, 0, none⟩) L c, .int .u32 q] w fun e w' => e = .returned (.tuple #[]) ∧ w' = initW w b (.slice (some ⟨g, 0, none⟩) L c) q := by
  have c0 : w.cell? ⟨b, 0, none⟩ = some x0 := by rw [Lib.cell_of_heap h]; rfl
  have c1 : w.cell? ⟨b, 1, none⟩ = some x1 := by rw [Lib.cell_of_heap h]; rfl
  have f0 := Lib.frozen_of_heap h 0
  have f1 := Lib.frozen_of_heap h 1
  go_enter Tryz.func115, Tryz.ntmps115
  go_wp2
  go_end0
  exact ⟨rfl, rfl⟩

end Go.Proofs.YtgceklahjdbipaaGreatDoor
