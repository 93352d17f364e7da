/- Names of imports. -/
import Derived.Test.YtdillheepidncaaGreatDoorImportEnd
namespace Go.Proofs.YtdillheepidncaaGreatDoor
open Go Go.RowKit
set_option linter.unusedVariables false
set_option linter.unusedSimpArgs false

/-- A name, or nil. -/
def NameAt (x : Option ByteArray) (ad : Option Addr) (n : Nat) (w : World) : Prop := match x with
  | none => ad = none
  | some x => ∃ gx : Nat, ad = some ⟨gx, 0, none⟩ ∧ n ≤ gx ∧ w.heap[gx]? = some (.cells #[.pointer none, .slice none 0 0, .slice none 0 0, .string x] 96 (0, 0))

def NamePost (x : Option ByteArray) (w : World) (e : Ending) (w' : World) : Prop :=
  ∃ ad, e = .returned (.pointer ad) ∧ Below w.heap.size w w' ∧ NameAt x ad w.heap.size w'

theorem name_of (x : Option ByteArray) (g L c : Nat) (bs : List UInt8) (ad : Option Addr) (w : World) (h : match x with
    | none => ad = none
    | some x => ∃ r q : Nat, ad = some ⟨r, 0, none⟩ ∧ TabAt r g L c q bs w ∧ LeafText x bs q) :
    Calls Tryz.prog 53 #[.agg #[.pointer none, .slice none 0 0, .slice none 0 0, .string ⟨#[]⟩], .pointer ad] w (NamePost x w) := by
  cases x with
  | none =>
    have h0 : ad = none := h
    subst h0
    refine (fromIdentifier_none w).mono ?_
    rintro e w' ⟨rfl, hb⟩
    exact ⟨none, rfl, hb, rfl⟩
  | some x =>
    obtain ⟨r, q, rfl, ht, sz2, s0, s1, k4, k5⟩ := h
    refine (fromIdentifier_any r g L c q sz2 s0 s1 bs k4 x k5 w ht).mono ?_
    rintro e w' ⟨r2, rfl, hr2, hrow, hb⟩
    exact ⟨_, rfl, hb, r2, rfl, hr2, hrow⟩

theorem name_keep {x : Option ByteArray} {ad : Option Addr} {n : Nat} {w w' : World} (h : NameAt x ad n w) (hk : ∀ r u, n ≤ r → w.heap[r]? = some u → w'.heap[r]? = some u) : NameAt x ad n w' := by
  cases x with
  | none => exact h
  | some x =>
    obtain ⟨gx, h1, h2, h3⟩ := h
    exact ⟨gx, h1, h2, hk _ _ h2 h3⟩

/-- The name of an import, as a plain node. -/
def asKind (x : Option ByteArray) : Int := match x with
  | none => 0
  | some _ => 33
def asText (x : Option ByteArray) : ByteArray := match x with
  | none => ⟨#[]⟩
  | some x => x

theorem as_none {x : Option ByteArray} {ad : Option Addr} {w : World} (h : match x with
    | none => ad = none
    | some x => ∃ gx : Nat, ad = some ⟨gx, 0, none⟩ ∧ w.heap[gx]? = some (.cells #[.pointer none, .slice none 0 0, .slice none 0 0, .string x] 96 (0, 0))) (W : World) (hb : Below w.heap.size w W) :
    Calls Tryz.prog 34 #[.pointer ad] W fun e w' => e = .returned (.agg #[.int .i64 (asKind x), .string (asText x), .string ⟨#[]⟩, .int .u64 0, .slice none 0 0]) ∧ Below W.heap.size W w' := by
  cases x with
  | none =>
    have h0 : ad = none := h
    subst h0
    exact orNoneIdentifier_none W
  | some x =>
    obtain ⟨gx, rfl, h2⟩ := h
    exact orNoneIdentifier_some gx x W ((hb.block gx (Array.getElem?_eq_some_iff.1 h2).1).trans h2)

theorem asKind_ok (x : Option ByteArray) : -9223372036854775808 ≤ asKind x ∧ asKind x ≤ 9223372036854775807 := by
  cases x with
  | none => exact ⟨by decide, by decide⟩
  | some x => exact ⟨by show (-9223372036854775808 : Int) ≤ 33; decide, by show (33 : Int) ≤ 9223372036854775807; decide⟩

/-- An import's tree, over its name. -/
theorem import_form (tr : Tr) (h : FitsT tr) (hk : tr.kind = 5) : ∃ (x : Option ByteArray) (y : ByteArray), (asText x).size ≤ 300 ∧ y.size ≤ 300 ∧ tr = .mk 5 ⟨#[]⟩ ⟨#[]⟩ 0 [.mk (asKind x) (asText x) ⟨#[]⟩ 0 [], .mk 34 y ⟨#[]⟩ 0 []] := by
  obtain ⟨y, hy, e | ⟨x, hx, e⟩⟩ := fits_import tr h hk
  · exact ⟨none, y, by show (0 : Nat) ≤ 300; omega, hy, e⟩
  · exact ⟨some x, y, hx, hy, e⟩

theorem import_buf (base : Bool) (x : Option ByteArray) (hx : (asText x).size ≤ 300) (y : ByteArray) (hy : y.size ≤ 300) (a : Option Addr) (c N : Nat) (w : World) (hN : N ≤ w.heap.size)
    (hv : NodeIn w (· < N) (.mk 5 ⟨#[]⟩ ⟨#[]⟩ 0 [.mk (asKind x) (asText x) ⟨#[]⟩ 0 [], .mk 34 y ⟨#[]⟩ 0 []]) (nodeU 5 ⟨#[]⟩ ⟨#[]⟩ 0 a 2 c)) :
    Calls Tryz.prog 9 #[.agg #[.int .i64 5, .string ⟨#[]⟩, .string ⟨#[]⟩, .int .u64 0, .slice a 2 c], .bool base] w (NodeBuf (ImportT x y) w) := by
  cases x with
  | none => exact buf_import_none base _ _ _ _ _ 0 y hy a c N w hN hv
  | some x => exact buf_import_as base _ _ _ x hx y hy a c N w hN hv

end Go.Proofs.YtdillheepidncaaGreatDoor
