/- strconv.ParseInt of decimal digits; the letters of a unit. -/
import Derived.Test.YtaaiojhdhefjdaaDoorParts
import Derived.Lib.ParseIntB
import Derived.Lib.DecodeN
import Derived.Lib.TrimU
import Derived.Test.YtaaiojhdhefjdaaDoorShelf
namespace Go.Proofs.YtaaiojhdhefjdaaDoor
open Go Go.RowKit
set_option linter.unusedVariables false
set_option linter.unusedSimpArgs false

theorem fold_ge (r : List UInt8) : ∀ n : Nat, n ≤ r.foldl (fun n c => 10 * n + (c.toNat - 48)) n := by
  induction r with
  | nil => intro n; exact Nat.le_refl _
  | cons c r ih => intro n; exact Nat.le_trans (show n ≤ 10 * n + (c.toNat - 48) by omega) (ih _)

theorem parseUintM_digits (M : Nat) (hM : 9223372036854775807 ≤ M) : ∀ (l : List UInt8) (acc : Nat), (∀ c ∈ l, 48 ≤ c.toNat ∧ c.toNat ≤ 57) → l.foldl (fun n c => 10 * n + (c.toNat - 48)) acc ≤ 9223372036854775807 →
    Lib.parseUintM M acc l = .ok (l.foldl (fun n c => 10 * n + (c.toNat - 48)) acc)
  | [], acc, _, _ => rfl
  | c :: r, acc, hd, hv => by
    have h1 := hd c (by simp)
    have h2 := fold_ge r (10 * acc + (c.toNat - 48))
    rw [List.foldl_cons] at hv ⊢
    have h3 : acc * 10 + (c.toNat - 48) = 10 * acc + (c.toNat - 48) := by omega
    rw [Lib.parseUintM, if_pos h1, if_neg (by omega), if_neg (by omega), h3]
    exact parseUintM_digits M hM r _ (fun x hx => hd x (by simp [hx])) hv

theorem parseInt_digits (l : List UInt8) (hne : l ≠ []) (hd : ∀ c ∈ l, 48 ≤ c.toNat ∧ c.toNat ≤ 57) (hv : decV l ≤ 9223372036854775807) : Lib.parseIntB 64 l = .ok (decV l : Int) := by
  obtain ⟨c, r, rfl⟩ := List.exists_cons_of_ne_nil hne
  have hc := hd c (by simp)
  have h1 : Lib.parseUintB 64 (c :: r) = .ok (decV (c :: r)) := by
    unfold Lib.parseUintB
    rw [if_neg (by simp)]
    exact parseUintM_digits _ (by decide) _ 0 hd hv
  unfold Lib.parseIntB
  have h2 : ¬ (c.toNat = 43 ∨ c.toNat = 45) := by omega
  have h3 : ¬ c.toNat = 45 := by omega
  simp only [if_neg h2, h1]
  rw [if_neg (by omega), if_neg (by simp [h3])]
  simp [h3]

/-- What a unit's text is read as. -/
def muL : List UInt8 := [194, 181, 115]
def unitOut (u : List UInt8) : ByteArray := if u = muL then ⟨#[117, 115]⟩ else ⟨u.toArray⟩
def PartP (x : List UInt8 × List UInt8) : Prop := x.1 ≠ [] ∧ (∀ c ∈ x.1, 48 ≤ c.toNat ∧ c.toNat ≤ 57) ∧ (x.2 ∈ plainU ∨ x.2 = muL)
def parsedOf (x : List UInt8 × List UInt8) : Int × ByteArray := ((decV x.1 : Int), unitOut x.2)

/-- A letter's number, as the code asks for it. -/
def LetterR (r : Nat) : Prop := (97 ≤ r ∧ r ≤ 122) ∨ r = 181

/-- A place within a unit at which a letter begins. -/
def LettAt (u : List UInt8) (p : Nat) : Prop := p ≤ u.length ∧ (u = muL → p ≠ 1)

theorem plain_letter (u : List UInt8) (h : u ∈ plainU) : ∀ c ∈ u, 97 ≤ c.toNat ∧ c.toNat ≤ 122 := by
  simp only [plainU, List.mem_cons, List.mem_nil_iff, or_false] at h
  rcases h with rfl | rfl | rfl | rfl | rfl | rfl | rfl | rfl | rfl | rfl <;> decide

theorem get_list (s : ByteArray) (k : Nat) (c : UInt8) (h : s.data.toList[k]? = some c) : s.get! k = c := by
  have hk : k < s.data.toList.length := by
    rcases Nat.lt_or_ge k s.data.toList.length with h' | h'
    · exact h'
    · rw [List.getElem?_eq_none h'] at h; cases h
  have h2 : k < s.data.size := by simpa using hk
  show s.data[k]! = c
  rw [getElem!_pos s.data k h2]
  rw [List.getElem?_eq_getElem hk] at h
  exact Option.some.inj h

theorem decode_mu (s : ByteArray) (r : List UInt8) (h : s.data.toList = 194 :: 181 :: r) : Lib.decodeGo s = (181, 2) := by
  have hs : s.size = r.length + 2 := by
    have := congrArg List.length h
    simpa using this
  have h0 : s.get! 0 = 194 := get_list s 0 194 (by rw [h]; rfl)
  have h1 : s.get! (0 + 1) = 181 := get_list s 1 181 (by rw [h]; rfl)
  unfold Lib.decodeGo
  rw [if_neg (by omega), Lib.decode_at, h0, h1]
  have e0 : (194 : UInt8).toNat = 194 := rfl
  have e1 : (181 : UInt8).toNat = 181 := rfl
  rw [e0, e1]
  unfold Lib.decodeN
  rw [if_neg (by decide), if_pos ⟨by decide, by omega, by decide⟩, if_pos (by decide)]

end Go.Proofs.YtaaiojhdhefjdaaDoor
