/- The decimal digits of a number. -/
import Derived.Test.YtdillheepidncaaGreatDoorRows
import Derived.WalkKit
import Derived.WalkLawsBesides
import Derived.Outline
import Derived.BigCall
import Derived.Lib.Hide
import Derived.Lib.ItoaNum
import Derived.Laws.IdiomStrings
import Derived.LoopTactic
namespace Go.Proofs.YtdillheepidncaaGreatDoor
open Go Go.RowKit

theorem bytes_one (b : UInt8) (s : ByteArray) : (⟨#[b]⟩ ++ s : ByteArray) = ⟨([b] ++ s.data.toList).toArray⟩ := by
  apply Go.WideShapes.bytes_inj
  simp

/-- One digit's byte. -/
def digitByte (c : Nat) : UInt8 := UInt8.ofNat (48 + c % 10)
theorem digitByte_nat (c : Nat) : ((digitByte c).toNat : Int) = 48 + (c : Int) % 10 := by
  unfold digitByte
  rw [UInt8.toNat_ofNat']
  omega

theorem decDigits_step (c : Nat) : Lib.decDigits c = (if c / 10 = 0 then [] else Lib.decDigits (c / 10)) ++ [digitByte c] := by
  rw [Lib.decDigits]
  by_cases h : c < 10
  · have e : c / 10 = 0 := by omega
    have e' : c % 10 = c := by omega
    simp [h, e, digitByte, e']
  · have e : ¬ c / 10 = 0 := by omega
    simp [h, e, digitByte]

theorem decDigits_len (n : Nat) : ∀ u, u < 10 ^ (n + 1) → (Lib.decDigits u).length ≤ n + 1 := by
  induction n with
  | zero =>
    intro u hu
    have h : u < 10 := by simpa using hu
    rw [Lib.decDigits, dif_pos h]
    simp
  | succ n ih =>
    intro u hu
    rw [decDigits_step]
    have h : u / 10 < 10 ^ (n + 1) := by
      rw [Nat.pow_succ] at hu
      omega
    have := ih _ h
    split <;> simp
    omega

theorem decDigits_20 (u : Nat) (hu : u < 18446744073709551616) : (Lib.decDigits u).length ≤ 20 :=
  decDigits_len 19 u (Nat.lt_of_lt_of_le hu (by decide))


end Go.Proofs.YtdillheepidncaaGreatDoor
