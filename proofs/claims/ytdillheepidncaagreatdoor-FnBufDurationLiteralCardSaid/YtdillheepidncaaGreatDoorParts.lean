/- Numbers with units, as bytes. -/
import Derived.Test.YtdillheepidncaaGreatDoorDec
namespace Go.Proofs.YtdillheepidncaaGreatDoor
open Go Go.RowKit
set_option linter.unusedVariables false
set_option linter.unusedSimpArgs false

/-- The units that a tree may hold. -/
def plainU : List (List UInt8) := [[121], [109, 111], [119], [100], [104], [109], [115], [109, 115], [117, 115], [110, 115]]

/-- One number with its unit. -/
def PartOk1 (x : List UInt8 × List UInt8) : Prop := x.1 ≠ [] ∧ (∀ c ∈ x.1, 48 ≤ c.toNat ∧ c.toNat ≤ 57) ∧ x.2 ∈ plainU

def spanB (l : List (List UInt8 × List UInt8)) : List UInt8 := l.flatMap fun x => x.1 ++ x.2
theorem spanB_append (a b) : spanB (a ++ b) = spanB a ++ spanB b := by simp [spanB]
theorem spanB_cons (x) (l) : spanB (x :: l) = x.1 ++ x.2 ++ spanB l := by simp [spanB]

/-- The number that digits are. -/
def decV (l : List UInt8) : Nat := l.foldl (fun n c => 10 * n + (c.toNat - 48)) 0
theorem decV_nil : decV [] = 0 := rfl
theorem decV_snoc (l : List UInt8) (c : UInt8) : decV (l ++ [c]) = 10 * decV l + (c.toNat - 48) := by simp [decV]
theorem decV_mono (l : List UInt8) (k : Nat) : decV (l.take k) ≤ decV l := by
  have h : ∀ r : List UInt8, ∀ n : Nat, n ≤ r.foldl (fun n c => 10 * n + (c.toNat - 48)) n := by
    intro r
    induction r with
    | nil => intro n; exact Nat.le_refl _
    | cons c r ih => intro n; exact Nat.le_trans (show n ≤ 10 * n + (c.toNat - 48) by omega) (ih _)
  conv => rhs; rw [← List.take_append_drop k l]
  unfold decV
  rw [List.foldl_append]
  exact h _ _
theorem decV_digits : ∀ u : Nat, decV (Lib.decDigits u) = u := by
  intro u
  induction u using Nat.strongRecOn with
  | _ u ih =>
    rw [decDigits_step]
    rw [decV_snoc]
    have hd : (digitByte u).toNat - 48 = u % 10 := by have := digitByte_nat u; omega
    rw [hd]
    by_cases h : u / 10 = 0
    · rw [if_pos h, decV_nil]; omega
    · rw [if_neg h, ih (u / 10) (by omega)]; omega
theorem decDigits_digits : ∀ u : Nat, ∀ c ∈ Lib.decDigits u, 48 ≤ c.toNat ∧ c.toNat ≤ 57 := by
  intro u
  induction u using Nat.strongRecOn with
  | _ u ih =>
    rw [decDigits_step]
    intro c hc
    rcases List.mem_append.1 hc with h | h
    · by_cases h0 : u / 10 = 0
      · rw [if_pos h0] at h; simp at h
      · rw [if_neg h0] at h; exact ih (u / 10) (by omega) c h
    · simp at h
      subst h
      have := digitByte_nat u
      omega
theorem decDigits_ne (u : Nat) : Lib.decDigits u ≠ [] := by rw [decDigits_step]; simp

end Go.Proofs.YtdillheepidncaaGreatDoor
