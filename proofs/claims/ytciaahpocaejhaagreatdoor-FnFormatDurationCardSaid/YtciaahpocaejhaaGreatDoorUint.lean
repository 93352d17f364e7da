/- spec.uintOf: the number that decimal digits are. -/
import Derived.Test.YtciaahpocaejhaaGreatDoorSpan
import Derived.Test.YtciaahpocaejhaaGreatDoorDec
namespace Go.Proofs.YtciaahpocaejhaaGreatDoor
open Go Go.RowKit
set_option linter.unusedVariables false
set_option linter.unusedSimpArgs false

/-- The number that digits are. -/
def decV (l : List UInt8) : Nat := l.foldl (fun n c => 10 * n + (c.toNat - 48)) 0
theorem decV_nil : decV [] = 0 := rfl
theorem decV_snoc (l : List UInt8) (c : UInt8) : decV (l ++ [c]) = 10 * decV l + (c.toNat - 48) := by simp [decV]
theorem decV_mono (l : List UInt8) (k : Nat) : decV (l.take k) ≤ decV l := by
  have h : ∀ r : List UInt8, ∀ n : Nat, n ≤ r.foldl (fun n c => 10 * n + (c.toNat - 48)) n := by
    intro r
    induction r with
    | nil => intro n; exact Nat.le_refl _
    | cons c r ih => intro n; exact Nat.le_trans (show n ≤ 10 * n + (c.toNat - 48) by omega) (ih _)
  conv => rhs; rw [← List.take_append_drop k l]
  unfold decV
  rw [List.foldl_append]
  exact h _ _
theorem decV_digits : ∀ u : Nat, decV (Lib.decDigits u) = u := by
  intro u
  induction u using Nat.strongRecOn with
  | _ u ih =>
    rw [decDigits_step]
    rw [decV_snoc]
    have hd : (digitByte u).toNat - 48 = u % 10 := by have := digitByte_nat u; omega
    rw [hd]
    by_cases h : u / 10 = 0
    · rw [if_pos h, decV_nil]; omega
    · rw [if_neg h, ih (u / 10) (by omega)]; omega
theorem decDigits_digits : ∀ u : Nat, ∀ c ∈ Lib.decDigits u, 48 ≤ c.toNat ∧ c.toNat ≤ 57 := by
  intro u
  induction u using Nat.strongRecOn with
  | _ u ih =>
    rw [decDigits_step]
    intro c hc
    rcases List.mem_append.1 hc with h | h
    · by_cases h0 : u / 10 = 0
      · rw [if_pos h0] at h; simp at h
      · rw [if_neg h0] at h; exact ih (u / 10) (by omega) c h
    · simp at h
      subst h
      have := digitByte_nat u
      omega
theorem decDigits_ne (u : Nat) : Lib.decDigits u ≠ [] := by rw [decDigits_step]; simp

set_option maxHeartbeats 4000000 in
set_option maxRecDepth 100000 in
theorem uintOf_any (s : ByteArray) (hs : s.size ≤ 10000) (hd : ∀ c ∈ s.data.toList, 48 ≤ c.toNat ∧ c.toNat ≤ 57) (hv : decV s.data.toList ≤ 18446744073709551615) (hne : s.data.toList ≠ []) (w : World) :
    Calls Tryz.prog 114 #[.string s] w fun e w' => e = .returned (.tuple #[.int .u64 (decV s.data.toList), .bool true]) ∧ Below w.heap.size w w' := by
  have HD := Lib.hid hd
  have HV := Lib.hid hv
  have hpos : 0 < s.size := by
    have := List.length_pos_iff.2 hne
    simpa using this
  clear hd hv hne
  go_enter Tryz.func114, Tryz.ntmps114
  go_wp2
  go_loop [4, 5] (fun n i => ∃ k : Nat, k ≤ s.size ∧ i = .int .i64 k ∧ n = .int .u64 (decV (s.data.toList.take k))) (fun _ i => s.size - (intOf i).toNat)
  case atStart => exact ⟨0, Nat.zero_le _, rfl, rfl⟩
  case round =>
    obtain ⟨k, hk, rfl, rfl⟩ := hrel
    by_cases hlt : k < s.size
    · have htk : s.data.toList.take (k + 1) = s.data.toList.take k ++ [s[k]] := by
        rw [List.take_succ_eq_append_getElem (by simpa using hlt)]; rfl
      have hdv : decV (s.data.toList.take (k + 1)) = 10 * decV (s.data.toList.take k) + (s[k].toNat - 48) := by rw [htk, decV_snoc]
      have hmo := decV_mono s.data.toList (k + 1)
      have hbb : 48 ≤ s[k].toNat ∧ s[k].toNat ≤ 57 := HD.out _ (by
        have : s[k] = s.data.toList[k]'(by simpa using hlt) := rfl
        rw [this]; exact List.getElem_mem _)
      obtain ⟨hb1, hb2⟩ := hbb
      have hvv := HV.out
      have hle : 10 * (decV (s.data.toList.take k) : Int) + ((s[k].toNat : Int) - 48) ≤ 18446744073709551615 := by omega
      have HDV := Lib.hid hdv
      clear htk hdv hmo hvv
      generalize decV (s.data.toList.take k) = n at *
      have hq : ¬ ((18446744073709551615 - ((s[k].toNat : Int) - 48)) / 10 < (n : Int)) := by omega
      have l48 : ¬ ((s[k].toNat : Int) < 48) := by omega
      have l57 : ¬ (57 < (s[k].toNat : Int)) := by omega
      go_wp2
      go_round
      case rel => exact ⟨k + 1, by omega, by go_num, by rw [HDV.out]; go_num⟩
      case measure => simp [intOf]; omega
    · have hfull : s.data.toList.take k = s.data.toList := List.take_of_length_le (by simp; omega)
      rw [hfull]
      clear hfull
      obtain ⟨n, hn⟩ : ∃ n, n = decV s.data.toList := ⟨_, rfl⟩
      rw [← hn]
      have HN := Lib.hid hn
      clear hn
      have hp1 : decide ((0 : Int) < s.size) = true := by simp; omega
      go_wp2
      refine bodyPost_ret (v := .tuple #[.int .u64 n, .bool true]) (by simp [results, Tryz.results114, go_sem]) rfl ⟨by rw [HN.out], Below.refl _ _⟩

end Go.Proofs.YtciaahpocaejhaaGreatDoor
