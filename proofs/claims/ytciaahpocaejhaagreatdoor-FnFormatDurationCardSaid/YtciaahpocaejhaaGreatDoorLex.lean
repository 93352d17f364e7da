/- spec's lexer: what it passes at the beginning of a literal. -/
import Derived.Test.YtciaahpocaejhaaGreatDoorRead
import Derived.Test.YtciaahpocaejhaaGreatDoorShelf
import Derived.Laws.Strings2
namespace Go.Proofs.YtciaahpocaejhaaGreatDoor
open Go Go.RowKit

set_option maxHeartbeats 2000000 in
set_option maxRecDepth 100000 in
theorem blank_no (b p : Nat) (s t : ByteArray) (k d : Int) (w : World) (h : RdAt b s p k t d w) (hp : p < s.size) (hsz : s.size ≤ 100000)
    (n1 : ((s[p].toNat : Int) == 32) = false) (n2 : ((s[p].toNat : Int) == 10) = false) (n3 : ((s[p].toNat : Int) == 13) = false) (n4 : ((s[p].toNat : Int) == 9) = false)
    (hc : p + 1 < s.size → ((s.extract p (p + 2)).toList == [47, 47]) = false) :
    Calls Tryz.prog 89 #[.pointer (some ⟨b, 0, none⟩)] w fun e w' => e = .returned (.tuple #[]) ∧ Below w.heap.size w w' := by
  have c0 := h.c0
  have c1 := h.c1
  have hlt : (p : Int) < s.size := by omega
  have hge : (0 : Int) ≤ p ∧ (p : Int) < s.size := by omega
  have hw1 : IntKind.i64.wrap ((p : Int) + 1) = (p : Int) + 1 := by rw [IntKind.wrap_i64]; omega
  have hw2 : IntKind.i64.wrap ((p : Int) + 2) = (p : Int) + 2 := by rw [IntKind.wrap_i64]; omega
  clear h
  go_enter Tryz.func89, Tryz.ntmps89
  go_wp2
  refine wp_loop_rounds 1 ?_
  rw [rounds_succ]
  go_wp2
  go_quiet (fail)
  go_wp2
  go_quiet (fail)
  go_wp2
  by_cases h1 : p + 1 < s.size
  · have hcc := hc h1
    have h1' : (p : Int) + 1 < s.size := by omega
    have hsl0 := fun W => run_slice_string (P := Tryz.prog) W 9 s .i64 .i64 (p : Int) ((p : Int) + 2) Tryz.underlying9 (by omega) (by omega) (by omega)
    have hsl : ∀ W, (Instr.slice 9 (.string s) (some (.int .i64 (p : Int))) (some (.int .i64 ((p : Int) + 2))) none).run Tryz.prog W = .ok (.string (s.extract p (p + 2))) W := hsl0
    clear hsl0 hc
    generalize s.extract p (p + 2) = x at hcc hsl
    go_quiet (fail)
    go_wp2
    refine bodyPost_ret (v := .tuple #[]) (by simp [results, Tryz.results89, go_sem]) rfl ⟨rfl, below_drewN (below_drewN (below_drewN (Below.refl _ w) _) _) _⟩
  · have h1' : decide ((p : Int) + 1 < s.size) = false := by simp; omega
    have h1'' : ¬ (p : Int) + 1 < s.size := by omega
    clear hc
    go_quiet (fail)
    go_wp2
    refine bodyPost_ret (v := .tuple #[]) (by simp [results, Tryz.results89, go_sem]) rfl ⟨rfl, below_drewN (Below.refl _ w) _⟩

theorem extract_tail (s : ByteArray) (n : Nat) : (s.extract n s.size).data.toList = s.data.toList.drop n := by
  rw [ByteArray.data_extract, Array.toList_extract, List.extract_eq_take_drop]
  apply List.take_of_length_le
  simp

set_option maxHeartbeats 1000000 in
theorem letter_end (b i : Nat) (s : ByteArray) (w : World) (c0 : w.cell? ⟨b, 0, none⟩ = some (.string s)) (hi : s.size ≤ i) :
    Calls Tryz.prog 83 #[.pointer (some ⟨b, 0, none⟩), .int .i64 i] w fun e w' => e = .returned (.int .i64 0) ∧ w' = w := by
  have h1 : (s.size : Int) ≤ i := by omega
  go_enter Tryz.func83, Tryz.ntmps83
  go_wp2
  go_ret
  exact ⟨rfl, rfl⟩

set_option maxRecDepth 100000 in
set_option maxHeartbeats 1000000 in
theorem letter_no (b i : Nat) (s : ByteArray) (w : World) (c0 : w.cell? ⟨b, 0, none⟩ = some (.string s)) (hi : i < s.size) (hc : s[i].toNat < 65) :
    Calls Tryz.prog 83 #[.pointer (some ⟨b, 0, none⟩), .int .i64 i] w fun e w' => e = .returned (.int .i64 0) ∧ w' = w := by
  have h1 : ¬ (s.size : Int) ≤ i := by omega
  have h2 : (i : Int) ≤ s.size := by omega
  have hget : (s.extract i s.size).data.toList[0]? = some s[i] := by
    rw [extract_tail, List.getElem?_drop, Nat.add_zero]
    have h' : i < s.data.toList.length := by simpa using hi
    rw [List.getElem?_eq_getElem h']
    rfl
  have hD := Tryz.utf8_DecodeRuneInString_ascii (s.extract i s.size) s[i] w hget (by omega)
  have HD := Lib.hid hD
  clear hD hget
  generalize hx : s.extract i s.size = x at HD
  generalize s[i].toNat = c at HD hc
  have n1 : ((c : Int) == 95) = false := by simp; omega
  have n2 : ¬ (97 : Int) ≤ c := by omega
  have n3 : ¬ (65 : Int) ≤ c := by omega
  have n4 : ¬ (128 : Int) ≤ c := by omega
  go_enter Tryz.func83, Tryz.ntmps83
  go_wp2_with fail
  ((with_reducible refine HD.out.mono ?_))
  rintro e w1 ⟨rfl, rfl⟩
  go_wp2
  go_ret
  exact ⟨rfl, rfl⟩

set_option maxHeartbeats 1000000 in
theorem digit_end (b i : Nat) (s : ByteArray) (w : World) (c0 : w.cell? ⟨b, 0, none⟩ = some (.string s)) (hi : s.size ≤ i) :
    Calls Tryz.prog 84 #[.pointer (some ⟨b, 0, none⟩), .int .i64 i] w fun e w' => e = .returned (.bool false) ∧ w' = w := by
  have h1 : ¬ (i : Int) < s.size := by omega
  go_enter Tryz.func84, Tryz.ntmps84
  go_wp2
  go_ret
  exact ⟨rfl, rfl⟩

set_option maxHeartbeats 1000000 in
theorem digit_any (b i : Nat) (s : ByteArray) (w : World) (c0 : w.cell? ⟨b, 0, none⟩ = some (.string s)) (hi : i < s.size) :
    Calls Tryz.prog 84 #[.pointer (some ⟨b, 0, none⟩), .int .i64 i] w fun e w' => e = .returned (.bool (decide (48 ≤ s[i].toNat ∧ s[i].toNat ≤ 57))) ∧ w' = w := by
  have h1 : (i : Int) < s.size := by omega
  have h2 : (0 : Int) ≤ i := by omega
  by_cases n1 : (48 : Int) ≤ (s[i].toNat : Int)
  · by_cases n2 : (s[i].toNat : Int) ≤ 57
    · have hr : decide (48 ≤ s[i].toNat ∧ s[i].toNat ≤ 57) = true := by simp; omega
      rw [hr]
      go_enter Tryz.func84, Tryz.ntmps84
      go_wp2
      go_ret
      exact ⟨rfl, rfl⟩
    · have hr : decide (48 ≤ s[i].toNat ∧ s[i].toNat ≤ 57) = false := by simp; omega
      rw [hr]
      go_enter Tryz.func84, Tryz.ntmps84
      go_wp2
      go_ret
      exact ⟨rfl, rfl⟩
  · have hr : decide (48 ≤ s[i].toNat ∧ s[i].toNat ≤ 57) = false := by simp; omega
    rw [hr]
    go_enter Tryz.func84, Tryz.ntmps84
    go_wp2
    go_ret
    exact ⟨rfl, rfl⟩

end Go.Proofs.YtciaahpocaejhaaGreatDoor
