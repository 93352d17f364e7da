/- laws.digits: the decimal digits of a number. -/
import Derived.Test.YtaaiojhdhefjdaaDoorDec
namespace Go.Proofs.YtaaiojhdhefjdaaDoor
open Go Go.RowKit

set_option maxHeartbeats 2000000 in
set_option maxRecDepth 100000 in
theorem digits_any (u : Nat) (hu : u < 18446744073709551616) (w : World) :
    Calls Tryd.prog 7 #[.int .u64 u] w fun e w' => e = .returned (.string ⟨(Lib.decDigits u).toArray⟩) ∧ Below w.heap.size w w' := by
  have HU := Lib.hid hu
  clear hu
  go_enter Tryd.func7, Tryd.ntmps7
  go_wp2
  go_loopw [0, 3] (fun a o wr => ∃ (c : Nat) (s : ByteArray), a = .int .u64 c ∧ o = .string s ∧ Hid (c < 18446744073709551616 ∧ Lib.decDigits c ++ s.data.toList = Lib.decDigits u) ∧ Below w.heap.size w wr) (fun a _ _ => (intOf a).toNat)
  case atStart => exact ⟨u, _, rfl, rfl, ⟨HU.out, by simp⟩, Below.refl _ _⟩
  case round =>
    obtain ⟨c, s, rfl, rfl, hd, hb⟩ := hrel
    have hk : (wr.alloc (.cells #[.int .u8 (48 + (c : Int) % 10)] 5)).cell? ⟨wr.heap.size, 0, none⟩ = some (.int .u8 ((digitByte c).toNat : Int)) := by
      rw [World.cell?_alloc_at _ _ _ _ rfl, digitByte_nat]; rfl
    have hcv0 := run_convert_bytes_back (P := Tryd.prog) (wr.alloc (.cells #[.int .u8 (48 + (c : Int) % 10)] 5)) 41 9 5 ⟨wr.heap.size, 0, none⟩ 1 [digitByte c] Tryd.underlying41 Tryd.underlying5 Tryd.underlying9 (fun j hj => by
      match j, hj with
      | 0, _ => exact hk)
    clear hk
    have hcv : (convert 41 9 (.slice (some ⟨wr.heap.size, 0, none⟩) 1 1)).run Tryd.prog (wr.alloc (.cells #[.int .u8 (48 + (c : Int) % 10)] 5)) = .ok (.string ⟨#[digitByte c]⟩) (wr.alloc (.cells #[.int .u8 (48 + (c : Int) % 10)] 5)) := hcv0
    clear hcv0
    have h10 : (0 : Int) ≤ (c : Int) % 10 := by omega
    have h11 : (c : Int) % 10 ≤ 9 := by omega
    have hsl : s.size ≤ 20 := by
      have h1 := congrArg List.length hd.out.2
      have h2 := decDigits_20 u HU.out
      simp only [List.length_append] at h1
      have h3 : s.data.toList.length = s.size := by simp
      omega
    have hwr : IntKind.u64.wrap ((c : Int) / 10) = (c : Int) / 10 := IntWalk.u64_in _ (by have := hd.out.1; omega)
    have hstep := decDigits_step c
    have hd1 := hd.out.2
    by_cases hz : c / 10 = 0
    · have hz' : ((c : Int) / 10 == 0) = true := by simp; omega
      rw [if_pos hz, List.nil_append] at hstep
      rw [hstep] at hd1
      have HD := Lib.hid hd1
      clear hstep hd1 hz
      go_wp2
      go_ret
      refine ⟨?_, hb.alloc hb.size _⟩
      rw [bytes_one, HD.out]
      rfl
    · have hz' : ((c : Int) / 10 == 0) = false := by simp; omega
      rw [if_neg hz] at hstep
      rw [hstep, List.append_assoc] at hd1
      have HD := Lib.hid hd1
      have HZ := Lib.hid hz
      clear hstep hd1 hz
      go_wp2
      go_roundw
      case rel =>
        refine ⟨c / 10, _, by go_num, rfl, ⟨?_, ?_⟩, hb.alloc hb.size _⟩
        · have := hd.out.1; omega
        · have e := HD.out
          rw [bytes_one]
          simpa using e
      case measure =>
        have := HZ.out
        simp [intOf]
        omega

end Go.Proofs.YtaaiojhdhefjdaaDoor
