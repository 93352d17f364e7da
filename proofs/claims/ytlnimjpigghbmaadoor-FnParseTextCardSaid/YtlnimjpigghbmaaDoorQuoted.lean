/- laws.quoted: what it gives. -/
import Derived.Test.YtlnimjpigghbmaaDoorQuote
import Derived.Test.YtlnimjpigghbmaaDoorRows
import Derived.WalkKit
import Derived.WalkLawsBesides
import Derived.Outline
import Derived.BigCall
import Derived.Lib.Hide
import Derived.Laws.IdiomStrings
import Derived.Laws.Strings2
import Derived.LoopTactic
import Derived.RegionTactic
import Derived.ChangeAlike
import Derived.BigRegion
namespace Go.Proofs.YtlnimjpigghbmaaDoor
open Go Go.RowKit

theorem byteZ (c : UInt8) (n : Nat) (hn : n < 256) (h : (c.toNat : Int) = n) : c = UInt8.ofNat n := by
  apply UInt8.toNat_inj.1
  rw [UInt8.toNat_ofNat']
  omega

theorem qb_hex (e : Bool) (c : UInt8) (h1 : ((c.toNat : Int) == 34) = false) (h2 : ((c.toNat : Int) == 92) = false) (h3 : ((c.toNat : Int) == 10) = false) (h4 : ((c.toNat : Int) == 13) = false) (h5 : ((c.toNat : Int) == 9) = false)
    (h : ((c.toNat : Int) < 128 ∧ e = true) ∨ (c.toNat : Int) = 36) : qb e c = [92, 120, hexB (c.toNat / 16), hexB (c.toNat % 16)] := by
  simp only [beq_eq_false_iff_ne, ne_eq] at h1 h2 h3 h4 h5
  unfold qb
  rw [if_neg (by rintro (rfl | rfl) <;> simp at h1 h2), if_neg (by rintro rfl; simp at h3), if_neg (by rintro rfl; simp at h4), if_neg (by rintro rfl; simp at h5), if_pos]
  rcases h with ⟨h, h'⟩ | h
  · exact .inl ⟨by omega, h'⟩
  · exact .inr (byteZ c 36 (by decide) h)

theorem qb_other (e : Bool) (c : UInt8) (h1 : ((c.toNat : Int) == 34) = false) (h2 : ((c.toNat : Int) == 92) = false) (h3 : ((c.toNat : Int) == 10) = false) (h4 : ((c.toNat : Int) == 13) = false) (h5 : ((c.toNat : Int) == 9) = false)
    (h6 : ((c.toNat : Int) == 36) = false) (h : ¬ (c.toNat : Int) < 128 ∨ e = false) : qb e c = [c] := by
  simp only [beq_eq_false_iff_ne, ne_eq] at h1 h2 h3 h4 h5 h6
  unfold qb
  rw [if_neg (by rintro (rfl | rfl) <;> simp at h1 h2), if_neg (by rintro rfl; simp at h3), if_neg (by rintro rfl; simp at h4), if_neg (by rintro rfl; simp at h5), if_neg]
  rintro (⟨h7, rfl⟩ | rfl)
  · rcases h with h | h
    · exact h (by omega)
    · cases h
  · simp at h6

theorem take_more (s : ByteArray) (k : Nat) (h : k < s.size) : s.data.toList.take (k + 1) = s.data.toList.take k ++ [s[k]] := by
  have h' : k < s.data.toList.length := by simpa using h
  rw [List.take_succ_eq_append_getElem h']
  rfl

theorem extract_one (s : ByteArray) (k : Nat) (h : k < s.size) : (s.extract k (k + 1)).data.toList = [s[k]] := by
  have h' : k < s.data.toList.length := by simpa using h
  rw [ByteArray.data_extract, Array.toList_extract, List.extract_eq_take_drop, Nat.add_sub_cancel_left, List.drop_eq_getElem_cons h']
  rfl

theorem hexS_at : ∀ n : Fin 16, (⟨#[48, 49, 50, 51, 52, 53, 54, 55, 56, 57, 97, 98, 99, 100, 101, 102]⟩ : ByteArray)[n.val]'(n.isLt) = hexB n.val := by decide

set_option maxHeartbeats 4000000 in
set_option maxRecDepth 100000 in
theorem quoted_any (s : ByteArray) (e : Bool) (hs : s.size ≤ 300) (w : World) :
    Calls Tryd.prog 13 #[.string s, .bool e] w fun r w' => r = .returned (.string ⟨(qL e s.data.toList).toArray⟩) ∧ Below w.heap.size w w' := by
  go_enter Tryd.func13, Tryd.ntmps13
  go_wp2
  go_loopw [5, 6] (fun o i wr => ∃ (k : Nat) (out : ByteArray), k ≤ s.size ∧ o = .string out ∧ i = .int .i64 k ∧ Hid (out.data.toList = qL e (s.data.toList.take k)) ∧ Below w.heap.size w wr) (fun _ i _ => s.size - (intOf i).toNat)
  case atStart => exact ⟨0, _, Nat.zero_le _, rfl, rfl, Lib.hid rfl, Below.refl _ _⟩
  case round =>
    obtain ⟨k, out, hk, rfl, rfl, hd, hb⟩ := hrel
    by_cases hlt : k < s.size
    · have hol : out.size ≤ 1200 := by
        have h1 := congrArg List.length hd.out
        have h2 := qL_le e (s.data.toList.take k)
        have h3 : (s.data.toList.take k).length ≤ k := by rw [List.length_take]; omega
        have h4 : out.data.toList.length = out.size := by simp
        omega
      have hn2 : ¬ 9223372036854775807 < out.size + 2 := by omega
      have hn1 : ¬ 9223372036854775807 < out.size + 1 := by omega
      have hn4 : ¬ 9223372036854775807 < out.size + 4 := by omega
      have hk1 : (k : Int) + 1 ≤ s.size := by omega
      have hex1 := extract_one s k hlt
      have hexs : (s.extract k (k + 1)).size = 1 := by
        have := congrArg List.length hex1
        simp at this ⊢
        omega
      have hend : ∀ x : ByteArray, x.data.toList = qb e s[k] → Hid ((out ++ x).data.toList = qL e (s.data.toList.take (k + 1))) := fun x hx => by
        have h1 := hd.out
        apply Lib.hid
        rw [take_more s k hlt, qL_append, qL_cons, qL_nil, List.append_nil, ← hx]
        simp [h1]
      have HE := Lib.hid hend
      clear hend
      have hsl0 := run_slice_string (P := Tryd.prog) wr 9 s .i64 .i64 (k : Int) ((k : Int) + 1) Tryd.underlying9 (by omega) (by omega) hk1
      have hsl : (Instr.slice 9 (.string s) (some (.int .i64 (k : Int))) (some (.int .i64 ((k : Int) + 1))) none).run Tryd.prog wr = .ok (.string (s.extract k (k + 1))) wr := hsl0
      clear hsl0
      generalize s.extract k (k + 1) = x at hsl hex1 hexs
      have hn5 : ¬ 9223372036854775807 < 1 + x.size := by omega
      have hn6 : ¬ 9223372036854775807 < out.size + (1 + x.size) := by omega
      have hn7 : ¬ 9223372036854775807 < out.size + x.size := by omega
      have HX := Lib.hid hex1
      clear hex1
      by_cases c34 : (s[k].toNat : Int) = 34
      · have e1 := byteZ _ _ (by decide) c34
        go_wp2
        go_roundw
        case rel => exact ⟨k + 1, _, by omega, rfl, by go_num, HE.out _ (by rw [e1]; simp [HX.out, e1]; rfl), hb⟩
        case measure => simp [intOf]; omega
      have f34 : ((s[k].toNat : Int) == 34) = false := by simpa using c34
      clear c34
      by_cases c92 : (s[k].toNat : Int) = 92
      · have e1 := byteZ _ _ (by decide) c92
        go_wp2
        go_roundw
        case rel => exact ⟨k + 1, _, by omega, rfl, by go_num, HE.out _ (by rw [e1]; simp [HX.out, e1]; rfl), hb⟩
        case measure => simp [intOf]; omega
      have f92 : ((s[k].toNat : Int) == 92) = false := by simpa using c92
      clear c92
      by_cases c10 : (s[k].toNat : Int) = 10
      · have e1 := byteZ _ _ (by decide) c10
        go_wp2
        go_roundw
        case rel => exact ⟨k + 1, _, by omega, rfl, by go_num, HE.out _ (by rw [e1]; rfl), hb⟩
        case measure => simp [intOf]; omega
      have f10 : ((s[k].toNat : Int) == 10) = false := by simpa using c10
      clear c10
      by_cases c13 : (s[k].toNat : Int) = 13
      · have e1 := byteZ _ _ (by decide) c13
        go_wp2
        go_roundw
        case rel => exact ⟨k + 1, _, by omega, rfl, by go_num, HE.out _ (by rw [e1]; rfl), hb⟩
        case measure => simp [intOf]; omega
      have f13 : ((s[k].toNat : Int) == 13) = false := by simpa using c13
      clear c13
      by_cases c9 : (s[k].toNat : Int) = 9
      · have e1 := byteZ _ _ (by decide) c9
        go_wp2
        go_roundw
        case rel => exact ⟨k + 1, _, by omega, rfl, by go_num, HE.out _ (by rw [e1]; rfl), hb⟩
        case measure => simp [intOf]; omega
      have f9 : ((s[k].toNat : Int) == 9) = false := by simpa using c9
      clear c9
      by_cases hh : ((s[k].toNat : Int) < 128 ∧ e = true) ∨ (s[k].toNat : Int) = 36
      · have hqb := qb_hex e _ f34 f92 f10 f13 f9 hh
        have g1 : (0 : Int) ≤ (s[k].toNat : Int) / 16 := by omega
        have g2 : (s[k].toNat : Int) / 16 < 16 := by have := s[k].toNat_lt; omega
        have g3 : (0 : Int) ≤ (s[k].toNat : Int) % 16 := by omega
        have g4 : (s[k].toNat : Int) % 16 < 16 := by omega
        have g5 : (0 : Int) ≤ (s[k].toNat : Int) / 16 ∧ (s[k].toNat : Int) / 16 < 16 := ⟨g1, g2⟩
        have g6 : (0 : Int) ≤ (s[k].toNat : Int) % 16 ∧ (s[k].toNat : Int) % 16 < 16 := ⟨g3, g4⟩
        have b1 : s[k].toNat / 16 < 16 := by omega
        have b2 : s[k].toNat % 16 < 16 := by omega
        have v1 : (⟨#[48, 49, 50, 51, 52, 53, 54, 55, 56, 57, 97, 98, 99, 100, 101, 102]⟩ : ByteArray)[s[k].toNat / 16]'b1 = hexB (s[k].toNat / 16) := hexS_at ⟨_, b1⟩
        have v2 : (⟨#[48, 49, 50, 51, 52, 53, 54, 55, 56, 57, 97, 98, 99, 100, 101, 102]⟩ : ByteArray)[s[k].toNat % 16]'b2 = hexB (s[k].toNat % 16) := hexS_at ⟨_, b2⟩
        have hcv : ∀ W : World, W.cell? ⟨wr.heap.size, 0, none⟩ = some (.int .u8 (hexB (s[k].toNat / 16)).toNat) → W.cell? ⟨wr.heap.size, 1, none⟩ = some (.int .u8 (hexB (s[k].toNat % 16)).toNat) → (convert 46 9 (.slice (some ⟨wr.heap.size, 0, none⟩) 2 2)).run Tryd.prog W = .ok (.string ⟨#[hexB (s[k].toNat / 16), hexB (s[k].toNat % 16)]⟩) W := fun W k0 k1 =>
          run_convert_bytes_back (P := Tryd.prog) W 46 9 5 ⟨wr.heap.size, 0, none⟩ 2 [hexB (s[k].toNat / 16), hexB (s[k].toNat % 16)] Tryd.underlying46 Tryd.underlying5 Tryd.underlying9 (fun j hj => by
            match j, hj with
            | 0, _ => exact k0
            | 1, _ => exact k1)
        have hcv1 := hcv ((wr.alloc (.cells #[.int .u8 (hexB (s[k].toNat / 16)).toNat, .int .u8 (hexB (s[k].toNat % 16)).toNat] 5)).drew) (by rw [World.cell?_drew, World.cell?_alloc_at _ _ _ _ rfl]; rfl) (by rw [World.cell?_drew, World.cell?_alloc_at _ _ _ _ rfl]; rfl)
        clear hcv
        cases e with
        | true =>
          go_wp2
          go_region
          go_wp2
          go_roundw
          case rel => exact ⟨k + 1, _, by omega, rfl, by go_num, HE.out _ (by rw [hqb]; rfl), Below.drew (hb.alloc hb.size _)⟩
          case measure => simp [intOf]; omega
        | false =>
          have hh0 : (s[k].toNat : Int) = 36 := by
            rcases hh with ⟨_, h⟩ | h
            · cases h
            · exact h
          have hh1 : (s[k].toNat : Int) < 128 := by omega
          have hh' : ((s[k].toNat : Int) == 36) = true := by simpa using hh0
          clear hh hh0
          go_wp2
          go_region
          go_wp2
          go_roundw
          case rel => exact ⟨k + 1, _, by omega, rfl, by go_num, HE.out _ (by rw [hqb]; rfl), Below.drew (hb.alloc hb.size _)⟩
          case measure => simp [intOf]; omega
      · have hqb := qb_other e _ f34 f92 f10 f13 f9 (by simp at hh ⊢; exact fun h => hh.2 h) (by
          cases e
          · right; rfl
          · left; intro h; exact hh (.inl ⟨h, rfl⟩))
        have f36 : ((s[k].toNat : Int) == 36) = false := by simp at hh ⊢; exact fun h => hh.2 h
        cases e with
        | false =>
          go_wp2
          all_goals (
            go_roundw
            case rel => exact ⟨k + 1, _, by omega, rfl, by go_num, HE.out _ (by rw [HX.out, hqb]), hb⟩
            case measure => simp [intOf]; omega)
        | true =>
          have hge : ¬ (s[k].toNat : Int) < 128 := fun h => hh (.inl ⟨h, rfl⟩)
          go_wp2
          go_roundw
          case rel => exact ⟨k + 1, _, by omega, rfl, by go_num, HE.out _ (by rw [HX.out, hqb]), hb⟩
          case measure => simp [intOf]; omega
    · have hke : k = s.size := by omega
      subst hke
      have hall : s.data.toList.take s.size = s.data.toList := List.take_of_length_le (by simp)
      go_wp2
      go_ret
      refine ⟨?_, hb⟩
      have h1 := hd.out
      rw [hall] at h1
      rw [← h1]
      rfl
end Go.Proofs.YtlnimjpigghbmaaDoor
