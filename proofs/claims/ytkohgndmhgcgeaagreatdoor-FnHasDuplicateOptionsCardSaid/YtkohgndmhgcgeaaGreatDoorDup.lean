/- edit.HasDuplicateOptions over a file of the package's. -/
import Derived.Test.YtkohgndmhgcgeaaGreatDoorUn0
namespace Go.Proofs.YtkohgndmhgcgeaaGreatDoor
open Go Go.RowKit
set_option linter.unusedVariables false
set_option linter.unusedSimpArgs false

/-- An option's statement that sets this name. -/
def hitB (name : ByteArray) (x : Tr) : Bool := x.kind == 12 && (match x.kids with | [a] => a.kind == 10 && (match a.kids with | i :: _ => decide (i.text = name) | [] => false) | _ => false)
theorem hitB_no {name : ByteArray} {a : Tr} (h : a.kind ≠ 10) : hitB name (.mk 12 ⟨#[]⟩ ⟨#[]⟩ 0 [a]) = false := by
  have h2 : (a.kind == 10) = false := beq_eq_false_iff_ne.2 h
  show ((12 : Int) == 12 && (a.kind == 10 && _)) = false
  rw [h2]
  rfl

def hits (name : ByteArray) (l : List Tr) : Nat := (l.filter (hitB name)).length

theorem hits_take (name : ByteArray) (l : List Tr) (j : Nat) (h : j < l.length) : hits name (l.take (j + 1)) = hits name (l.take j) + if hitB name l[j] then 1 else 0 := by
  unfold hits
  rw [List.take_succ_eq_append_getElem h, List.filter_append, List.length_append]
  cases hb : hitB name l[j] <;> simp [hb]
theorem hits_le (name : ByteArray) (l : List Tr) : hits name l ≤ l.length := List.length_filter_le _ _

theorem RowB.slice {w : World} {B : Nat → Prop} {T : TypeId} {xs : List Value} {v : Value} (h : RowB w B T xs v) : ∃ a c, v = .slice a xs.length c := by
  obtain ⟨lo, h1, h2⟩ := h
  exact slice_form h1
theorem RowB.at {w : World} {B : Nat → Prop} {T : TypeId} {xs : List Value} {v : Value} (h : RowB w B T xs v) (hp : 0 < xs.length) : ∃ g c, v = .slice (some ⟨g, 0, none⟩) xs.length c ∧ B g ∧ g < w.heap.size ∧ ∀ i (h : i < xs.length), w.cell? ⟨g, i, none⟩ = some xs[i] := by
  obtain ⟨lo, h1, h2⟩ := h
  obtain ⟨g, c, rfl, k1, k2⟩ := h1.form hp
  refine ⟨g, c, rfl, h2 g rfl, k2, fun i hi => ?_⟩
  have := h1.cells (g := g) rfl i xs[i] (by rw [List.getElem?_eq_getElem hi])
  rwa [add_at, Nat.zero_add] at this

theorem assertOpt_no (k : Int) (hk : stmtB k) (h13 : k ≠ 13) (h12 : k ≠ 12) (r : Nat) (W : World) : (Instr.typeAssert (kv k r) 55 56 true).run Tryz.prog W = .ok (.tuple #[.pointer none, .bool false]) W := by
  have hc : k = 7 ∨ k = 8 ∨ k = 9 ∨ k = 10 ∨ k = 11 ∨ k = 14 ∨ k = 15 := by unfold stmtB at hk; omega
  rcases hc with rfl | rfl | rfl | rfl | rfl | rfl | rfl
  · exact run_assert_other 104 _ 56 _ _ _ Tryz.underlying56 (by decide) (by kernel_rfl) W
  · exact run_assert_other 107 _ 56 _ _ _ Tryz.underlying56 (by decide) (by kernel_rfl) W
  · exact run_assert_other 111 _ 56 _ _ _ Tryz.underlying56 (by decide) (by kernel_rfl) W
  · exact run_assert_other 62 _ 56 _ _ _ Tryz.underlying56 (by decide) (by kernel_rfl) W
  · exact run_assert_other 114 _ 56 _ _ _ Tryz.underlying56 (by decide) (by kernel_rfl) W
  · exact run_assert_other 130 _ 56 _ _ _ Tryz.underlying56 (by decide) (by kernel_rfl) W
  · exact run_assert_other 134 _ 56 _ _ _ Tryz.underlying56 (by decide) (by kernel_rfl) W

theorem assertVar_no (r : Nat) (W : World) : (Instr.typeAssert (kv 11 r) 59 62 true).run Tryz.prog W = .ok (.tuple #[.pointer none, .bool false]) W := run_assert_other 114 _ 62 _ _ _ Tryz.underlying62 (by decide) (by kernel_rfl) W
theorem assertVar_yes (r : Nat) (W : World) : (Instr.typeAssert (kv 10 r) 59 62 true).run Tryz.prog W = .ok (.tuple #[pp r, .bool true]) W := run_assert_same 62 _ _ _ Tryz.underlying62 W
theorem assertOpt_yes (r : Nat) (W : World) : (Instr.typeAssert (kv 12 r) 55 56 true).run Tryz.prog W = .ok (.tuple #[pp r, .bool true]) W := run_assert_same 56 _ _ _ Tryz.underlying56 W

theorem AIn.opt {w : World} {B : Nat → Prop} {x : Tr} {r : Nat} (h : AIn w B x r) (hk : x.kind = 12) (ha : AstT x) : ∃ a0 r0, x = (.mk 12 ⟨#[]⟩ ⟨#[]⟩ 0 [a0]) ∧ (a0.kind = 10 ∨ a0.kind = 11) ∧ B r ∧ w.heap[r]? = some (.cells #[.pointer none, nilS, nilS, kv a0.kind r0] 61 (0, 0)) ∧ AIn w B a0 r0 ∧ AstT a0 := by
  cases h with
  | k12 a0 r0 h0 r hr row =>
    cases ha with
    | k12 a0 q0 c0 => exact ⟨a0, r0, rfl, c0, hr, row, h0, q0⟩
  | _ => exact absurd hk (by simp [Tr.kind])

theorem AIn.var {w : World} {B : Nat → Prop} {x : Tr} {r : Nat} (h : AIn w B x r) (hk : x.kind = 10) (ha : AstT x) : ∃ t r0 a1 r1, x = .mk 10 ⟨#[]⟩ ⟨#[]⟩ 0 [.mk 33 t ⟨#[]⟩ 0 [], a1] ∧ B r ∧ w.heap[r]? = some (.cells #[.pointer none, nilS, nilS, pp r0, kv a1.kind r1] 70 (0, 0)) ∧ B r0 ∧ w.heap[r0]? = some (.cells #[.pointer none, nilS, nilS, .string t] 65 (0, 0)) ∧ AIn w B a1 r1 ∧ AstT a1 := by
  cases h with
  | k10 a0 r0 h0 a1 r1 h1 r hr row =>
    cases ha with
    | k10 a0 q0 c0 a1 q1 c1 =>
      cases h0 with
      | k33 t r0 hr0 row0 => exact ⟨t, r0, a1, r1, rfl, hr, row, hr0, row0, h1, q1⟩
      | _ => exact absurd c0 (by simp [Tr.kind])
  | _ => exact absurd hk (by simp [Tr.kind])

set_option maxHeartbeats 8000000 in
set_option maxRecDepth 100000 in
theorem editDup_any {t m name : ByteArray} {a0 : Tr} {l1 l2 : List Tr} {B : Nat → Prop} {r : Nat} {w : World} (h : AIn w B (.mk 3 t m 0 [a0, .mk 1 ⟨#[]⟩ ⟨#[]⟩ 0 l1, .mk 1 ⟨#[]⟩ ⟨#[]⟩ 0 l2]) r) (hB : ∀ b, B b → b < w.heap.size) (ha : ∀ x ∈ l2, AstT x) (hk : ∀ x ∈ l2, stmtB x.kind ∧ x.kind ≠ 13) (hlen : l2.length ≤ 1000) :
    Calls Tryz.prog 13 #[pp r, .string name] w fun e w' => e = .returned (.bool (decide (1 < hits name l2))) ∧ Below w.heap.size w w' := by
  cases h with
  | k3 t m a0 r0 h0 l1 s1 e1 v1 w1 h1 l2 s2 e2 v2 w2 h2 r hr row =>
    have hzl : (List.zipWith (fun (x : Tr) r => kv x.kind r) l2 s2).length = l2.length := by rw [List.length_zipWith, e2, Nat.min_self]
    obtain ⟨av, cv, rfl⟩ := w2.slice
    rw [hzl] at w2 row
    have HROW : Hid (0 < l2.length → ∃ g, av = some ⟨g, 0, none⟩ ∧ g < w.heap.size ∧ ∀ i (h : i < l2.length) (h2 : i < s2.length), w.cell? ⟨g, i, none⟩ = some (kv l2[i].kind s2[i])) := Lib.hid fun hp => by
      obtain ⟨g, c, e, k1, k2, k3⟩ := w2.at (by rw [hzl]; exact hp)
      refine ⟨g, by injection e, k2, fun i hi hi2 => ?_⟩
      have := k3 i (by rw [hzl]; exact hi)
      rw [this, List.getElem_zipWith]
    have c5 : w.cell? ⟨r, 7, none⟩ = some (.slice av l2.length cv) := by rw [Lib.cell_of_heap row]; rfl
    have HK := Lib.hid h2
    have HA := Lib.hid ha
    have HKD := Lib.hid hk
    have HBB := Lib.hid hB
    have HT : Hid (hits name (l2.take l2.length) = hits name l2) := Lib.hid (by rw [List.take_length])
    have HE2 := Lib.hid e2
    clear h0 h1 h2 w1 w2 row ha hk hB e1 hr hzl
    go_enter Tryz.func13, Tryz.ntmps13
    go_wp2
    go_loopw [5, 18] (fun n i wr => ∃ j : Nat, j ≤ l2.length ∧ i = .int .i64 j ∧ n = .int .i64 (hits name (l2.take j) : Nat) ∧ Hid (Below w.heap.size w wr)) (fun _ i _ => l2.length - (intOf i).toNat)
    case atStart => exact ⟨0, Nat.zero_le _, rfl, rfl, Lib.hid (Below.refl _ _)⟩
    case round =>
      obtain ⟨j, hj, rfl, rfl, HW⟩ := hrel
      by_cases hlt : j < l2.length
      · obtain ⟨g, rfl, hg, hcell⟩ := HROW.out (by omega)
        have d0 := (HW.out.cell (p := ⟨g, j, none⟩) hg).trans (hcell j hlt (by rw [HE2.out]; exact hlt))
        have HX := Lib.hid (HK.out j hlt (by rw [HE2.out]; exact hlt))
        have HAX := Lib.hid (HA.out _ (List.getElem_mem hlt))
        have HKX := Lib.hid (HKD.out _ (List.getElem_mem hlt))
        have HHT := Lib.hid (hits_take name l2 j hlt)
        have HHL : Hid (hits name (l2.take j) ≤ 1000) := Lib.hid (Nat.le_trans (hits_le name _) (by rw [List.length_take]; omega))
        clear hcell
        generalize l2[j] = x at *
        generalize s2[j]'(by rw [HE2.out]; exact hlt) = rx at *
        generalize hits name (l2.take j) = nj at *
        have hi1 : (j : Int) < l2.length := by omega
        by_cases h12 : x.kind = 12
        · obtain ⟨a0, r0, rfl, hk0, hrx, row, hA0, hT0⟩ := HX.out.opt h12 HAX.out
          have q1 := assertOpt_yes rx
          have e0 : wr.cell? ⟨rx, 3, none⟩ = some (kv a0.kind r0) := by rw [HW.out.cell (p := ⟨rx, 3, none⟩) (HBB.out _ hrx), Lib.cell_of_heap row]; rfl
          by_cases h10 : a0.kind = 10
          · obtain ⟨tn, ri, a1, r1, rfl, hr0, row0, hri, rowi, _, _⟩ := hA0.var h10 hT0
            have q2 := assertVar_yes r0
            have f0 : wr.cell? ⟨r0, 3, none⟩ = some (pp ri) := by rw [HW.out.cell (p := ⟨r0, 3, none⟩) (HBB.out _ hr0), Lib.cell_of_heap row0]; rfl
            have f1 : wr.cell? ⟨ri, 3, none⟩ = some (.string tn) := by rw [HW.out.cell (p := ⟨ri, 3, none⟩) (HBB.out _ hri), Lib.cell_of_heap rowi]; rfl
            clear row row0 rowi hA0 hT0 hrx hr0 hri HX HAX HKX
            have hw1 : IntKind.i64.wrap ((nj : Int) + 1) = ((nj + 1 : Nat) : Int) := by have := HHL.out; rw [IntKind.wrap_i64]; omega
            by_cases hn : tn = name
            · subst hn
              have HJ1 : Hid (hits tn (l2.take (j + 1)) = nj + 1) := Lib.hid <| by have := HHT.out; simpa [hitB, Tr.kind, Tr.kids, Tr.text] using this
              go_wp2
              go_roundw
              case rel => exact ⟨j + 1, by omega, by go_num, by rw [HJ1.out]; go_num, HW⟩
              case measure => simp [intOf]; omega
            · have HJ1 : Hid (hits name (l2.take (j + 1)) = nj) := Lib.hid <| by have := HHT.out; simpa [hitB, Tr.kind, Tr.kids, Tr.text, hn] using this
              have hne := text_ne hn
              go_wp2
              go_roundw
              case rel => exact ⟨j + 1, by omega, by go_num, by rw [HJ1.out], HW⟩
              case measure => simp [intOf]; omega
          · have h11 : a0.kind = 11 := by omega
            have HJ1 : Hid (hits name (l2.take (j + 1)) = nj) := Lib.hid <| by rw [HHT.out, hitB_no h10]; rfl
            have q2 := assertVar_no r0
            rw [h11] at e0
            clear row hA0 hT0 hrx HX HAX HKX
            go_wp2
            go_roundw
            case rel => exact ⟨j + 1, by omega, by go_num, by rw [HJ1.out], HW⟩
            case measure => simp [intOf]; omega
        · have q1 := assertOpt_no x.kind HKX.out.1 HKX.out.2 h12 rx
          have HJ1 : Hid (hits name (l2.take (j + 1)) = nj) := Lib.hid <| by have := HHT.out; simpa [hitB, h12] using this
          generalize x.kind = kx at *
          go_wp2
          go_roundw
          case rel => exact ⟨j + 1, by omega, by go_num, by rw [HJ1.out], HW⟩
          case measure => simp [intOf]; omega
      · have hje : j = l2.length := by omega
        subst hje
        rw [HT.out]
        have HHL : Hid (hits name l2 ≤ 1000) := Lib.hid (Nat.le_trans (hits_le name _) hlen)
        by_cases h1 : 1 < hits name l2
        · have h1i : ((1 : Int) < (hits name l2 : Nat)) := by omega
          go_wp2
          go_ret
          exact ⟨by rw [decide_eq_true h1]; rfl, HW.out⟩
        · have h1i : ¬ ((1 : Int) < (hits name l2 : Nat)) := by omega
          go_wp2
          go_ret
          exact ⟨by first | rfl | (rw [decide_eq_false h1]; rfl), HW.out⟩

end Go.Proofs.YtkohgndmhgcgeaaGreatDoor
