/- spec's lexer: digits, units, numbers with units. -/
import Derived.Test.YtciaahpocaejhaaGreatDoorText
import Derived.Test.YtciaahpocaejhaaGreatDoorFew
namespace Go.Proofs.YtciaahpocaejhaaGreatDoor
open Go Go.RowKit
set_option linter.unusedVariables false
set_option linter.unusedSimpArgs false

/-- n digits stand at p, and no more. -/
def DigitsAt (s : ByteArray) (p n : Nat) : Prop := p + n ≤ s.size ∧ (∀ j (h : j < s.size), p ≤ j → j < p + n → 48 ≤ s[j].toNat ∧ s[j].toNat ≤ 57) ∧ ∀ h : p + n < s.size, ¬ (48 ≤ (s[p + n]'h).toNat ∧ (s[p + n]'h).toNat ≤ 57)

theorem digit_at (b i : Nat) (s : ByteArray) (p n : Nat) (hd : DigitsAt s p n) (hi : p ≤ i ∧ i ≤ p + n) (w : World) (c0 : w.cell? ⟨b, 0, none⟩ = some (.string s)) :
    Calls Tryz.prog 84 #[.pointer (some ⟨b, 0, none⟩), .int .i64 i] w fun e w' => e = .returned (.bool (decide (i < p + n))) ∧ w' = w := by
  obtain ⟨h1, h2, h3⟩ := hd
  by_cases hlt : i < p + n
  · have h := digit_any b i s w c0 (by omega)
    have e : decide (48 ≤ s[i].toNat ∧ s[i].toNat ≤ 57) = decide (i < p + n) := by
      rw [decide_eq_true (h2 i (by omega) hi.1 hlt), decide_eq_true hlt]
    rwa [e] at h
  · have hi2 : i = p + n := by omega
    rw [decide_eq_false hlt]
    rcases Nat.lt_or_ge i s.size with hs | hs
    · have h := digit_any b i s w c0 hs
      subst hi2
      rwa [decide_eq_false (h3 hs)] at h
    · exact digit_end b i s w c0 hs

/-- Block b begins with a lexer of the text s at place p; behind it stands r. -/
def LxAt (b : Nat) (s : ByteArray) (p : Nat) (r : List Value) (T : TypeId) (w : World) : Prop := w.heap[b]? = some (.cells (.string s :: .int .i64 p :: r).toArray T (0, 0))
def rdRest (k : Int) (t : ByteArray) (d : Int) : List Value := [.int .i64 k, .string t, .bool false, .int .i64 d]
theorem RdAt.lx {b p : Nat} {s t : ByteArray} {k d : Int} {w : World} (h : RdAt b s p k t d w) : LxAt b s p (rdRest k t d) 63 w := h
theorem LxAt.rd {b p : Nat} {s t : ByteArray} {k d : Int} {w : World} (h : LxAt b s p (rdRest k t d) 63 w) : RdAt b s p k t d w := h
section
variable {b p : Nat} {s : ByteArray} {r : List Value} {T : TypeId} {w : World}
theorem LxAt.lt (h : LxAt b s p r T w) : b < w.heap.size := (Array.getElem?_eq_some_iff.1 h).1
theorem LxAt.below {w' : World} (h : LxAt b s p r T w) (hb : Below w.heap.size w w') : LxAt b s p r T w' := (hb.block b h.lt).trans h
theorem LxAt.drew (h : LxAt b s p r T w) : LxAt b s p r T w.drew := h
theorem LxAt.alloc (h : LxAt b s p r T w) (o : Obj) : LxAt b s p r T (w.alloc o) := h.below ((Below.refl _ w).alloc (Nat.le_refl _) _)
theorem LxAt.c0 (h : LxAt b s p r T w) : w.cell? ⟨b, 0, none⟩ = some (.string s) := by rw [Lib.cell_of_heap h]; rfl
theorem LxAt.c1 (h : LxAt b s p r T w) : w.cell? ⟨b, 1, none⟩ = some (.int .i64 p) := by rw [Lib.cell_of_heap h]; rfl
theorem LxAt.fz (h : LxAt b s p r T w) (i : Nat) : w.frozen? ⟨b, i, none⟩ = false := Lib.frozen_of_heap h i
theorem LxAt.put1 (h : LxAt b s p r T w) (p' : Nat) : LxAt b s p' r T (w.setCell ⟨b, 1, none⟩ (.int .i64 p')) := by
  have h2 := row_set (g := b) h 1 (.int .i64 p')
  unfold LxAt
  rw [h2]
  rfl
end

set_option maxHeartbeats 4000000 in
set_option maxRecDepth 100000 in
theorem digits_lx (b p n : Nat) (s : ByteArray) (r : List Value) (T : TypeId) (hsz : s.size ≤ 10000) (hd : DigitsAt s p n) (w : World) (h : LxAt b s p r T w) :
    Calls Tryz.prog 110 #[.pointer (some ⟨b, 0, none⟩)] w fun e w' => e = .returned (.int .i64 n) ∧ LxAt b s (p + n) r T w' ∧ w.grownBy w' (some b) := by
  have H := Lib.hid h
  have HD := Lib.hid hd
  have hpn := hd.1
  clear h hd
  go_enter Tryz.func110, Tryz.ntmps110
  go_wp2
  go_loopw [3] (fun i wr => ∃ j : Nat, j ≤ n ∧ i = .int .i64 j ∧ Hid (LxAt b s (p + j) r T wr) ∧ Hid (w.grownBy wr (some b))) (fun i _ => n - (intOf i).toNat)
  case atStart => exact ⟨0, Nat.zero_le _, rfl, H, Lib.hid (World.grownBy.refl w _)⟩
  case round =>
    obtain ⟨j, hj, rfl, hr, hg⟩ := hrel
    obtain ⟨q, hq⟩ : ∃ q, q = p + j := ⟨_, rfl⟩
    rw [← hq] at hr
    have HQ := Lib.hid hq
    have c0 := hr.out.c0
    have c1 := hr.out.c1
    have f1 := hr.out.fz 1
    have hdg := Lib.hid (digit_at b q s p n HD.out (by omega) wr c0)
    have hqs : q ≤ 10000 := by omega
    by_cases hlt : j < n
    · have hdt : decide (q < p + n) = true := decide_eq_true (by omega)
      rw [hdt] at hdg
      clear hdt hq
      go_wp2_with fail
      ((with_reducible refine hdg.out.mono ?_))
      rintro e w1 ⟨rfl, rfl⟩
      go_wp2
      go_roundw
      case rel =>
        refine ⟨j + 1, hlt, by go_num, Lib.hid ?_, Lib.hid (Lib.grownBy_setB hg.out 1 _)⟩
        have e : p + (j + 1) = q + 1 := by have := HQ.out; omega
        rw [e]
        exact hr.out.put1 (q + 1)
      case measure => simp [intOf]; omega
    · have hdt : decide (q < p + n) = false := decide_eq_false (by omega)
      rw [hdt] at hdg
      have hjn : j = n := by omega
      subst hjn
      clear hdt hq
      go_wp2_with fail
      ((with_reducible refine hdg.out.mono ?_))
      rintro e w1 ⟨rfl, rfl⟩
      go_wp2
      go_ret
      exact ⟨rfl, by rw [← HQ.out]; exact hr.out, hg.out⟩

theorem digits_any (b p n : Nat) (s t : ByteArray) (k d : Int) (hsz : s.size ≤ 10000) (hd : DigitsAt s p n) (w : World) (h : RdAt b s p k t d w) :
    Calls Tryz.prog 110 #[.pointer (some ⟨b, 0, none⟩)] w fun e w' => e = .returned (.int .i64 n) ∧ RdAt b s (p + n) k t d w' ∧ w.grownBy w' (some b) :=
  digits_lx b p n s _ _ hsz hd w h.lx

/-- The units, as the lexer asks for them. -/
def unitL : List (List UInt8) := [[109, 111], [109, 115], [117, 115], [194, 181, 115], [110, 115], [121], [119], [100], [104], [109], [115]]

def UnitsAt (g : Nat) (w : World) : Prop := w.heap[g]? = some (.cells #[.string ⟨#[109, 111]⟩, .string ⟨#[109, 115]⟩, .string ⟨#[117, 115]⟩, .string ⟨#[194, 181, 115]⟩, .string ⟨#[110, 115]⟩, .string ⟨#[121]⟩, .string ⟨#[119]⟩, .string ⟨#[100]⟩, .string ⟨#[104]⟩, .string ⟨#[109]⟩, .string ⟨#[115]⟩] 9 (0, 0))

theorem UnitsAt.cell {g : Nat} {w : World} (h : UnitsAt g w) (j : Nat) (hj : j < 11) : w.cell? ⟨g, j, none⟩ = some (.string ⟨(unitL.getD j []).toArray⟩) := by
  rw [Lib.cell_of_heap h]
  match j, hj with
  | 0, _ => rfl
  | 1, _ => rfl
  | 2, _ => rfl
  | 3, _ => rfl
  | 4, _ => rfl
  | 5, _ => rfl
  | 6, _ => rfl
  | 7, _ => rfl
  | 8, _ => rfl
  | 9, _ => rfl
  | 10, _ => rfl

def UnitsPost (w : World) (e : Ending) (w' : World) : Prop := ∃ g : Nat, e = .returned (.slice (some ⟨g, 0, none⟩) 11 11) ∧ UnitsAt g w' ∧ Below w.heap.size w w' ∧ w.heap.size ≤ g

set_option maxRecDepth 100000 in
theorem units_any (w : World) : Calls Tryz.prog 132 #[] w (UnitsPost w) := by
  go_enter Tryz.func132, Tryz.ntmps132
  go_wp2
  go_ret
  exact ⟨w.heap.size, rfl, heap_alloc_new w _, (Below.refl _ w).alloc (Nat.le_refl _) _, Nat.le_refl _⟩

/-- A text stands at p. -/
def BeginsAt (s : ByteArray) (p : Nat) (c : List UInt8) : Prop := p + c.length ≤ s.size ∧ (s.data.toList.drop p).take c.length = c

theorem extract_begin (s : ByteArray) (p : Nat) (c : ByteArray) (hc : p + c.size ≤ s.size) : (s.extract p (p + c.size)).toList = (s.data.toList.drop p).take c.data.toList.length := by
  rw [ByteArray.toList_eq, ByteArray.data_extract, Array.toList_extract, List.extract_eq_take_drop, show p + c.size - p = c.size by omega]
  rfl

set_option maxHeartbeats 4000000 in
set_option maxRecDepth 100000 in
theorem unit_lx (b p i : Nat) (s : ByteArray) (r : List Value) (T : TypeId) (hsz : s.size ≤ 10000) (hp : p ≤ s.size) (hi : i < 11) (hu : BeginsAt s p (unitL.getD i [])) (hn : ∀ j, j < i → ¬ BeginsAt s p (unitL.getD j [])) (w : World) (h : LxAt b s p r T w) :
    Calls Tryz.prog 112 #[.pointer (some ⟨b, 0, none⟩)] w fun e w' => e = .returned (.string ⟨(unitL.getD i []).toArray⟩) ∧ Below w.heap.size w w' := by
  have H := Lib.hid h
  have HU := Lib.hid hu
  have HN := Lib.hid hn
  clear h hu hn
  go_enter Tryz.func112, Tryz.ntmps112
  go_wp2_with fail
  ((with_reducible refine (units_any _).mono ?_))
  rintro e w1 ⟨g, rfl, hg, hb1, hge⟩
  have HR := Lib.hid (H.out.below hb1)
  have HG := Lib.hid hg
  have HB := Lib.hid hb1
  clear hg hb1 hge
  go_wp2
  go_loopw [7] (fun x wr => ∃ j : Nat, j ≤ i ∧ x = .int .i64 j ∧ Hid (LxAt b s p r T wr) ∧ Hid (UnitsAt g wr) ∧ Hid (Below w.heap.size w wr)) (fun x _ => i - (intOf x).toNat)
  case atStart => exact ⟨0, Nat.zero_le _, rfl, HR, HG, HB⟩
  case round =>
    obtain ⟨j, hj, rfl, hr, hg, hb⟩ := hrel
    have c0 := hr.out.c0
    have c1 := hr.out.c1
    have hj11 : j < 11 := by omega
    have g0 := hg.out.cell j hj11
    have hlt1 : (j : Int) < 11 := by omega
    have hin : (0 : Int) ≤ j ∧ (j : Int) < 11 := by omega
    have hw1 : IntKind.i64.wrap ((s.size : Int) - p) = (s.size : Int) - p := by rw [IntKind.wrap_i64]; omega
    by_cases hji : j < i
    · have hnb := HN.out j hji
      generalize hc : (⟨(unitL.getD j []).toArray⟩ : ByteArray) = c at *
      have hcl : unitL.getD j [] = c.data.toList := by rw [← hc]
      rw [hcl] at hnb
      have hcs : c.size ≤ 3 := by
        rw [← hc]
        show (unitL.getD j []).toArray.size ≤ 3
        rw [List.size_toArray]
        have : ∀ j, j < 11 → (unitL.getD j []).length ≤ 3 := by decide
        exact this j hj11
      by_cases hfit : p + c.size ≤ s.size
      · have hge2 : (c.size : Int) ≤ (s.size : Int) - p := by omega
        have hex : ((s.extract p (p + c.size)).toList == c.toList) = false := by
          rw [extract_begin s p c hfit, ByteArray.toList_eq c]
          simp
          intro e
          exact hnb ⟨by simpa using hfit, e⟩
        have hsl0 := fun W => run_slice_string (P := Tryz.prog) W 9 s .i64 .i64 (p : Int) ((p : Int) + c.size) Tryz.underlying9 (by omega) (by omega) (by omega)
        have hsl : ∀ W, (Instr.slice 9 (.string s) (some (.int .i64 (p : Int))) (some (.int .i64 ((p : Int) + c.size))) none).run Tryz.prog W = .ok (.string (s.extract p (p + c.size))) W := hsl0
        have hw2 : IntKind.i64.wrap ((p : Int) + c.size) = (p : Int) + c.size := by rw [IntKind.wrap_i64]; omega
        clear hsl0 hnb hcl hc hfit
        generalize s.extract p (p + c.size) = x at hex hsl
        go_wp2
        go_quiet (fail)
        go_wp2
        go_roundw
        case rel => exact ⟨j + 1, by omega, by go_num, hr, hg, Lib.hid (below_drewN hb.out _)⟩
        case measure => simp [intOf]; omega
      · have hge2 : ¬ (c.size : Int) ≤ (s.size : Int) - p := by omega
        have hge3 : decide ((c.size : Int) ≤ (s.size : Int) - p) = false := decide_eq_false hge2
        clear hnb hcl hc hfit
        go_wp2
        go_quiet (fail)
        go_wp2
        go_roundw
        case rel => exact ⟨j + 1, by omega, by go_num, hr, hg, Lib.hid (below_drewN hb.out _)⟩
        case measure => simp [intOf]; omega
    · obtain rfl : j = i := by omega
      have hub := HU.out
      generalize hc : (⟨(unitL.getD j []).toArray⟩ : ByteArray) = c at *
      have hcl : unitL.getD j [] = c.data.toList := by rw [← hc]
      rw [hcl] at hub
      have hcs : c.size ≤ 3 := by
        rw [← hc]
        show (unitL.getD j []).toArray.size ≤ 3
        rw [List.size_toArray]
        have : ∀ j, j < 11 → (unitL.getD j []).length ≤ 3 := by decide
        exact this j hj11
      have hfit : p + c.size ≤ s.size := by simpa using hub.1
      have hge2 : (c.size : Int) ≤ (s.size : Int) - p := by omega
      have hex : ((s.extract p (p + c.size)).toList == c.toList) = true := by
        rw [extract_begin s p c hfit, ByteArray.toList_eq c]
        simpa using hub.2
      have hsl0 := fun W => run_slice_string (P := Tryz.prog) W 9 s .i64 .i64 (p : Int) ((p : Int) + c.size) Tryz.underlying9 (by omega) (by omega) (by omega)
      have hsl : ∀ W, (Instr.slice 9 (.string s) (some (.int .i64 (p : Int))) (some (.int .i64 ((p : Int) + c.size))) none).run Tryz.prog W = .ok (.string (s.extract p (p + c.size))) W := hsl0
      have hw2 : IntKind.i64.wrap ((p : Int) + c.size) = (p : Int) + c.size := by rw [IntKind.wrap_i64]; omega
      have HCC := Lib.hid hc
      clear hsl0 hub hcl hc hfit
      generalize s.extract p (p + c.size) = x at hex hsl
      go_wp2
      go_quiet (fail)
      go_wp2
      go_ret
      exact ⟨by rw [HCC.out]; rfl, below_drewN hb.out _⟩

theorem unit_any (b p i : Nat) (s t : ByteArray) (k d : Int) (hsz : s.size ≤ 10000) (hp : p ≤ s.size) (hi : i < 11) (hu : BeginsAt s p (unitL.getD i [])) (hn : ∀ j, j < i → ¬ BeginsAt s p (unitL.getD j [])) (w : World) (h : RdAt b s p k t d w) :
    Calls Tryz.prog 112 #[.pointer (some ⟨b, 0, none⟩)] w fun e w' => e = .returned (.string ⟨(unitL.getD i []).toArray⟩) ∧ Below w.heap.size w w' :=
  unit_lx b p i s _ _ hsz hp hi hu hn w h.lx

end Go.Proofs.YtciaahpocaejhaaGreatDoor
