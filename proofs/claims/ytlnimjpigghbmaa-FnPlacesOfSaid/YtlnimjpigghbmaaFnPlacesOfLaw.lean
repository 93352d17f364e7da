/- FnPlacesOf: the walk of the law: at lines that rise and positions from 1 to 2,000 each place told is the one reckoned. -/
import Derived.Test.YtlnimjpigghbmaaFnPlacesOfMany
import Derived.Deep.RegionHeld3
import Derived.Deep.DeepCutAuto
import Derived.ProofKit
import Derived.OpenShut
namespace Go.Proofs.Ytlnimjpigghbmaa
open Go.RowKit Go.ChangeShapes Go.WideShapes Go.ChangeAt Go.Proofs.YtlnimjpigghbmaaW.PrintWords Go.Proofs.YtlnimjpigghbmaaW.PrintLast
open PFnPlacesOf

theorem sep_unique {ls : List Int} {x : Int} {i j : Nat} (hi : Sep ls x i) (hj : Sep ls x j) : i = j := by
  obtain ⟨a1, a2, a3⟩ := hi
  obtain ⟨b1, b2, b3⟩ := hj
  rcases Nat.lt_trichotomy i j with h | h | h
  · have := b2 i h; have := a3 i (Nat.le_refl _) (by omega); omega
  · exact h
  · have := a2 j h; have := b3 j (Nat.le_refl _) (by omega); omega

theorem asc5 : Asc [5] 0 := by
  intro i hi
  obtain rfl : i = 0 := by simp at hi; omega
  simp
theorem sep5 : Sep [5] (7 - 1) 1 := by
  refine ⟨by simp, fun j hj => ?_, fun j h1 h2 => ?_⟩
  · obtain rfl : j = 0 := by omega
    simp
  · simp at h2
    omega
theorem cells5 : placeCells [5] [7] = [.int .i64 2, .int .i64 2] := by
  have e : ix [5] (7 - 1) = 1 := sep_unique (ix_sep asc5 _) sep5
  simp only [placeCells, line, column, e, begins]
  rfl

/-- What a slice of integers is that is read. -/
def IsInts (W : World) (A : Option Addr) (ls : List Int) : Prop := (ls = [] ∨ ∃ b off, A = some ⟨b, off, none⟩ ∧ Ints W b off ls)

theorem open_is {H : Type} {enc : TypeId × Value → H} {W : World} {v : Value} {d : DataW H} {p : List MemPlace} (hv : Value.okWide Try.prog W .any 0 30 v) (h : DataW.Trod enc Try.prog W 0 (fun _ => true) true 30 v d p) :
    ∃ A c ls, v = .slice A (ls : List Int).length c ∧ ls.length ≤ c ∧ ls.length ≤ maxLen ∧ IsInts W A ls := by
  obtain ⟨A, len, cap, rfl⟩ := okWide_slice Try.underlying30 hv
  obtain ⟨fuel, hf⟩ := h
  rcases open_ints Try.underlying30 Try.underlying3 (by kernel_rfl) hf with ⟨hcs, _⟩ | ⟨x, l, c, zs, hcs, _, hl, hm, hz, _, hcell, hwz⟩
  · simp [Value.cells] at hcs
    obtain ⟨rfl, rfl, rfl⟩ := hcs
    exact ⟨none, 0, [], rfl, Nat.le_refl _, by simp, .inl rfl⟩
  · simp [Value.cells] at hcs
    obtain ⟨rfl, rfl, rfl⟩ := hcs
    have hz' : zs.length = cap := by simpa using hz
    refine ⟨some x, cap, zs.take len, by rw [List.length_take, Nat.min_eq_left (by omega)], by rw [List.length_take]; omega, by rw [List.length_take]; omega, ?_⟩
    rcases Nat.eq_zero_or_pos len with h0 | h0
    · left; rw [h0]; rfl
    · right
      obtain ⟨b, off, rfl, hc⟩ := ints_at hcell (by omega)
      have hb : b < W.heap.size := World.block_lt_of_cell? W _ (hc 0 (by omega))
      refine ⟨b, off, rfl, hb, fun j hj => ?_⟩
      rw [List.length_take] at hj
      rw [hc j (by omega)]
      simp [List.getD_eq_getElem?_getD, show j < len by omega]

theorem IsInts.below {w w' : World} {A : Option Addr} {ls : List Int} (h : IsInts w A ls) (hb : Below w.heap.size w w') : IsInts w' A ls := by
  rcases h with h | ⟨b, off, rfl, h⟩
  · exact .inl h
  · exact .inr ⟨b, off, rfl, h.below hb⟩

theorem IsInts.reads {w : World} {A : Option Addr} {ls : List Int} (h : IsInts w A ls) (hl : ls.length ≤ maxLen) : ReadsInt w .i64 A ls.length ls := by
  refine ⟨rfl, by unfold maxLen at hl; omega, fun hp => ?_⟩
  rcases h with rfl | ⟨b, off, rfl, h⟩
  · simp at hp
  · exact ⟨_, rfl, fun j hj => by rw [WideShapes.add_plain]; exact h.2 j hj⟩

theorem placesOf_all (A : Option Addr) (c : Nat) (ls : List Int) (A' : Option Addr) (c' : Nat) (ps : List Int) (w : World) (ha : Asc ls 0) (hl : ls.length ≤ 50) (hps : ps.length ≤ 50) (hp : ∀ j, j < ps.length → 1 ≤ ps.getD j 0 ∧ ps.getD j 0 ≤ 2000)
    (h1 : IsInts w A ls) (h2 : IsInts w A' ps) :
    Calls Try.prog 10 #[.slice A ls.length c, .slice A' ps.length c'] w fun e w' => ∃ v, e = .returned (.tuple #[v, .bool true]) ∧ w'.ownsRow w.heap.size 23 2 v ps.length (placeCells ls ps) ∧ Below w.heap.size w w' := by
  have hf : ∀ w' : World, Below w.heap.size w w' → Calls Try.prog 21 #[.slice A ls.length c] w' fun e w'' => ∃ bf, e = .returned (.pointer (some ⟨bf, 0, none⟩)) ∧ FileAt w'.heap.size bf (0 :: ls) w'' ∧ Below w'.heap.size w' w'' := by
    intro w' hb
    rcases h1.below hb with rfl | ⟨b, off, rfl, h⟩
    · exact fileOf_none A c w'
    · exact fileOf_some ls b off c w' h ha hl
  rcases h2 with rfl | ⟨b, off, rfl, h⟩
  · exact placesOf_none A c ls A' c' w hf
  · exact placesOf_any A c ls b off c' ps w ha hl hps hp h hf

/-- The call that shows that the code is awake. -/
theorem awake_any (w : World) :
    Calls Try.prog 10 #[.slice (some ⟨w.heap.size, 0, none⟩) 1 1, .slice (some ⟨w.heap.size + 1, 0, none⟩) 1 1] ((w.alloc (.cells #[.int .i64 5] 3)).alloc (.cells #[.int .i64 7] 3)) fun e w' =>
      ∃ g cap, e = .returned (.tuple #[.slice (some ⟨g, 0, none⟩) 1 cap, .bool true]) ∧ (w'.cell? ⟨g, 0, none⟩ = some (.int .i64 2) ∧ w'.cell? ⟨g, 1, none⟩ = some (.int .i64 2)) ∧ Below w.heap.size w w' := by
  have e0 : (w.alloc (.cells #[.int .i64 5] 3)).heap.size = w.heap.size + 1 := by simp
  have h1 : IsInts ((w.alloc (.cells #[.int .i64 5] 3)).alloc (.cells #[.int .i64 7] 3)) (some ⟨w.heap.size, 0, none⟩) [5] := by
    refine .inr ⟨_, _, rfl, by simp; omega, fun j hj => ?_⟩
    obtain rfl : j = 0 := by simp at hj; omega
    rw [World.cell?_alloc_past _ _ _ (by simp)]
    rw [World.cell?_alloc_at _ _ _ _ rfl]; rfl
  have h2 : IsInts ((w.alloc (.cells #[.int .i64 5] 3)).alloc (.cells #[.int .i64 7] 3)) (some ⟨w.heap.size + 1, 0, none⟩) [7] := by
    refine .inr ⟨_, _, rfl, by simp, fun j hj => ?_⟩
    obtain rfl : j = 0 := by simp at hj; omega
    rw [World.cell?_alloc_at _ _ _ _ (by simp)]; rfl
  refine (placesOf_all (some ⟨w.heap.size, 0, none⟩) 1 [5] (some ⟨w.heap.size + 1, 0, none⟩) 1 [7] _ asc5 (by decide) (by decide) (fun j hj => ?_) h1 h2).mono ?_
  · obtain rfl : j = 0 := by simp at hj; omega
    decide
  · rintro e w' ⟨v, rfl, hown, hb⟩
    rw [cells5] at hown
    rcases hown.2 with ⟨_, h⟩ | ⟨g, cap, _, rfl, _⟩
    · simp at h
    · refine ⟨g, cap, rfl, ⟨?_, ?_⟩, (((Below.refl _ w).alloc (Nat.le_refl _) _).alloc (by simp) _).trans (hb.mono (by simp; omega))⟩
      · rw [hown.cellAt 0 (by decide)]; rfl
      · rw [hown.cellAt 1 (by decide)]; rfl

set_option maxHeartbeats 2000000 in
theorem law_great (A A' : Option Addr) (c c' n m : Nat) (w : World) (h : 2147483647 < n ∨ 2147483647 < m) :
    Calls Try.prog 5 #[.slice A n c, .slice A' m c'] w fun e w' => e = .returned (.bool true) ∧ Below w.heap.size w w' := by
  by_cases h1 : 2147483647 < n
  · clear h
    go_enter Try.func5, Try.ntmps5
    go_wp2
    go_ret
    exact ⟨rfl, Below.refl _ _⟩
  · have h2 : 2147483647 < m := by omega
    clear h
    go_enter Try.func5, Try.ntmps5
    go_wp2
    go_ret
    exact ⟨rfl, Below.refl _ _⟩

theorem placeCells_at (ls ps : List Int) (k : Nat) (h : k < ps.length) : (placeCells ls ps)[k * 2]? = some (.int .i64 (line ls (ps.getD k 0))) ∧ (placeCells ls ps)[k * 2 + 1]? = some (.int .i64 (column ls (ps.getD k 0))) := by
  induction ps generalizing k with
  | nil => simp at h
  | cons p ps ih =>
    cases k with
    | zero => exact ⟨rfl, rfl⟩
    | succ k =>
      have := ih k (by simpa using h)
      have e1 : (k + 1) * 2 = k * 2 + 1 + 1 := by omega
      have e2 : (k + 1) * 2 + 1 = (k * 2 + 1) + 1 + 1 := by omega
      rw [e1, show k * 2 + 1 + 1 + 1 = (k * 2 + 1) + 1 + 1 from rfl]
      simpa [placeCells] using this

theorem row_of {w : World} {B : Nat} {v : Value} {ls ps : List Int} (h : w.ownsRow B 23 2 v ps.length (placeCells ls ps)) :
    ∃ ad cap, v = .slice ad ps.length cap ∧ ∀ k, k < ps.length → ∃ g, ad = some ⟨g, 0, none⟩ ∧ g < w.heap.size ∧ w.cell? ⟨g, k * 2, none⟩ = some (.int .i64 (line ls (ps.getD k 0))) ∧ w.cell? ⟨g, k * 2 + 1, none⟩ = some (.int .i64 (column ls (ps.getD k 0))) := by
  rcases h.2 with ⟨rfl, h0⟩ | ⟨g, cap, cur, rfl, _, hg, _⟩
  · exact ⟨none, 0, by rw [h0], fun k hk => by omega⟩
  · refine ⟨_, cap, rfl, fun k hk => ⟨g, rfl, lt_of_heap hg, ?_, ?_⟩⟩
    · rw [h.cellAt (k * 2) (by omega)]; exact (placeCells_at ls ps k hk).1
    · rw [h.cellAt (k * 2 + 1) (by omega)]; exact (placeCells_at ls ps k hk).2

set_option maxHeartbeats 4000000 in
theorem law_small (A A' : Option Addr) (c c' : Nat) (ls ps : List Int) (w : World) (h1 : ¬ 2147483647 < ls.length) (h2 : ¬ 2147483647 < ps.length) (hc : ls.length ≤ c) (h3 : IsInts w A ls) (h4 : IsInts w A' ps) :
    Calls Try.prog 5 #[.slice A ls.length c, .slice A' ps.length c'] w fun e w' => e = .returned (.bool true) ∧ Below w.heap.size w w' := by
  go_enter Try.func5, Try.ntmps5
  go_wp2_with fail
  refine (awake_any _).mono ?_
  rintro e w1 ⟨g, cap, rfl, ⟨g0, g1⟩, hb1⟩
  have hr := (h3.below hb1).reads (by unfold maxLen; omega)
  obtain ⟨kk, b, hrise, hasc⟩ := rising_ends ls (by omega)
  have HR := Aside0.mk hrise
  have HASC := Lib.hid hasc
  have HRD := Aside0.mk hr
  clear hr hrise hasc
  go_wp2_with fail
  refine (laws_rising.calls kk A c ls b _ (Kd.C_of_reads (d := (0 : Int)) (h1 := fun _ => rfl) HRD.out) hc HR.out).mono ?_
  rintro e w2 ⟨rfl, ⟨n, rfl⟩⟩
  cases b with
  | false =>
    go_wp2
    go_ret
    exact ⟨rfl, drawn_below hb1 n⟩
  | true =>
    have ha := (HASC.out rfl).1
    have hl50 := (HASC.out rfl).2
    have HA := Lib.hid ha
    clear HASC ha HR
    by_cases hp50 : 50 < ps.length
    · go_wp2
      go_ret
      exact ⟨rfl, drawn_below hb1 n⟩
    have hb2 : Below w.heap.size w (w1.drewN n) := drawn_below hb1 n
    go_wp2
    go_loop [52] (fun i => ∃ k : Nat, k ≤ ps.length ∧ i = .int .i64 k ∧ Hid (∀ j, j < k → 1 ≤ ps.getD j 0 ∧ ps.getD j 0 ≤ 2000)) (fun i => ps.length - (intOf i).toNat)
    case atStart => exact ⟨0, Nat.zero_le _, rfl, fun j hj => by omega⟩
    case round =>
      obtain ⟨k, hk, rfl, hall⟩ := hrel
      by_cases hlt : k < ps.length
      · rcases h4 with rfl | ⟨pb, poff, rfl, hps⟩
        · simp at hlt
        have hcell : w1.cell? ⟨pb, poff + k, none⟩ = some (.int .i64 (ps.getD k 0)) := (hps.below hb1).2 k hlt
        obtain ⟨x, hx⟩ : ∃ x, x = ps.getD k 0 := ⟨_, rfl⟩
        rw [← hx] at hcell
        have HX := Lib.hid hx
        clear hx
        by_cases hx1 : x < 1
        · go_wp2
          go_ret
          exact ⟨rfl, hb2⟩
        by_cases hx2 : 2000 < x
        · go_wp2
          go_ret
          exact ⟨rfl, hb2⟩
        go_wp2
        go_round
        case rel =>
          refine ⟨k + 1, by omega, by go_num, fun j hj => ?_⟩
          rcases Nat.lt_or_ge j k with h | h
          · exact hall.out j h
          · obtain rfl : j = k := by omega
            rw [← HX.out]
            omega
        case measure => simp [intOf]; omega
      · have hk' : k = ps.length := by omega
        rw [hk'] at hall
        clear hk'
        go_wp2_with fail
        refine (placesOf_all A c ls A' c' ps _ HA.out hl50 (by omega) hall.out (h3.below hb2) (h4.below hb2)).mono ?_
        rintro e w3 ⟨v, rfl, hown, hb3⟩
        obtain ⟨ad, cap', rfl, hat⟩ := row_of hown
        have HAT := Lib.hid hat
        have hb4 : Below w.heap.size w w3 := hb2.trans (hb3.mono hb2.size)
        clear hown hat hb3
        go_wp2
        go_loopw [81] (fun i wr => ∃ k : Nat, k ≤ ps.length ∧ i = .int .i64 k ∧ Below w3.heap.size w3 wr) (fun i _ => ps.length - (intOf i).toNat)
        case atStart => exact ⟨0, Nat.zero_le _, rfl, Below.refl _ _⟩
        case round =>
          obtain ⟨k, hk, rfl, hbr⟩ := hrel
          by_cases hlt : k < ps.length
          · rcases h4 with rfl | ⟨pb, poff, rfl, hps⟩
            · simp at hlt
            obtain ⟨x, hx⟩ : ∃ x, x = ps.getD k 0 := ⟨_, rfl⟩
            have hcell : wr.cell? ⟨pb, poff + k, none⟩ = some (.int .i64 x) := by rw [hx]; exact (hps.below (hb4.trans (hbr.mono hb4.size))).2 k hlt
            obtain ⟨g', rfl, hg', q0, q1⟩ := HAT.out k hlt
            rw [← hx] at q0 q1
            have hxk := hall.out k hlt
            rw [← hx] at hxk
            clear hx
            have r0 : wr.cell? ⟨g', k * 2, none⟩ = some (.int .i64 (line ls x)) := (hbr.cell (p := ⟨g', k * 2, none⟩) hg').trans q0
            have r1 : wr.cell? ⟨g', k * 2 + 1, none⟩ = some (.int .i64 (column ls x)) := (hbr.cell (p := ⟨g', k * 2 + 1, none⟩) hg').trans q1
            clear q0 q1
            have hsz : g' < wr.heap.size := Nat.lt_of_lt_of_le hg' hbr.size
            have hpl : laws_placeOf.f 60 ls (x - 1) = some (line ls x, column ls x) := placeOf_ends ls HA.out hl50 (x - 1) (by omega) (by omega) _ (ix_sep HA.out _)
            have HPL := Aside0.mk hpl
            have hC : Aside0 (∀ W, Below wr.heap.size wr W → Kd.C (Kd.int .i64) W A ls.length ls) := ⟨fun W hW => Kd.C_of_reads (d := (0 : Int)) (h1 := fun _ => rfl) ((h3.below ((hb4.trans (hbr.mono hb4.size)).trans (hW.mono (Nat.le_trans hb4.size hbr.size)))).reads (by unfold maxLen; omega))⟩
            have hx1 : 1 ≤ x := hxk.1
            have hx2 : x ≤ 2000 := hxk.2
            have hi0 : (0 : Int) ≤ (k : Int) := Int.natCast_nonneg _
            have hi1 : (k : Int) < (ps.length : Int) := by omega
            have hwr : IntKind.i64.wrap (x - 1) = x - 1 := IntWalk.i64_in _ (by omega)
            clear hpl hxk
            go_wp2_with fail
            go_region_held3 (fun w' => w'.cell? ⟨g', k * 2, none⟩ = some (.int .i64 (line ls x)) ∧ w'.cell? ⟨g', k * 2 + 1, none⟩ = some (.int .i64 (column ls x))) (first | go_keep | (exact ⟨(hbp.cell (p := ⟨g', k * 2, none⟩) hsz).trans r0, (hbp.cell (p := ⟨g', k * 2 + 1, none⟩) hsz).trans r1⟩)) (first | (go_at_call 12; ((with_reducible refine (laws_placeOf.calls 60 A c ls (x - 1) (line ls x) (column ls x) _ (hC.out _ ?_) hc HPL.out).mono ?_)); (exact Below.drew (Below.refl _ _)); rintro e w5 ⟨rfl, hbp⟩))
            clear hwr
            go_wp2
            go_roundw
            case rel => exact ⟨k + 1, by omega, by go_num, hbr.trans ((Below.drew (Below.refl _ wr)).trans hbp |>.mono hbr.size)⟩
            case measure => simp [intOf]; omega
          · go_wp2
            go_ret
            exact ⟨rfl, hb4.trans (hbr.mono hb4.size)⟩

theorem placesOf_walk {H : Type} {enc : TypeId × Value → H} (W : World) (v : Value) (d : DataW H) (p : List MemPlace) (hv : Value.okWide Try.prog W .any 0 30 v) (h : DataW.Trod enc Try.prog W 0 (fun _ => true) true 30 v d p)
    (v' : Value) (d' : DataW H) (p' : List MemPlace) (hv' : Value.okWide Try.prog W .any 0 30 v') (h' : DataW.Trod enc Try.prog W 0 (fun _ => true) true 30 v' d' p') {ds : List (DataW H)} (_ : (DataW.weightsEach Try.prog ([30, 30] ++ Rows.fnPlacesOfSpec.plain.varTypes Try.prog) ds).all (· ≤ reachBytes) = true) :
    Calls Try.prog 5 #[v, v'] W fun e W' => e = .returned (.bool true) ∧ Below W.heap.size W W' := by
  obtain ⟨A, c, ls, rfl, hc, _, h3⟩ := open_is hv h
  obtain ⟨A', c', ps, rfl, _, _, h4⟩ := open_is hv' h'
  by_cases h1 : 2147483647 < ls.length
  · exact law_great A A' c c' _ _ W (.inl h1)
  by_cases h2 : 2147483647 < ps.length
  · exact law_great A A' c c' _ _ W (.inr h2)
  exact law_small A A' c c' ls ps W h1 h2 hc h3 h4

end Go.Proofs.Ytlnimjpigghbmaa
