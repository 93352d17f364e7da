/- The maker's table of a duration's magnitude. The maker's node of a magnitude: no base is laid. -/
import Derived.Test.YtdillheepidncaaGreatDoorMakerAll
import Derived.Test.YtdillheepidncaaGreatDoorPlain
import Derived.Test.YtdillheepidncaaGreatDoorKidBuf
namespace Go.Proofs.YtdillheepidncaaGreatDoor
open Go Go.RowKit
set_option linter.unusedVariables false
set_option linter.unusedSimpArgs false

set_option maxHeartbeats 4000000 in
set_option maxRecDepth 100000 in
theorem slots_lits (M : Nat) (base : Bool) (out : List UInt8) (fs : List SlotQ) (k : Nat) (hk : 33 ≤ k ∧ k < 44) (t m : ByteArray) (u : Int) (a : Option Addr) (n c : Nat) (w : World) (h : Mk M base out w)
    (hl : ∀ W, Mk M base out W → Below w.heap.size w W → Calls Tryz.prog 101 #[.agg #[.int .i64 k, .string t, .string m, .int .u64 u, .slice a n c]] W (SlotsPost M base fs W)) :
    Calls Tryz.prog 57 #[.pointer (some ⟨M, 0, none⟩), .agg #[.int .i64 k, .string t, .string m, .int .u64 u, .slice a n c]] w (SlotsPost M base fs w) := by
  have hb0 := (Below.refl w.heap.size w).alloc (Nat.le_refl _) (.cells #[.int .i64 (k : Int), .string t, .string m, .int .u64 u, .slice a n c] 25)
  have hrow := heap_alloc_new w (.cells #[.int .i64 (k : Int), .string t, .string m, .int .u64 u, .slice a n c] 25)
  have HB0 := Lib.hid hb0
  have HR0 := Lib.hid hrow
  have HM0 := Lib.hid (h.below hb0)
  have HL := Lib.hid hl
  have HNT : Hid (¬ typeB (k : Int)) := Lib.hid (by unfold typeB; omega)
  obtain ⟨hk1, hk2⟩ := hk
  have g44 : decide ((44 : Int) ≤ k) = false := by simp; omega
  have g33 : decide ((33 : Int) ≤ k) = true := by simp; omega
  clear h hb0 hrow hl
  go_enter Tryz.func57, Tryz.ntmps57
  go_wp2_with (go_at_call 99; with_reducible refine (isType_any k _).mono ?_)
  intro e w2 hy
  obtain ⟨rfl, hb2⟩ := not_type _ HNT.out hy
  have hr2 := (hb2.block w.heap.size (Array.getElem?_eq_some_iff.1 HR0.out).1).trans HR0.out
  have hb12 : Below w.heap.size w w2 := HB0.out.trans (hb2.mono HB0.out.size)
  have c0 : w2.cell? ⟨w.heap.size, 0, none⟩ = some (.int .i64 k) := by rw [Lib.cell_of_heap hr2]; rfl
  have c1 : w2.cell? ⟨w.heap.size, 1, none⟩ = some (.string t) := by rw [Lib.cell_of_heap hr2]; rfl
  have c2 : w2.cell? ⟨w.heap.size, 2, none⟩ = some (.string m) := by rw [Lib.cell_of_heap hr2]; rfl
  have c3 : w2.cell? ⟨w.heap.size, 3, none⟩ = some (.int .u64 u) := by rw [Lib.cell_of_heap hr2]; rfl
  have c4 : w2.cell? ⟨w.heap.size, 4, none⟩ = some (.slice a n c) := by rw [Lib.cell_of_heap hr2]; rfl
  have HLW := Lib.hid (HL.out w2 (HM0.out.below hb2) hb12)
  clear hy hb2 hr2
  go_wp2_with (go_at_call 101; with_reducible refine HLW.out.mono ?_)
  rintro e w3 ⟨v, l, D, rfl, h4⟩
  go_wp2
  go_ret
  exact SlotsPost.from hb12 ⟨v, l, D, rfl, h4⟩

/-- The slots of a magnitude. -/
def magFs (num u : Nat) : List SlotQ := [numQ 0 8 num, numQ 1 1 u]

theorem units_at : ∀ ix (h : ix < 10) j (h2 : j < 10), (unitTexts[j]'h2 = unitTexts[ix]'h) ↔ j = ix := by decide

theorem unit_found (t : ByteArray) (h : t ∈ unitTexts) : ∃ ix, ∃ h : ix < 10, unitTexts[ix]'h = t := by
  obtain ⟨i, hi, e⟩ := List.getElem_of_mem h
  exact ⟨i, hi, e⟩

set_option maxHeartbeats 4000000 in
set_option maxRecDepth 100000 in
theorem literal_mag (M : Nat) (base : Bool) (out : List UInt8) (ix : Nat) (h10 : ix < 10) (t : ByteArray) (hix : unitTexts[ix]'h10 = t) (m : ByteArray) (u : Nat) (a : Option Addr) (n c : Nat) (w : World) (h : Mk M base out w) :
    Calls Tryz.prog 101 #[.agg #[.int .i64 40, .string t, .string m, .int .u64 u, .slice a n c]] w (SlotsPost M base (magFs u ix) w) := by
  have hb0 := (Below.refl w.heap.size w).alloc (Nat.le_refl _) (.cells #[.int .i64 40, .string t, .string m, .int .u64 (u : Int), .slice a n c] 25)
  have hr0 := heap_alloc_new w (.cells #[.int .i64 40, .string t, .string m, .int .u64 (u : Int), .slice a n c] 25)
  have HB0 := Lib.hid hb0
  have HR0 := Lib.hid hr0
  have HIX := Lib.hid hix
  have HPOST : Hid (∀ w2, Below w.heap.size w w2 → SlotsPost M base (magFs u ix) w (.returned (.slice (some ⟨w2.heap.size, 0, none⟩) 2 2)) (w2.alloc (.cells #[.int .i64 0, .int .i64 8, .int .u64 (u : Int), .nilFunc, .int .i64 1, .int .i64 1, .int .u64 (ix : Int), .nilFunc] 253))) := Lib.hid fun w2 hb => by
    refine ⟨_, [(numQ 0 8 u, .nilFunc), (numQ 1 1 ix, .nilFunc)], fun _ => False, rfl, rfl, ⟨rfl, .inr ⟨w2.heap.size, 2, _, rfl, hb.size, heap_alloc_new w2 _, Nat.le_refl _, by decide, rfl, rfl⟩⟩, hb.alloc hb.size _, fun r hr => hr.elim, fun p hp => ?_⟩
    rcases List.mem_cons.1 hp with rfl | hp
    · exact fun W _ => num_fnOk 0 8 u
    · rw [List.mem_singleton] at hp
      rw [hp]
      exact fun W _ => num_fnOk 1 1 ix
  clear h hb0 hr0 hix
  go_enter Tryz.func101, Tryz.ntmps101
  go_wp2_with (go_at_call 121; with_reducible refine (plainUnits_any _).mono ?_)
  rintro e w1 ⟨rfl, hw1⟩
  rw [alloc_size] at *
  have hb1 : Below w.heap.size w w1 := by rw [hw1]; exact HB0.out.alloc HB0.out.size _
  have hu1 : w1.heap[w.heap.size + 1]? = some (.cells (unitTexts.map Value.string).toArray 9 (0, 0)) := by
    have := heap_alloc_new (w.alloc (.cells #[.int .i64 40, .string t, .string m, .int .u64 (u : Int), .slice a n c] 25)) (.cells (unitTexts.map Value.string).toArray 9)
    rw [alloc_size, ← hw1] at this
    exact this
  have hr1 : w1.heap[w.heap.size]? = some (.cells #[.int .i64 40, .string t, .string m, .int .u64 (u : Int), .slice a n c] 25 (0, 0)) := by
    rw [hw1]
    exact (Below.heap_alloc _ _ _ (by rw [alloc_size]; omega)).trans HR0.out
  clear hw1
  have HC : Hid (∀ j (h : j < 10), w1.cell? ⟨w.heap.size + 1, j, none⟩ = some (.string (unitTexts[j]'h))) := Lib.hid fun j h => by
    rw [Lib.cell_of_heap hu1]
    have hl : j < unitTexts.length := h
    simp [hl]
    rfl
  have c1 : w1.cell? ⟨w.heap.size, 1, none⟩ = some (.string t) := by rw [Lib.cell_of_heap hr1]; rfl
  have c3 : w1.cell? ⟨w.heap.size, 3, none⟩ = some (.int .u64 u) := by rw [Lib.cell_of_heap hr1]; rfl
  have HB1 := Lib.hid hb1
  have hlen : unitTexts.length = 10 := rfl
  clear hb1 hu1 hr1 HR0
  rw [hlen]
  go_wp2
  go_loop [3, 41] (fun v i => ∃ j : Nat, j ≤ 10 ∧ i = .int .i64 j ∧ v = .int .u64 ((if ix < j then ix else 0 : Nat) : Int)) (fun _ i => 10 - (intOf i).toNat)
  case atStart => exact ⟨0, Nat.zero_le _, rfl, by rw [if_neg (Nat.not_lt_zero _)]; rfl⟩
  case round =>
    obtain ⟨j, hj, rfl, rfl⟩ := hrel
    by_cases hlt : j < 10
    · have d0 := HC.out j hlt
      by_cases hji : j = ix
      · subst hji
        have hx : unitTexts[j]'hlt = t := HIX.out
        rw [hx] at d0
        have hb : (t.toList == t.toList) = true := by simp
        have HN : Hid (((if j < j + 1 then j else 0 : Nat) : Int) = (j : Int)) := Lib.hid (by rw [if_pos (by omega)])
        generalize (if j < j then j else 0 : Nat) = uu at *
        go_wp2
        go_round
        case rel => exact ⟨j + 1, by omega, by go_num, by rw [HN.out]⟩
        case measure => simp [intOf]; omega
      · have hx : unitTexts[j]'hlt ≠ t := fun e => hji ((units_at ix h10 j hlt).1 (e.trans HIX.out.symm))
        have HN : Hid ((if ix < j + 1 then ix else 0 : Nat) = (if ix < j then ix else 0 : Nat)) := Lib.hid (by
          by_cases h : ix < j
          · rw [if_pos h, if_pos (by omega)]
          · rw [if_neg h, if_neg (by omega)])
        generalize unitTexts[j]'hlt = x at *
        have hb := text_ne hx
        generalize (if ix < j then ix else 0 : Nat) = uu at *
        go_wp2
        go_round
        case rel => exact ⟨j + 1, by omega, by go_num, by rw [HN.out]⟩
        case measure => simp [intOf]; omega
    · have hje : j = 10 := by omega
      subst hje
      rw [if_pos h10]
      go_wp2_with fail
      ((with_reducible refine (number_any _ _ _ _).mono ?_))
      rintro e w2 ⟨rfl, hb2⟩
      go_wp2_with fail
      ((with_reducible refine (number_any _ _ _ _).mono ?_))
      rintro e w3 ⟨rfl, hb3⟩
      have HB3 := Lib.hid (HB1.out.trans ((hb2.trans (hb3.mono hb2.size)).mono HB1.out.size))
      clear hb2 hb3
      go_wp2
      go_ret
      exact HPOST.out _ HB3.out

set_option maxHeartbeats 4000000 in
set_option maxRecDepth 100000 in
theorem node_mag_true (M : Nat) (out : List UInt8) (fs : List SlotQ) (h0 : 0 < fs.length) (places : List Nat) (size : Nat) (hg : TabGood fs places size) (t m : ByteArray) (u : Int) (kids : Value) (hkids : ∃ a n c, kids = .slice a n c) (w : World) (h : Mk M true out w)
    (hs : ∀ W, Mk M true out W → Below w.heap.size w W → Calls Tryz.prog 57 #[.pointer (some ⟨M, 0, none⟩), .agg #[.int .i64 40, .string t, .string m, .int .u64 u, kids]] W (SlotsPost M true fs W))
    (hout : out.length + (12 + 2 * places.length + size + szSum fs) < 900000000) :
    Calls Tryz.prog 20 #[.pointer (some ⟨M, 0, none⟩), .agg #[.int .i64 40, .string t, .string m, .int .u64 u, kids]] w (AtPost M true (tableB (fs.map SlotQ.s) out).1 (tableB (fs.map SlotQ.s) out).2 w) := by
  obtain ⟨a, n, c, rfl⟩ := hkids
  have hM := h.lt
  have hb0 := (Below.refl w.heap.size w).alloc (Nat.le_refl _) (.cells #[.int .i64 40, .string t, .string m, .int .u64 u, .slice a n c] 25)
  have HB0 := Lib.hid hb0
  have HS := Lib.hid (hs _ (h.below hb0) hb0)
  have H := Lib.hid h
  have HG := Lib.hid hg
  clear hs h hb0 hg
  go_enter Tryz.func20, Tryz.ntmps20
  go_wp2_with (go_at_call 57; with_reducible refine HS.out.mono ?_)
  rintro e w2 ⟨v, l, D, rfl, hl, hown, hb2, hD, hfd⟩
  have hf : ∀ p ∈ l, FnOk M true w2 p.2 p.1.s p.1.sz := fun p hp => hfd p hp w2 fun r hr => ⟨rfl, (hD r hr).2.1⟩
  clear hD hfd
  have hb12 : Below w.heap.size w w2 := HB0.out.trans (hb2.mono HB0.out.size)
  have hm2 : Mk M true out w2 := H.out.below hb12
  obtain ⟨_, _, _, c1, _⟩ := hm2.form
  have hl0 : 0 < l.length := by
    have e := congrArg List.length hl
    rw [List.length_map] at e
    omega
  have hob : ∀ r, v.ownBlock = some r → MkOther M r w2 := fun r hr => MkAt.newer (w' := w2) H.out (Nat.le_trans HB0.out.size (hown.lt r hr).1) (hb12.cell (p := ⟨M, 0, none⟩) hM)
  have hmv := moves_below hM hb12
  have HT : Hid (Calls Tryz.prog 59 #[.pointer (some ⟨M, 0, none⟩), v] w2 fun e w' => e = .returned (.int .i64 (tableB (fs.map SlotQ.s) out).2) ∧ Mk M true (tableB (fs.map SlotQ.s) out).1 w' ∧ Moves M w w') := Lib.hid (by
    refine (table_row fs places size HG.out M true out l hl hl0 v _ w2 hm2 hown hob hf hout).mono ?_
    rintro e w' ⟨h1, h2, h3⟩
    exact ⟨h1, h2, hmv.trans h3⟩)
  have hbox : w2.cell? ⟨w.heap.size, 0, none⟩ = some (.int .i64 40) := (hb2.cell (p := ⟨w.heap.size, 0, none⟩) (by show w.heap.size < (w.alloc _).heap.size; rw [alloc_size]; omega)).trans (by rw [Lib.cell_of_heap (heap_alloc_new w _)]; rfl)
  clear hown hb2 hf hb12 hm2 hob hmv
  go_wp2_with (go_at_call 59; with_reducible refine HT.out.mono ?_)
  rintro e w4 ⟨rfl, h1, h2⟩
  go_wp2
  go_ret
  exact ⟨rfl, h1, h2⟩


theorem mag_good (num u : Nat) (hn : num < 18446744073709551616) (hu : u < 10) : TabGood (magFs num u) [8, 16] 17 :=
  ⟨by simp [magFs, layout, most1, placeOne, alignUp, numQ], by simp [magFs, most1, numQ], by decide, by decide, by decide, by decide, two_all (by show 4 ≤ 8; omega) (by show 4 ≤ 16; omega), two_all (by show 8 + 8 ≤ 17; omega) (by show 16 + 1 ≤ 17; omega), by
    simp only [magFs, List.map_cons, List.map_nil, List.pairwise_cons]
    refine ⟨fun b hb => ?_, ⟨fun b hb => by simp at hb, List.Pairwise.nil⟩⟩
    rw [List.mem_singleton] at hb; rw [hb]; left; show 8 + 8 ≤ 16; omega, two_all (fun P h => by simp [numQ] at h) (fun P h => by simp [numQ] at h), two_all (by show 0 < 8 ∧ 8 ≤ 8; omega) (by show 0 < 1 ∧ 1 ≤ 8; omega), two_all (by show num < 18446744073709551616; omega) (by show u < 18446744073709551616; omega), by simp [magFs]⟩

/-- What a magnitude's table says. -/
structure MagQ (num u : Nat) (bs : List UInt8) (p : Nat) : Prop where
  vt : VtQ 17 [8, 16] bs p
  num : rd bs (p + 8) 8 = num
  unit : rd bs (p + 16) 1 = u

theorem MagQ.of {num u : Nat} {bs : List UInt8} {p : Nat} (hn : num < 18446744073709551616) (hu : u < 10) (h : TabQ 17 [8, 16] (magFs num u) bs p) : MagQ num u bs p := by
  have h1 := (h.2.2.2.2.2 (numQ 0 8 num) (by simp [magFs])).1 rfl
  have h2 := (h.2.2.2.2.2 (numQ 1 1 u) (by simp [magFs])).1 rfl
  have e1 : rd bs (p + 8) 8 = num % 256 ^ 8 := h1
  have e2 : rd bs (p + 16) 1 = u % 256 ^ 1 := h2
  exact ⟨h.vt, by rw [e1]; exact Nat.mod_eq_of_lt hn, by rw [e2]; exact Nat.mod_eq_of_lt (by omega)⟩

/-- How a magnitude's table is written. -/
def magB (num u : Nat) : List UInt8 → List UInt8 × Nat := tableB ((magFs num u).map SlotQ.s)

theorem mag_part (num u : Nat) (hn : num < 18446744073709551616) (hu : u < 10) : PartOk (magB num u) 100 (MagQ num u) :=
  PartOk.imp (mag_good num u hn hu).part (by show 12 + 2 * 2 + 17 + szSum (magFs num u) ≤ 100; have : szSum (magFs num u) = 0 := rfl; omega) fun bs q h => MagQ.of hn hu h

theorem mag_writes (M : Nat) (base : Bool) (N : Nat) (num ix : Nat) (hn : num < 18446744073709551616) (h10 : ix < 10) (t : ByteArray) (hix : unitTexts[ix]'h10 = t) (v : Value) : NodeWrites M base N (.mk 40 t ⟨#[]⟩ num []) v (magB num ix) 100 := by
  intro W out hM hv _ _ hsz
  obtain ⟨k', x', m', n', ks', a, c, e, rfl⟩ := hv.form
  injection e with e1 e2 e3 e4 e5
  subst e1 e2 e3 e4 e5
  have hz : szSum (magFs num ix) = 0 := rfl
  have hs : ∀ W', Mk M base out W' → Below W.heap.size W W' → Calls Tryz.prog 57 #[.pointer (some ⟨M, 0, none⟩), .agg #[.int .i64 40, .string t, .string ⟨#[]⟩, .int .u64 num, .slice a 0 c]] W' (SlotsPost M base (magFs num ix) W') := fun W' h' _ =>
    slots_lits M base out (magFs num ix) 40 (by decide) t ⟨#[]⟩ num a 0 c W' h' (fun W2 h2 _ => literal_mag M base out ix h10 t hix ⟨#[]⟩ num a 0 c W2 h2)
  cases base with
  | false => exact node_many M out (magFs num ix) (by simp [magFs]) [8, 16] 17 (mag_good num ix hn h10) 40 t ⟨#[]⟩ num (.slice a 0 c) ⟨a, 0, c, rfl⟩ W hM hs (by rw [hz]; simp; omega)
  | true => exact node_mag_true M out (magFs num ix) (by simp [magFs]) [8, 16] 17 (mag_good num ix hn h10) t ⟨#[]⟩ num (.slice a 0 c) ⟨a, 0, c, rfl⟩ W hM hs (by rw [hz]; simp; omega)

end Go.Proofs.YtdillheepidncaaGreatDoor
