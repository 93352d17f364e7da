/- The maker's slots of nodes with kids. -/
import Derived.Test.YtdillheepidncaaGreatDoorMakerKid
import Derived.Test.YtdillheepidncaaGreatDoorClass
namespace Go.Proofs.YtdillheepidncaaGreatDoor
open Go Go.RowKit
set_option linter.unusedVariables false
set_option linter.unusedSimpArgs false

theorem MkOther.below {M r : Nat} {w w' : World} (h : MkOther M r w) (hM : M < w.heap.size) (hb : Below w.heap.size w w') : MkOther M r w' :=
  ⟨h.1, fun v hv => h.2 v (by rw [← hb.cell (p := ⟨M, 0, none⟩) hM]; exact hv)⟩

theorem own_base {w : World} {b b' : Nat} {e : TypeId} {z : Nat} {v : Value} {n : Nat} {xs : List Value} (h : w.ownsRow b e z v n xs) (hb : b' ≤ b) : w.ownsRow b' e z v n xs :=
  ⟨h.1, h.2.imp id fun ⟨g, cap, cur, h1, h2, h3⟩ => ⟨g, cap, cur, h1, Nat.le_trans hb h2, h3⟩⟩

theorem SlotsPost.from {M : Nat} {base : Bool} {fs : List SlotQ} {w W : World} {e : Ending} {w' : World} (hb : Below w.heap.size w W) (h : SlotsPost M base fs W e w') : SlotsPost M base fs w e w' := by
  obtain ⟨v, l, D, h1, h2, h3, h4, h5, h6⟩ := h
  exact ⟨v, l, D, h1, h2, own_base h3 hb.size, hb.trans (h4.mono hb.size), h5, h6⟩

/-- One slot of a node, in a new row. -/
theorem kid_slots {M : Nat} {base : Bool} {N i sz B : Nat} {out : List UInt8} {tr : Tr} {k : Int} {t m : ByteArray} {u : Int} {a : Option Addr} {n c : Nat} {P : List UInt8 → List UInt8 × Nat} {Q : List UInt8 → Nat → Prop} {w w1 w2 : World}
    (h : Mk M base out w) (hN : N ≤ w.heap.size) (ho : ∀ r, r < N → MkOther M r w) (hw : NodeWrites M base N tr (nodeU k t m u a n c) P sz) (ht : NodeIn w (· < N) tr (nodeU k t m u a n c)) (hb1 : Below w.heap.size w w1) (hb2 : Below w1.heap.size w1 w2) (hB : B = w1.heap.size)
    (hb : w2.heap[B]? = some (.cells #[.int .i64 k, .string t, .string m, .int .u64 u, .slice a n c] 25 (0, 0))) :
    SlotsPost M base [kidQ i P sz Q] w (.returned (.slice (some ⟨w2.heap.size, 0, none⟩) 1 1)) (w2.alloc (.cells #[.int .i64 i, .int .i64 4, .int .u64 0, .func (.func 169) #[] #[.pointer (some ⟨B, 0, none⟩)]] 253)) := by
  subst hB
  have hM := h.lt
  have hb12 : Below w.heap.size w w2 := hb1.trans (hb2.mono hb1.size)
  have hb3 := hb12.alloc hb12.size (.cells #[.int .i64 i, .int .i64 4, .int .u64 0, .func (.func 169) #[] #[.pointer (some ⟨w1.heap.size, 0, none⟩)]] 253)
  have hrow := heap_alloc_new w2 (.cells #[.int .i64 i, .int .i64 4, .int .u64 0, .func (.func 169) #[] #[.pointer (some ⟨w1.heap.size, 0, none⟩)]] 253)
  have hbl := (Array.getElem?_eq_some_iff.1 hb).1
  have hbox := (Below.heap_alloc w2 (.cells #[.int .i64 i, .int .i64 4, .int .u64 0, .func (.func 169) #[] #[.pointer (some ⟨w1.heap.size, 0, none⟩)]] 253) _ hbl).trans hb
  have hsz3 : (w2.alloc (.cells #[.int .i64 i, .int .i64 4, .int .u64 0, .func (.func 169) #[] #[.pointer (some ⟨w1.heap.size, 0, none⟩)]] 253)).heap.size = w2.heap.size + 1 := alloc_size _ _
  refine ⟨_, [(kidQ i P sz Q, .func (.func 169) #[] #[.pointer (some ⟨w1.heap.size, 0, none⟩)])], fun r => r < N ∨ r = w1.heap.size, rfl, rfl, ⟨rfl, .inr ⟨w2.heap.size, 1, _, rfl, hb12.size, hrow, Nat.le_refl _, by decide, rfl, rfl⟩⟩, hb3, fun r hr => ?_, fun p hp => ?_⟩
  · rcases hr with hr | rfl
    · refine ⟨by have := hb12.size; omega, (ho r hr).below hM hb3, ?_⟩
      show some w2.heap.size ≠ some r
      intro e
      have e2 := Option.some.inj e
      have := hb12.size
      omega
    · refine ⟨by omega, MkAt.newer (h.below hb1) (Nat.le_refl _) ?_, ?_⟩
      · exact ((hb2.alloc hb2.size _).cell (p := ⟨M, 0, none⟩) (Nat.lt_of_lt_of_le hM hb1.size))
      · show some w2.heap.size ≠ some w1.heap.size
        intro e
        have e2 := Option.some.inj e
        omega
  · rw [List.mem_singleton] at hp
    rw [hp]
    exact kid_FnD hw (Nat.le_trans hN hb3.size) (ht.keep (Keep.of_below hb3 hN)) hbox

set_option maxHeartbeats 4000000 in
set_option maxRecDepth 100000 in
theorem typeSlots_kid (M : Nat) (base : Bool) (out : List UInt8) (N : Nat) (k : Int) (hk : k = 45 ∨ k = 46) (t m : ByteArray) (u : Int) (kid : Tr) (a : Option Addr) (c : Nat) (P : List UInt8 → List UInt8 × Nat) (sz : Nat) (Q : List UInt8 → Nat → Prop) (w : World) (h : Mk M base out w) (hN : N ≤ w.heap.size) (ho : ∀ r, r < N → MkOther M r w)
    (hv : NodeIn w (· < N) (.mk k t m u [kid]) (nodeU k t m u a 1 c)) (hw : ∀ v, NodeWrites M base N kid v P sz) :
    Calls Tryz.prog 100 #[.agg #[.int .i64 k, .string t, .string m, .int .u64 u, .slice a 1 c]] w (SlotsPost M base [kidQ 1 P sz Q] w) := by
  obtain ⟨b, o, rfl, hbN, hkid⟩ := hv.kidsAt (by simp)
  have hb0 := (Below.refl w.heap.size w).alloc (Nat.le_refl _) (.cells #[.int .i64 k, .string t, .string m, .int .u64 u, .slice (some ⟨b, o, none⟩) 1 c] 25)
  obtain ⟨a', c', hn0, d0, d1, d2, d3, d4⟩ := hkid _ (Keep.of_below hb0 hN) 0 (by simp)
  obtain ⟨a2, c2, hn2, e0, e1, e2, e3, e4⟩ := hkid w (Keep.refl _ w) 0 (by simp)
  have haa : a2 = a' ∧ c2 = c' := by
    have hbl : b < w.heap.size := Nat.lt_of_lt_of_le hbN hN
    have e := (hb0.cell (p := ⟨b, o + 0 * 5 + 4, none⟩) hbl)
    rw [d4, e4] at e
    simp at e
    exact ⟨e.1.symm, e.2.symm⟩
  obtain ⟨rfl, rfl⟩ := haa
  simp only [List.getElem_cons_zero, Nat.zero_mul, Nat.add_zero] at hn0 d0 d1 d2 d3 d4 hn2
  have H := Lib.hid h
  have HO := Lib.hid ho
  have HW := Lib.hid (hw (nodeU kid.kind kid.text kid.more kid.num a2 kid.kids.length c2))
  have HB0 := Lib.hid hb0
  have HN2 := Lib.hid hn2
  clear h ho hw hv hkid hn0 hn2 e0 e1 e2 e3 e4 hb0
  generalize kid.kind = kk at *
  generalize kid.text = tt at *
  generalize kid.more = mm at *
  generalize kid.num = nn at *
  generalize kid.kids.length = ll at *
  rcases hk with rfl | rfl
  all_goals
    go_enter Tryz.func100, Tryz.ntmps100
    go_wp2_with (go_at_call 143; with_reducible refine (nodeAt_any 1 kk tt mm nn a2 ll c2 _).mono ?_)
    rintro e w2 ⟨rfl, hbox, hb2⟩
    rw [alloc_size] at hbox
    have HPOST := Lib.hid (kid_slots (i := 1) (B := w.heap.size + 1) (Q := Q) H.out hN HO.out HW.out HN2.out HB0.out hb2 (by rw [alloc_size]) hbox)
    clear hbox hb2
    go_wp2
    go_ret
    exact HPOST.out

/-- The slots of a type's node are its typeSlots. -/
theorem type_or (k : Int) (hk : 44 ≤ k) : decide ((44 : Int) ≤ k) = true := by simpa using hk

set_option maxHeartbeats 4000000 in
set_option maxRecDepth 100000 in
theorem slots_type (M : Nat) (base : Bool) (out : List UInt8) (fs : List SlotQ) (k : Int) (hk : 44 ≤ k) (t m : ByteArray) (u : Int) (a : Option Addr) (n c : Nat) (w : World) (h : Mk M base out w)
    (hl : ∀ W, Mk M base out W → Below w.heap.size w W → Calls Tryz.prog 100 #[.agg #[.int .i64 k, .string t, .string m, .int .u64 u, .slice a n c]] W (SlotsPost M base fs W)) :
    Calls Tryz.prog 57 #[.pointer (some ⟨M, 0, none⟩), .agg #[.int .i64 k, .string t, .string m, .int .u64 u, .slice a n c]] w (SlotsPost M base fs w) := by
  have hb0 := (Below.refl w.heap.size w).alloc (Nat.le_refl _) (.cells #[.int .i64 (k : Int), .string t, .string m, .int .u64 u, .slice a n c] 25)
  have hrow := heap_alloc_new w (.cells #[.int .i64 (k : Int), .string t, .string m, .int .u64 u, .slice a n c] 25)
  have HB0 := Lib.hid hb0
  have HR0 := Lib.hid hrow
  have HM0 := Lib.hid (h.below hb0)
  have HL := Lib.hid hl
  have g44 := type_or k hk
  clear h hb0 hrow hl
  go_enter Tryz.func57, Tryz.ntmps57
  go_wp2_with (go_at_call 99; with_reducible refine (isType_any k _).mono ?_)
  rintro e w2 ⟨b, rfl, _, hb2⟩
  have hr2 := (hb2.block w.heap.size (Array.getElem?_eq_some_iff.1 HR0.out).1).trans HR0.out
  have hb12 : Below w.heap.size w w2 := HB0.out.trans (hb2.mono HB0.out.size)
  have c0 : w2.cell? ⟨w.heap.size, 0, none⟩ = some (.int .i64 k) := by rw [Lib.cell_of_heap hr2]; rfl
  have c1 : w2.cell? ⟨w.heap.size, 1, none⟩ = some (.string t) := by rw [Lib.cell_of_heap hr2]; rfl
  have c2 : w2.cell? ⟨w.heap.size, 2, none⟩ = some (.string m) := by rw [Lib.cell_of_heap hr2]; rfl
  have c3 : w2.cell? ⟨w.heap.size, 3, none⟩ = some (.int .u64 u) := by rw [Lib.cell_of_heap hr2]; rfl
  have c4 : w2.cell? ⟨w.heap.size, 4, none⟩ = some (.slice a n c) := by rw [Lib.cell_of_heap hr2]; rfl
  have HLW := Lib.hid (HL.out w2 (HM0.out.below hb2) hb12)
  clear hb2 hr2
  cases b with
  | true =>
    go_wp2_with (go_at_call 100; with_reducible refine HLW.out.mono ?_)
    rintro e w3 ⟨v, l, D, rfl, h4⟩
    go_wp2
    go_ret
    exact SlotsPost.from hb12 ⟨v, l, D, rfl, h4⟩
  | false =>
    go_wp2_with (go_at_call 100; with_reducible refine HLW.out.mono ?_)
    rintro e w3 ⟨v, l, D, rfl, h4⟩
    go_wp2
    go_ret
    exact SlotsPost.from hb12 ⟨v, l, D, rfl, h4⟩

end Go.Proofs.YtdillheepidncaaGreatDoor
