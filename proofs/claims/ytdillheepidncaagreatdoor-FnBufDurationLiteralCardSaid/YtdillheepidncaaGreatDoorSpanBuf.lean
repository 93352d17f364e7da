/- The Buffer of a duration. -/
import Derived.Test.YtdillheepidncaaGreatDoorListAt
import Derived.Test.YtdillheepidncaaGreatDoorNodeMag
import Derived.Test.YtdillheepidncaaGreatDoorKidBuf
import Derived.Test.YtdillheepidncaaGreatDoorFromSpan
namespace Go.Proofs.YtdillheepidncaaGreatDoor
open Go Go.RowKit
set_option linter.unusedVariables false
set_option linter.unusedSimpArgs false

/-- One slot of a list, in a new row. -/
theorem list_slots {M : Nat} {base : Bool} {N i B : Nat} {out : List UInt8} {kids : List Tr} {ps : List PartQ} {a : Option Addr} {c : Nat} {w w1 w2 : World}
    (h : Mk M base out w) (hN : N ≤ w.heap.size) (ho : ∀ r, r < N → MkOther M r w) (hk : KidWriter M base N kids ps) (ht : ListIn w N kids a) (hb1 : Below w.heap.size w w1) (hb2 : Below w1.heap.size w1 w2) (hB : B = w1.heap.size)
    (hb : w2.heap[B]? = some (.cells #[.slice a kids.length c] 23 (0, 0))) :
    SlotsPost M base [listQ i ps] w (.returned (.slice (some ⟨w2.heap.size, 0, none⟩) 1 1)) (w2.alloc (.cells #[.int .i64 i, .int .i64 4, .int .u64 0, .func (.func 171) #[] #[.pointer (some ⟨B, 0, none⟩)]] 253)) := by
  subst hB
  have hM := h.lt
  have hb12 : Below w.heap.size w w2 := hb1.trans (hb2.mono hb1.size)
  have hb3 := hb12.alloc hb12.size (.cells #[.int .i64 i, .int .i64 4, .int .u64 0, .func (.func 171) #[] #[.pointer (some ⟨w1.heap.size, 0, none⟩)]] 253)
  have hrow := heap_alloc_new w2 (.cells #[.int .i64 i, .int .i64 4, .int .u64 0, .func (.func 171) #[] #[.pointer (some ⟨w1.heap.size, 0, none⟩)]] 253)
  have hbl := (Array.getElem?_eq_some_iff.1 hb).1
  have hbox := (Below.heap_alloc w2 (.cells #[.int .i64 i, .int .i64 4, .int .u64 0, .func (.func 171) #[] #[.pointer (some ⟨w1.heap.size, 0, none⟩)]] 253) _ hbl).trans hb
  have hsz3 : (w2.alloc (.cells #[.int .i64 i, .int .i64 4, .int .u64 0, .func (.func 171) #[] #[.pointer (some ⟨w1.heap.size, 0, none⟩)]] 253)).heap.size = w2.heap.size + 1 := alloc_size _ _
  refine ⟨_, [(listQ i ps, .func (.func 171) #[] #[.pointer (some ⟨w1.heap.size, 0, none⟩)])], fun r => r < N ∨ r = w1.heap.size, rfl, rfl, ⟨rfl, .inr ⟨w2.heap.size, 1, _, rfl, hb12.size, hrow, Nat.le_refl _, by decide, rfl, rfl⟩⟩, hb3, fun r hr => ?_, fun p hp => ?_⟩
  · rcases hr with hr | rfl
    · refine ⟨by have := hb12.size; omega, (ho r hr).below hM hb3, ?_⟩
      show some w2.heap.size ≠ some r
      intro e
      have e2 := Option.some.inj e
      have := hb12.size
      omega
    · refine ⟨by omega, MkAt.newer (h.below hb1) (Nat.le_refl _) ?_, ?_⟩
      · exact ((hb2.alloc hb2.size _).cell (p := ⟨M, 0, none⟩) (Nat.lt_of_lt_of_le hM hb1.size))
      · show some w2.heap.size ≠ some w1.heap.size
        intro e
        have e2 := Option.some.inj e
        omega
  · rw [List.mem_singleton] at hp
    rw [hp]
    exact list_FnD hk (Nat.le_trans hN hb3.size) (ht.keep (Keep.of_below hb3 hN)) hbox

theorem list_part {i : Nat} {ps : List PartQ} (hn : ps.length < 100000) (hp : ∀ p ∈ ps, PartOk p.P p.sz p.Q) (P' : List UInt8 → List UInt8 × Nat) (hP : (listQ i ps).s.ref = some P') : (listQ i ps).s.width = 4 ∧ PartOk P' (listQ i ps).sz (listQ i ps).Q := by
  obtain rfl : vecB (ps.map PartQ.P) = P' := by
    unfold listQ at hP
    exact Option.some.inj hP
  exact ⟨rfl, vec_ok ps hn hp⟩

theorem good_list1 {ps : List PartQ} (hn : ps.length < 100000) (hp : ∀ p ∈ ps, PartOk p.P p.sz p.Q) : TabGood [listQ 1 ps] [0, 4] 8 :=
  ⟨by simp [layout, most1, placeOne, alignUp, listQ], by simp [most1, listQ], by decide, by decide, by decide, by decide, one_all (by show 4 ≤ 4; omega), one_all (by show 4 + 4 ≤ 8; omega), by simp, one_all (list_part hn hp), one_all (by show 0 < 4 ∧ 4 ≤ 8; omega), one_all (by show 0 < 18446744073709551616; omega), by simp⟩
theorem good_list2 {ps : List PartQ} (hn : ps.length < 100000) (hp : ∀ p ∈ ps, PartOk p.P p.sz p.Q) : TabGood [listQ 1 ps, baseQ] [8, 4] 12 :=
  ⟨by simp [layout, most1, placeOne, alignUp, listQ, baseQ], by simp [most1, listQ, baseQ], by decide, by decide, by decide, by decide, two_all (by show 4 ≤ 4; omega) (by show 4 ≤ 8; omega), two_all (by show 4 + 4 ≤ 12; omega) (by show 8 + 4 ≤ 12; omega), by
    simp only [List.map_cons, List.map_nil, List.pairwise_cons]
    refine ⟨fun b hb => ?_, ⟨fun b hb => by simp at hb, List.Pairwise.nil⟩⟩
    rw [List.mem_singleton] at hb; rw [hb]; left; show 4 + 4 ≤ 8; omega, two_all (list_part hn hp) base_part, two_all (by show 0 < 4 ∧ 4 ≤ 8; omega) (by show 0 < 4 ∧ 4 ≤ 8; omega), two_all (by show 0 < 18446744073709551616; omega) (by show 0 < 18446744073709551616; omega), by simp⟩


set_option maxHeartbeats 4000000 in
set_option maxRecDepth 100000 in
theorem literal_list (M : Nat) (base : Bool) (out : List UInt8) (N : Nat) (kids : List Tr) (ps : List PartQ) (t m : ByteArray) (u : Int) (a : Option Addr) (c : Nat) (w : World) (h : Mk M base out w) (hN : N ≤ w.heap.size) (ho : ∀ r, r < N → MkOther M r w) (hk : KidWriter M base N kids ps) (ht : ListIn w N kids a) :
    Calls Tryz.prog 101 #[.agg #[.int .i64 39, .string t, .string m, .int .u64 u, .slice a kids.length c]] w (SlotsPost M base [listQ 1 ps] w) := by
  have hb0 := (Below.refl w.heap.size w).alloc (Nat.le_refl _) (.cells #[.int .i64 39, .string t, .string m, .int .u64 u, .slice a kids.length c] 25)
  have H := Lib.hid h
  have HO := Lib.hid ho
  have HK := Lib.hid hk
  have HT := Lib.hid ht
  have HB0 := Lib.hid hb0
  clear h ho hk ht hb0
  generalize hkl : kids.length = n at *
  have HKL := Lib.hid hkl
  clear hkl
  go_enter Tryz.func101, Tryz.ntmps101
  go_wp2_with (go_at_call 146; with_reducible refine (listAt_any 1 a n c _).mono ?_)
  rintro e w2 ⟨rfl, hbox, hb2⟩
  rw [alloc_size, ← HKL.out] at hbox
  have HPOST := Lib.hid (list_slots (i := 1) (B := w.heap.size + 1) H.out hN HO.out HK.out HT.out HB0.out hb2 (by rw [alloc_size]) hbox)
  clear hbox hb2
  go_wp2
  go_ret
  exact HPOST.out

theorem span_parts (l : List MagP) : ∀ p ∈ l.map MagP.part, PartOk p.P p.sz p.Q := fun p hp => by
  obtain ⟨x, _, rfl⟩ := List.mem_map.1 hp
  exact mag_part x.num x.ix x.hn x.h10

theorem span_sz : ∀ l : List MagP, szParts (l.map MagP.part) = 100 * l.length
  | [] => rfl
  | x :: l => by
    rw [List.map_cons, szParts, span_sz l, List.length_cons]
    show 100 + 100 * l.length = 100 * (l.length + 1)
    omega

theorem span_writer (M : Nat) (base : Bool) (N : Nat) (l : List MagP) (hl : l.length ≤ 1000) : KidWriter M base N (l.map MagP.tree) (l.map MagP.part) :=
  ⟨by simp, by simpa using hl, span_parts l, fun i h h2 v => by
    simp only [List.getElem_map]
    have hil : i < l.length := by simpa using h
    exact mag_writes M base N l[i].num l[i].ix l[i].hn l[i].h10 l[i].unit rfl v⟩

theorem spanRef_of {l : List MagP} {bs : List UInt8} {q size : Nat} {places : List Nat} {fs : List SlotQ} (h : TabQ size places fs bs q) (hm : listQ 1 (l.map MagP.part) ∈ fs) : SpanRef l bs (q + places.getD 1 0) := by
  obtain ⟨z, z1, z2, z3, z4⟩ := (h.2.2.2.2.2 (listQ 1 (l.map MagP.part)) hm).2 (by simp [listQ])
  exact ⟨z, z2, z1, z4⟩

/-- The buffer of a duration. -/
theorem buf_span (base : Bool) (l : List MagP) (hl : l.length ≤ 1000) (a : Option Addr) (c N : Nat) (w : World) (hN : N ≤ w.heap.size) (hv : NodeIn w (· < N) (.mk 39 ⟨#[]⟩ ⟨#[]⟩ 0 (l.map MagP.tree)) (nodeU 39 ⟨#[]⟩ ⟨#[]⟩ 0 a (l.map MagP.tree).length c)) :
    Calls Tryz.prog 9 #[.agg #[.int .i64 39, .string ⟨#[]⟩, .string ⟨#[]⟩, .int .u64 0, .slice a (l.map MagP.tree).length c], .bool base] w (LeafBuf (SpanRef l) w) := by
  have hpl : (l.map MagP.part).length = l.length := List.length_map ..
  have hz1 : szSum [listQ 1 (l.map MagP.part)] = 8 + 4 * l.length + 100 * l.length := by
    show 8 + 4 * (l.map MagP.part).length + szParts (l.map MagP.part) + 0 = _
    rw [hpl, span_sz, Nat.add_zero]
  have hz2 : szSum [listQ 1 (l.map MagP.part), baseQ] = 8 + 4 * l.length + 100 * l.length + 64 := by
    show 8 + 4 * (l.map MagP.part).length + szParts (l.map MagP.part) + (64 + 0) = _
    rw [hpl, span_sz]
  have hli := ListIn.of (t := .mk 39 ⟨#[]⟩ ⟨#[]⟩ 0 (l.map MagP.tree)) hv
  have hs : ∀ M out W, Mk M base out W → Below w.heap.size w W → (∀ r, r < w.heap.size → MkOther M r W) → ∀ W', Mk M base out W' → Below W.heap.size W W' →
      Calls Tryz.prog 57 #[.pointer (some ⟨M, 0, none⟩), .agg #[.int .i64 39, .string ⟨#[]⟩, .string ⟨#[]⟩, .int .u64 0, .slice a (l.map MagP.tree).length c]] W' (SlotsPost M base [listQ 1 (l.map MagP.part)] W') := fun M out W hM hb ho W' hM' hb' =>
    slots_lits M base out [listQ 1 (l.map MagP.part)] 39 (by decide) ⟨#[]⟩ ⟨#[]⟩ 0 a _ c W' hM' fun W2 hM2 hb2 => by
      have hbb : Below W.heap.size W W2 := hb'.trans (hb2.mono hb'.size)
      have hb3 : Below w.heap.size w W2 := hb.trans (hbb.mono hb.size)
      exact literal_list M base out N (l.map MagP.tree) (l.map MagP.part) ⟨#[]⟩ ⟨#[]⟩ 0 a c W2 hM2 (Nat.le_trans hN hb3.size) (fun r hr => (ho r (Nat.lt_of_lt_of_le hr hN)).below hM.lt hbb) (span_writer M base N l hl) (hli.keep (Keep.of_below hb3 hN))
  cases base with
  | false =>
    refine leaf_buf false [listQ 1 (l.map MagP.part)] 0 4 8 (SpanRef l) (good_list1 (by omega) (span_parts l)) (by rw [hz1]; omega) (fun bs q h => ⟨leafQ_plain h (by decide) (by decide) (by decide), spanRef_of h (by simp)⟩) 39 ⟨#[]⟩ ⟨#[]⟩ 0 (.slice a _ c) ⟨a, _, c, rfl⟩ w (fun M W hM hb ho => ?_)
    exact node_many M _ [listQ 1 (l.map MagP.part)] (by simp) [0, 4] 8 (good_list1 (by omega) (span_parts l)) 39 ⟨#[]⟩ ⟨#[]⟩ 0 (.slice a _ c) ⟨a, _, c, rfl⟩ W hM (hs M _ W hM hb ho) (by rw [hz1]; simp; omega)
  | true =>
    refine leaf_buf true [listQ 1 (l.map MagP.part), baseQ] 8 4 12 (SpanRef l) (good_list2 (by omega) (span_parts l)) (by rw [hz2]; omega) (fun bs q h => ⟨leafQ_base h (by decide) (by decide) (by decide) (by decide) (by decide), spanRef_of h (by simp)⟩) 39 ⟨#[]⟩ ⟨#[]⟩ 0 (.slice a _ c) ⟨a, _, c, rfl⟩ w (fun M W hM hb ho => ?_)
    exact node_many_base M _ [listQ 1 (l.map MagP.part)] [8, 4] 12 (good_list2 (by omega) (span_parts l)) 39 rfl ⟨#[]⟩ ⟨#[]⟩ 0 (.slice a _ c) ⟨a, _, c, rfl⟩ W hM (hs M _ W hM hb ho) (by show _ + (12 + 2 * 2 + 12 + szSum [listQ 1 (l.map MagP.part), baseQ]) < _; rw [hz2]; simp; omega)

end Go.Proofs.YtdillheepidncaaGreatDoor
