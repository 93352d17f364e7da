/- impl.magnitudes, impl.ParseDuration: a duration's text as a tree. -/
import Derived.Test.YtaaiojhdhefjdaaDoorParseDur
import Derived.Test.YtaaiojhdhefjdaaDoorFields
namespace Go.Proofs.YtaaiojhdhefjdaaDoor
open Go Go.RowKit Go.Shelf
set_option linter.unusedVariables false
set_option linter.unusedSimpArgs false

def MagsPost (l : List (Int × ByteArray)) (w : World) (e : Ending) (w' : World) : Prop :=
  ∃ v, e = .returned v ∧ w'.ownsRow w.heap.size 25 5 v l.length ((l.map wrapM).flatMap magCells) ∧ Below w.heap.size w w'

set_option maxHeartbeats 4000000 in
set_option maxRecDepth 100000 in
theorem magnitudes_any (v : Value) (base : Nat) (l : List (Int × ByteArray)) (hlen : l.length ≤ 1000) (w : World) (hown : w.ownsRow base 48 2 v l.length (l.flatMap durCells)) :
    Calls Tryd.prog 10 #[v] w (MagsPost l w) := by
  obtain ⟨i0, hi, hz0, hz1, hz2⟩ := info_parts node_info
  have hform : ∃ a c, v = .slice a l.length c ∧ (0 < l.length → ∃ g, a = some ⟨g, 0, none⟩ ∧ g < w.heap.size ∧ DurRow w g 0 l) := by
    rcases hown.2 with ⟨rfl, h0⟩ | ⟨g, cap, cur, rfl, _⟩
    · exact ⟨none, 0, by rw [h0], fun h => by omega⟩
    · refine ⟨_, _, rfl, fun _ => ⟨g, rfl, (hown.lt g rfl).2, fun i hi => ?_⟩⟩
      have h0 := hown.cells (g := g) rfl (i * 2 + 0) (.int .i64 l[i].1) (by rw [rows_at 2 durCells durCells_length l i 0 hi (by omega)]; rfl)
      have h1 := hown.cells (g := g) rfl (i * 2 + 1) (.string l[i].2) (by rw [rows_at 2 durCells durCells_length l i 1 hi (by omega)]; rfl)
      rw [add_at] at h0 h1
      refine ⟨?_, ?_⟩
      · rw [Nat.zero_add] at h0 ⊢
        simpa using h0
      · rw [Nat.zero_add] at h1 ⊢
        simpa [Nat.add_assoc] using h1
  obtain ⟨a, c, rfl, hrow⟩ := hform
  have HR := Lib.hid hrow
  have HV0 : Hid (w.ownsRow w.heap.size 25 5 (.slice none 0 0) 0 (((l.take 0).map wrapM).flatMap magCells) ∧ Below w.heap.size w w) := Lib.hid ⟨World.ownsRow_nil _ _ _ _, Below.refl _ _⟩
  clear hown hrow
  go_enter Tryd.func10, Tryd.ntmps10
  go_wp2
  go_loopw [3, 8] (fun vv i wr => ∃ j : Nat, j ≤ l.length ∧ i = .int .i64 j ∧ Hid (wr.ownsRow w.heap.size 25 5 vv j (((l.take j).map wrapM).flatMap magCells) ∧ Below w.heap.size w wr)) (fun _ i _ => l.length - (intOf i).toNat)
  case atStart => exact ⟨0, Nat.zero_le _, rfl, HV0⟩
  case round =>
    obtain ⟨j, hj, rfl, HVL⟩ := hrel
    obtain ⟨hown, hb⟩ := HVL.out
    obtain ⟨a2, c2, rfl⟩ := slice_form hown
    by_cases hlt : j < l.length
    · obtain ⟨g, rfl, hg, hdr⟩ := HR.out (by omega)
      obtain ⟨r0, r1⟩ := hdr j hlt
      have d0 := (hb.cell (p := ⟨g, 0 + j * 2, none⟩) hg).trans r0
      have d1 := (hb.cell (p := ⟨g, 0 + j * 2 + 1, none⟩) hg).trans r1
      rw [Nat.zero_add] at d0 d1
      have HTK : Hid (((l.take (j + 1)).map wrapM).flatMap magCells = ((l.take j).map wrapM).flatMap magCells ++ magCells (wrapM l[j])) := Lib.hid (by
        rw [List.take_succ_eq_append_getElem hlt, List.map_append, List.flatMap_append, List.map_singleton, List.flatMap_singleton])
      generalize l[j] = q at *
      obtain ⟨n, u⟩ := q
      simp only at d0 d1
      have HW : Hid (wrapM (n, u) = (IntKind.u64.wrap n, u)) := Lib.hid rfl
      rw [HW.out] at HTK
      obtain ⟨un, hun⟩ : ∃ un, IntKind.u64.wrap n = un := ⟨_, rfl⟩
      have hu0 : 0 ≤ un ∧ un ≤ 18446744073709551615 := by rw [← hun, IntKind.wrap_u64]; omega
      rw [hun] at HTK
      have hmx : j + 1 ≤ maxLen := by unfold maxLen; omega
      have hbl : (j + 1) * 72 ≤ 140737488355328 := by omega
      have HO := Lib.hid hown
      have HB := Lib.hid hb
      clear hown hb hdr r0 r1 HW
      go_wp2_with (at_builtin; refine wpList_append_own _ rfl _ _ 23 rfl w.heap.size 25 i0 _ 5 72 Tryd.underlying23 hi hz0 hz1 hz2 rfl (by decide) _ _ _ rfl ((HO.out.alloc (.cells #[.int .i64 n, .string u] 48)).alloc _) _ 1 1 [.int .i64 40, .string u, .string ⟨#[]⟩, .int .u64 un, .slice none 0 0] rfl rfl ?c1 ?c2 hmx hbl ?c3 ?_)
      case c1 => exact World.news_of_block (cs := #[.int .i64 40, .string u, .string ⟨#[]⟩, .int .u64 un, .slice none 0 0]) (t := 25) (fr := (0, 0)) (by
        have h := heap_alloc_new (wr.alloc (.cells #[.int .i64 n, .string u] 48)) (.cells #[.int .i64 40, .string u, .string ⟨#[]⟩, .int .u64 un, .slice none 0 0] 25)
        rwa [show (wr.alloc (.cells #[.int .i64 n, .string u] 48)).heap.size = wr.heap.size + 1 by simp] at h)
      case c2 => exact magCells_one (un, u)
      case c3 =>
        have := HB.out.size
        simp
        omega
      intro v' w5 hown' hgrow _
      obtain ⟨a', c', rfl⟩ := slice_form hown'
      have hb5 : Below w.heap.size w w5 := ((HB.out.alloc HB.out.size (.cells #[.int .i64 n, .string u] 48)).alloc (by have := HB.out.size; simp; omega) (.cells #[.int .i64 40, .string u, .string ⟨#[]⟩, .int .u64 un, .slice none 0 0] 25)).grown hgrow (by have := HB.out.size; simp; omega) (fun k e => (HO.out.lt k e).1)
      have HN : Hid (w5.ownsRow w.heap.size 25 5 (.slice a' (j + 1) c') (j + 1) (((l.take (j + 1)).map wrapM).flatMap magCells) ∧ Below w.heap.size w w5) := Lib.hid ⟨by rw [HTK.out, List.map_take]; exact hown', hb5⟩
      clear hown' hgrow hb5
      go_wp2
      go_roundw
      case rel => exact ⟨j + 1, by omega, by go_num, HN⟩
      case measure => simp [intOf]; omega
    · have hfull : j = l.length := by omega
      subst hfull
      rw [List.take_length] at hown
      have HO := Lib.hid hown
      have HB := Lib.hid hb
      clear hown hb
      go_wp2
      go_ret
      exact ⟨_, rfl, HO.out, HB.out⟩

def ParsedAt (l : List (Int × ByteArray)) (w : World) (e : Ending) (w' : World) : Prop :=
  ∃ a c, e = .returned (.tuple #[nodeU 39 ⟨#[]⟩ ⟨#[]⟩ 0 a l.length c, .bool true]) ∧ NodeIn w' (fun k => w.heap.size ≤ k ∧ k < w'.heap.size) (spanT l) (nodeU 39 ⟨#[]⟩ ⟨#[]⟩ 0 a l.length c) ∧ Below w.heap.size w w'

theorem parsed_wrap (l : List (List UInt8 × List UInt8)) (hv : ∀ y ∈ l, decV y.1 ≤ 9223372036854775807) : (l.map parsedOf).map wrapM = l.map parsedOf := by
  rw [List.map_map]
  refine List.map_congr_left fun x hx => ?_
  have h := hv x hx
  have e : IntKind.u64.wrap (decV x.1 : Int) = (decV x.1 : Int) := by rw [IntKind.wrap_u64]; omega
  show (IntKind.u64.wrap (decV x.1 : Int), unitOut x.2) = ((decV x.1 : Int), unitOut x.2)
  rw [e]

theorem unitOut_len (u : List UInt8) (h : u ∈ plainU ∨ u = muL) : (unitOut u).size ≤ 3 := by
  rcases h with h | rfl
  · simp only [plainU, List.mem_cons, List.mem_nil_iff, or_false] at h
    rcases h with rfl | rfl | rfl | rfl | rfl | rfl | rfl | rfl | rfl | rfl <;> decide
  · decide

set_option maxHeartbeats 4000000 in
set_option maxRecDepth 100000 in
theorem parseImpl_any (s : ByteArray) (l : List (List UInt8 × List UInt8)) (hs : s.data.toList = spanB l) (hok : ∀ y ∈ l, PartP y) (hv : ∀ y ∈ l, decV y.1 ≤ 9223372036854775807) (hsz : s.size ≤ 100000) (hl : l.length ≤ 1000) (w : World)
    (hT : Lib.Utf8Tabs 0 1 w) :
    Calls Tryd.prog 5 #[.string s] w (ParsedAt (l.map parsedOf) w) := by
  have hb0 : Below w.heap.size w (w.alloc (.cells #[.int .i64 0, .string ⟨#[]⟩, .string ⟨#[]⟩, .int .u64 0, .slice none 0 0] 25)) := (Below.refl _ w).alloc (Nat.le_refl _) _
  have hk0 : (w.alloc (.cells #[.int .i64 0, .string ⟨#[]⟩, .string ⟨#[]⟩, .int .u64 0, .slice none 0 0] 25)).heap[w.heap.size]? = some (.cells #[.int .i64 0, .string ⟨#[]⟩, .string ⟨#[]⟩, .int .u64 0, .slice none 0 0] 25 (0, 0)) := heap_alloc_new w _
  have HP := Lib.hid (parseDuration_any s l hs hok hv hsz hl _ (Utf8Tabs_below hT hb0))
  have HB0 := Lib.hid hb0
  have HK0 := Lib.hid hk0
  have HPW := Lib.hid (parsed_wrap l hv)
  have HMI : Hid (∀ x ∈ l.map parsedOf, MagIn x) := Lib.hid fun x hx => by
    obtain ⟨y, hy, rfl⟩ := List.mem_map.1 hx
    have h1 := hv y hy
    have h2 := unitOut_len y.2 (hok y hy).2.2
    refine ⟨⟨by simp [parsedOf], ?_⟩, ?_⟩
    · show (decV y.1 : Int) ≤ _
      omega
    · show (unitOut y.2).size ≤ maxLen
      unfold maxLen
      omega
  clear hs hok hv hsz hT hb0 hk0
  go_enter Tryd.func5, Tryd.ntmps5
  go_wp2_with fail
  ((with_reducible refine HP.out.mono ?_))
  rintro e w1 ⟨v, rfl, hv1, hb1⟩
  have hk1 := (hb1.block _ (Array.getElem?_eq_some_iff.1 HK0.out).1).trans HK0.out
  have HK1 := Lib.hid hk1
  have HB1 := Lib.hid (HB0.out.trans (hb1.mono HB0.out.size))
  have HM := Lib.hid (magnitudes_any v _ (l.map parsedOf) (by simpa using hl) w1 (by rw [List.length_map]; exact hv1))
  have hs1 : w.heap.size < w1.heap.size := (Array.getElem?_eq_some_iff.1 hk1).1
  clear hv1 hb1 hk1
  go_wp2_with fail
  ((with_reducible refine HM.out.mono ?_))
  rintro e w2 ⟨v2, rfl, hown2, hb2⟩
  rw [HPW.out, List.length_map] at hown2
  obtain ⟨a, c, rfl⟩ := slice_form hown2
  have hk2 := (hb2.block _ (Array.getElem?_eq_some_iff.1 HK1.out).1).trans HK1.out
  have hnode := node_of_row (n := l.length) (by simp) HMI.out hown2
  have z0 : w2.cell? ⟨w.heap.size, 0, none⟩ = some (.int .i64 0) := by rw [Lib.cell_of_heap hk2]; rfl
  have z1 : w2.cell? ⟨w.heap.size, 1, none⟩ = some (.string ⟨#[]⟩) := by rw [Lib.cell_of_heap hk2]; rfl
  have z2 : w2.cell? ⟨w.heap.size, 2, none⟩ = some (.string ⟨#[]⟩) := by rw [Lib.cell_of_heap hk2]; rfl
  have z3 : w2.cell? ⟨w.heap.size, 3, none⟩ = some (.int .u64 0) := by rw [Lib.cell_of_heap hk2]; rfl
  have z4 : w2.cell? ⟨w.heap.size, 4, none⟩ = some (.slice none 0 0) := by rw [Lib.cell_of_heap hk2]; rfl
  have y0 := Lib.frozen_of_heap hk2 0
  have y1 := Lib.frozen_of_heap hk2 1
  have y2 := Lib.frozen_of_heap hk2 2
  have y3 := Lib.frozen_of_heap hk2 3
  have y4 := Lib.frozen_of_heap hk2 4
  have HN := Lib.hid hnode
  have HB2 := Lib.hid (HB1.out.trans (hb2.mono HB1.out.size))
  clear hnode hown2 hk2 hb2
  go_wp2
  have hpost : ParsedAt (l.map parsedOf) w (.returned (.tuple #[nodeU 39 ⟨#[]⟩ ⟨#[]⟩ 0 a l.length c, .bool true])) (((((w2.setCell ⟨w.heap.size, 0, none⟩ (.int .i64 39)).setCell ⟨w.heap.size, 1, none⟩ (.string ⟨#[]⟩)).setCell ⟨w.heap.size, 2, none⟩ (.string ⟨#[]⟩)).setCell ⟨w.heap.size, 3, none⟩ (.int .u64 0)).setCell ⟨w.heap.size, 4, none⟩ (.slice a l.length c)) := by
    refine ⟨a, c, by rw [List.length_map], ?_, ?_⟩
    · rw [List.length_map]
      have hsz : (((((w2.setCell ⟨w.heap.size, 0, none⟩ (.int .i64 39)).setCell ⟨w.heap.size, 1, none⟩ (.string ⟨#[]⟩)).setCell ⟨w.heap.size, 2, none⟩ (.string ⟨#[]⟩)).setCell ⟨w.heap.size, 3, none⟩ (.int .u64 0)).setCell ⟨w.heap.size, 4, none⟩ (.slice a l.length c)).heap.size = w2.heap.size := by simp [World.setCell]
      rw [hsz]
      refine NodeIn.mono (B := fun k => w1.heap.size ≤ k ∧ k < w2.heap.size) (fun b hb => ⟨by omega, hb.2⟩) (NodeIn.keep (w := w2) (fun b hb => ?_) HN.out)
      have hne : b ≠ w.heap.size := by omega
      exact (Below.heap_setCell _ _ _ _ hne).trans ((Below.heap_setCell _ _ _ _ hne).trans ((Below.heap_setCell _ _ _ _ hne).trans ((Below.heap_setCell _ _ _ _ hne).trans (Below.heap_setCell _ _ _ _ hne))))
    · exact ((((HB2.out.setCell (p := ⟨w.heap.size, 0, none⟩) (Nat.le_refl _) _).setCell (p := ⟨w.heap.size, 1, none⟩) (Nat.le_refl _) _).setCell (p := ⟨w.heap.size, 2, none⟩) (Nat.le_refl _) _).setCell (p := ⟨w.heap.size, 3, none⟩) (Nat.le_refl _) _).setCell (p := ⟨w.heap.size, 4, none⟩) (Nat.le_refl _) _
  exact bodyPost_ret (v := .tuple #[nodeU 39 ⟨#[]⟩ ⟨#[]⟩ 0 a l.length c, .bool true]) (by simp [nodeU, results, Tryd.results5, go_sem, z0, z1, z2, z3, z4]) rfl hpost

end Go.Proofs.YtaaiojhdhefjdaaDoor
