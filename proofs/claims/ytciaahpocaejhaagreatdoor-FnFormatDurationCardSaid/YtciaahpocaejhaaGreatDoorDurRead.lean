/- spec's reader: the numbers and units of a duration's literal. -/
import Derived.Test.YtciaahpocaejhaaGreatDoorUint
import Derived.Test.YtciaahpocaejhaaGreatDoorMags
import Derived.Deep.AppendLies
namespace Go.Proofs.YtciaahpocaejhaaGreatDoor
open Go Go.RowKit
set_option linter.unusedVariables false
set_option linter.unusedSimpArgs false

theorem node_info : (Tryz.prog.info? 26).map (fun i => (i.zero, i.size, i.bytes)) = some (some (.agg #[.int .i64 0, .string ⟨#[]⟩, .string ⟨#[]⟩, .int .u64 0, .slice none 0 0]), 5, 72) := by kernel_rfl

/-- What a part says. -/
def magOf (x : List UInt8 × List UInt8) : Int × ByteArray := (decV x.1, ⟨x.2.toArray⟩)

theorem LxAt.pos {b p : Nat} {s : ByteArray} {r : List Value} {T : TypeId} {w : World} (h : LxAt b s p r T w) : rdPos b w = p := by
  unfold rdPos
  rw [h.c1]
  simp
theorem LxAt.of_heap {b p : Nat} {s : ByteArray} {r : List Value} {T : TypeId} {w w' : World} (h : LxAt b s p r T w) (e : w'.heap[b]? = w.heap[b]?) : LxAt b s p r T w' := e.trans h

/-- The list that is made, in block B. -/
def OutAt (B : Nat) (pre : List (List UInt8 × List UInt8)) (w : World) : Prop :=
  ∃ a c, w.heap[B]? = some (.cells #[.int .i64 39, .string ⟨#[]⟩, .string ⟨#[]⟩, .int .u64 0, .slice a pre.length c] 26 (0, 0)) ∧ w.ownsRow (B + 2) 26 5 (.slice a pre.length c) pre.length ((pre.map magOf).flatMap magCells)

def zeroNode : Obj := .cells #[.int .i64 0, .string ⟨#[]⟩, .string ⟨#[]⟩, .int .u64 0, .slice none 0 0] 26 (0, 0)

/-- What the loop keeps. -/
def DurAt (w : World) (B : Nat) (s : ByteArray) (pre : List (List UInt8 × List UInt8)) (wr : World) : Prop :=
  LxAt (B + 1) s (spanB pre).length [] 59 wr ∧ OutAt B pre wr ∧ wr.heap[w.heap.size]? = some zeroNode ∧ Below w.heap.size w wr ∧ B + 2 ≤ wr.heap.size

def DurPost (l : List (List UInt8 × List UInt8)) (w : World) (e : Ending) (w' : World) : Prop :=
  ∃ a c, e = .returned (nodeV 39 ⟨#[]⟩ 0 a l.length c) ∧ w'.ownsRow w.heap.size 26 5 (.slice a l.length c) l.length ((l.map magOf).flatMap magCells) ∧ Below w.heap.size w w'

theorem mu_no (u : List UInt8) (h : u ∈ plainU) : ((⟨u.toArray⟩ : ByteArray).toList == [194, 181, 115]) = false ∧ (⟨u.toArray⟩ : ByteArray).toList.isEmpty = false ∧ (⟨u.toArray⟩ : ByteArray).size ≤ 2 := by
  rw [ByteArray.toList_eq]
  simp only [plainU, List.mem_cons, List.mem_nil_iff, or_false] at h
  rcases h with rfl | rfl | rfl | rfl | rfl | rfl | rfl | rfl | rfl | rfl <;> exact ⟨rfl, rfl, by decide⟩

theorem part_text (s : ByteArray) (pre post : List (List UInt8 × List UInt8)) (x : List UInt8 × List UInt8) (hs : s.data.toList = spanB (pre ++ x :: post)) :
    (s.extract (spanB pre).length ((spanB pre).length + x.1.length)).data.toList = x.1 := by
  rw [ByteArray.data_extract, Array.toList_extract, List.extract_eq_take_drop, hs, spanB_append, spanB_cons, List.drop_left, show (spanB pre).length + x.1.length - (spanB pre).length = x.1.length by omega]
  simp

set_option maxHeartbeats 8000000 in
set_option maxRecDepth 100000 in
theorem duration_any (b : Nat) (s : ByteArray) (l : List (List UInt8 × List UInt8)) (hs : s.data.toList = spanB l) (hok : ∀ y ∈ l, PartOk1 y) (hv : ∀ y ∈ l, decV y.1 ≤ 9223372036854775807) (hsz : s.size ≤ 10000) (hl : l.length ≤ 1000) (w : World) :
    Calls Tryz.prog 116 #[.pointer (some ⟨b, 0, none⟩), .string s] w (DurPost l w) := by
  obtain ⟨i0, hi, hz0, hz1, hz2⟩ := info_parts node_info
  have HS := Lib.hid hs
  have HOK := Lib.hid hok
  have HV := Lib.hid hv
  clear hs hok hv
  go_enter Tryz.func116, Tryz.ntmps116
  go_wp2_with fail
  ((with_reducible refine (node_any _ _ none 0 0 _).mono ?_))
  rintro e w1 ⟨rfl, hb1⟩
  have hk0 : w1.heap[w.heap.size]? = some zeroNode := (hb1.block _ (by simp)).trans (heap_alloc_new w _)
  obtain ⟨B, hB⟩ : ∃ B, B = w1.heap.size := ⟨_, rfl⟩
  have hwB : w.heap.size < B := by rw [hB]; exact (Array.getElem?_eq_some_iff.1 hk0).1
  have hD : DurAt w B s [] ((w1.alloc (.cells #[.int .i64 39, .string ⟨#[]⟩, .string ⟨#[]⟩, .int .u64 0, .slice none 0 0] 26)).alloc (.cells #[.string s, .int .i64 0] 59)) := by
    subst hB
    refine ⟨?_, ⟨none, 0, ?_, World.ownsRow_nil _ _ _ _⟩, ?_, ?_, by simp⟩
    · have h := heap_alloc_new (w1.alloc (.cells #[.int .i64 39, .string ⟨#[]⟩, .string ⟨#[]⟩, .int .u64 0, .slice none 0 0] 26)) (.cells #[.string s, .int .i64 0] 59)
      rwa [show (w1.alloc (.cells #[.int .i64 39, .string ⟨#[]⟩, .string ⟨#[]⟩, .int .u64 0, .slice none 0 0] 26)).heap.size = w1.heap.size + 1 by simp] at h
    · exact (Below.heap_alloc _ _ _ (by simp)).trans (heap_alloc_new w1 _)
    · exact (Below.heap_alloc _ _ _ (by simp; omega)).trans ((Below.heap_alloc _ _ _ hwB).trans hk0)
    · exact ((((Below.refl _ w).alloc (Nat.le_refl _) _).trans (hb1.mono (by simp))).alloc (by omega) _).alloc (by simp; omega) _
  have HD := Lib.hid hD
  have HB := Lib.hid hB
  clear hD hk0 hb1 hB
  go_wp2
  rw [← HB.out]
  go_loopw [7] (fun _ wr => ∃ pre post : List (List UInt8 × List UInt8), Hid (pre ++ post = l) ∧ Hid (DurAt w B s pre wr)) (fun _ wr => s.size - rdPos (B + 1) wr)
  case atStart => exact ⟨[], l, Lib.hid rfl, HD⟩
  case round =>
    obtain ⟨pre, post, hpp, hdur⟩ := hrel
    obtain ⟨hlx, ⟨a, c, hout, hown⟩, hres, hbw, hsz2⟩ := hdur.out
    have hlc : pre.length ≤ l.length := by rw [← hpp.out]; simp
    cases post with
    | nil =>
      have hpl : pre = l := by rw [← hpp.out]; simp
      have hend : (spanB pre).length = s.size := by
        have := congrArg List.length HS.out
        rw [hpl]
        simpa using this.symm
      rw [hend] at hlx
      have HO := Lib.hid hown
      have HBW := Lib.hid hbw
      have HP := Lib.hid hpl
      have c1 := hlx.c1
      have z0 : wr.cell? ⟨w.heap.size, 0, none⟩ = some (.int .i64 0) := by rw [Lib.cell_of_heap hres]; rfl
      have z1 : wr.cell? ⟨w.heap.size, 1, none⟩ = some (.string ⟨#[]⟩) := by rw [Lib.cell_of_heap hres]; rfl
      have z2 : wr.cell? ⟨w.heap.size, 2, none⟩ = some (.string ⟨#[]⟩) := by rw [Lib.cell_of_heap hres]; rfl
      have z3 : wr.cell? ⟨w.heap.size, 3, none⟩ = some (.int .u64 0) := by rw [Lib.cell_of_heap hres]; rfl
      have z4 : wr.cell? ⟨w.heap.size, 4, none⟩ = some (.slice none 0 0) := by rw [Lib.cell_of_heap hres]; rfl
      have y0 := Lib.frozen_of_heap hres 0
      have y1 := Lib.frozen_of_heap hres 1
      have y2 := Lib.frozen_of_heap hres 2
      have y3 := Lib.frozen_of_heap hres 3
      have y4 := Lib.frozen_of_heap hres 4
      have p0 : wr.cell? ⟨B, 0, none⟩ = some (.int .i64 39) := by rw [Lib.cell_of_heap hout]; rfl
      have p1 : wr.cell? ⟨B, 1, none⟩ = some (.string ⟨#[]⟩) := by rw [Lib.cell_of_heap hout]; rfl
      have p2 : wr.cell? ⟨B, 2, none⟩ = some (.string ⟨#[]⟩) := by rw [Lib.cell_of_heap hout]; rfl
      have p3 : wr.cell? ⟨B, 3, none⟩ = some (.int .u64 0) := by rw [Lib.cell_of_heap hout]; rfl
      have p4 : wr.cell? ⟨B, 4, none⟩ = some (.slice a pre.length c) := by rw [Lib.cell_of_heap hout]; rfl
      clear hlx hout hown hres hbw hdur hpp hpl hend
      go_wp2
      have hpost : DurPost l w (.returned (nodeV 39 ⟨#[]⟩ 0 a pre.length c)) (((((wr.setCell ⟨w.heap.size, 0, none⟩ (.int .i64 39)).setCell ⟨w.heap.size, 1, none⟩ (.string ⟨#[]⟩)).setCell ⟨w.heap.size, 2, none⟩ (.string ⟨#[]⟩)).setCell ⟨w.heap.size, 3, none⟩ (.int .u64 0)).setCell ⟨w.heap.size, 4, none⟩ (.slice a pre.length c)) := by
        have hp := HP.out
        subst hp
        refine ⟨a, c, rfl, ?_, ?_⟩
        · have hg : wr.grownBy (((((wr.setCell ⟨w.heap.size, 0, none⟩ (.int .i64 39)).setCell ⟨w.heap.size, 1, none⟩ (.string ⟨#[]⟩)).setCell ⟨w.heap.size, 2, none⟩ (.string ⟨#[]⟩)).setCell ⟨w.heap.size, 3, none⟩ (.int .u64 0)).setCell ⟨w.heap.size, 4, none⟩ (.slice a pre.length c)) (some w.heap.size) :=
            Lib.grownBy_setB (Lib.grownBy_setB (Lib.grownBy_setB (Lib.grownBy_setB (Lib.grownBy_setB (World.grownBy.refl wr _) 0 _) 1 _) 2 _) 3 _) 4 _
          have ho := World.ownsRow.kept HO.out hg (.inr fun e => by have := (HO.out.lt _ e).1; omega)
          refine ⟨ho.1, ho.2.imp id ?_⟩
          rintro ⟨g, cap, cur, h1, h2, h3⟩
          exact ⟨g, cap, cur, h1, by omega, h3⟩
        · exact ((((HBW.out.setCell (p := ⟨w.heap.size, 0, none⟩) (Nat.le_refl _) _).setCell (p := ⟨w.heap.size, 1, none⟩) (Nat.le_refl _) _).setCell (p := ⟨w.heap.size, 2, none⟩) (Nat.le_refl _) _).setCell (p := ⟨w.heap.size, 3, none⟩) (Nat.le_refl _) _).setCell (p := ⟨w.heap.size, 4, none⟩) (Nat.le_refl _) _
      exact bodyPost_ret (v := nodeV 39 ⟨#[]⟩ 0 a pre.length c) (by simp [nodeV, results, Tryz.results116, go_sem, z0, z1, z2, z3, z4]) rfl hpost
    | cons y post' =>
      obtain ⟨r1, r2, _, ⟨i2, ri, re, rb, rn⟩, r5, r6, r7, r8⟩ := part_at s pre post' y (by rw [HS.out, hpp.out]) (by rw [hpp.out]; exact HOK.out)
      have hyl : y ∈ l := by rw [← hpp.out]; simp
      obtain ⟨hmu, hem, hul⟩ := mu_no y.2 (HOK.out y hyl).2.2
      have hpt := part_text s pre post' y (by rw [HS.out, hpp.out])
      have hvy := HV.out y hyl
      have hdy := (HOK.out y hyl).2.1
      have hny := (HOK.out y hyl).1
      obtain ⟨p, hp⟩ : ∃ p, p = (spanB pre).length := ⟨_, rfl⟩
      obtain ⟨n, hn⟩ : ∃ n, n = y.1.length := ⟨_, rfl⟩
      rw [← hp] at hlx r1 r2 rb rn r5 hpt
      rw [← hn] at r1 r2 rb rn r5 r6 hpt
      have HPP : Hid ((pre ++ [y]) ++ post' = l) := Lib.hid (by rw [← hpp.out]; simp)
      have HRES := Lib.hid hres
      have HOUT := Lib.hid hout
      have HOWN := Lib.hid hown
      have HBW := Lib.hid hbw
      have HLX := Lib.hid hlx
      have HDG := Lib.hid (digits_lx (B + 1) p n s [] _ hsz r1 wr hlx)
      have HPQ := Lib.hid hp
      have HNQ := Lib.hid hn
      have HR5 := Lib.hid r5
      have hl1 := hlx.c1
      have hlt1 : (p : Int) < s.size := by omega
      have hsl0 := fun W => run_slice_string (P := Tryz.prog) W 9 s .i64 .i64 (p : Int) ((p : Int) + n) Tryz.underlying9 (by omega) (by omega) (by omega)
      have hsl1 : ∀ W, (Instr.slice 9 (.string s) (some (.int .i64 (p : Int))) (some (.int .i64 (((p + n : Nat)) : Int))) none).run Tryz.prog W = .ok (.string (s.extract p (p + n))) W := fun W => by
        rw [show (((p + n : Nat)) : Int) = (p : Int) + n by omega]
        exact hsl0 W
      have hsl2 : ∀ W, (Instr.slice 9 (.string s) (some (.int .i64 (p : Int))) (some (.int .i64 ((p : Int) + n))) none).run Tryz.prog W = .ok (.string (s.extract p (p + n))) W := hsl0
      have hts : (s.extract p (p + n)).size ≤ 10000 := by simp; omega
      obtain ⟨t0, ht0⟩ : ∃ t0, t0 = s.extract p (p + n) := ⟨_, rfl⟩
      rw [← ht0] at hpt hsl1 hsl2 hts
      have HUI := Lib.hid (fun W => uintOf_any t0 hts (by rw [hpt]; exact hdy) (by rw [hpt]; omega) (by rw [hpt]; exact hny) W)
      rw [hpt] at HUI
      have HMG : Hid (magOf y = (((decV y.1 : Nat) : Int), ⟨y.2.toArray⟩)) := Lib.hid rfl
      obtain ⟨vn, hvn⟩ : ∃ vn, vn = decV y.1 := ⟨_, rfl⟩
      rw [← hvn] at HUI hvy HMG
      have hUN := fun W (h : LxAt (B + 1) s (p + n) [] 59 W) => unit_lx (B + 1) (p + n) i2 s [] _ hsz (by omega) ri rb rn W h
      rw [re] at hUN
      have HUS : Hid ((⟨y.2.toArray⟩ : ByteArray).size = y.2.length) := Lib.hid (by show y.2.toArray.size = _; simp)
      generalize (⟨y.2.toArray⟩ : ByteArray) = u at *
      have HUN := Lib.hid hUN
      have hhp : p + n ≤ 10000 := by omega
      clear hsl0 hlx hout hown hres hbw hdur r1 rb rn r5 hpt hdy hny hp hn ht0 hvn hUN re
      go_wp2_with fail
      ((with_reducible refine HDG.out.mono ?_))
      rintro e w2 ⟨rfl, h2, g2⟩
      have hl2 := h2.c1
      have H2 := Lib.hid h2
      have G2 := Lib.hid g2
      clear h2 g2 hl1
      go_wp2_with fail
      ((with_reducible refine (HUI.out _).mono ?_))
      rintro e w3 ⟨rfl, hb3⟩
      have H3 := Lib.hid (H2.out.below hb3)
      have HB3 := Lib.hid hb3
      clear hb3 hl2
      go_wp2_with fail
      ((with_reducible refine (HUN.out _ H3.out).mono ?_))
      rintro e w4 ⟨rfl, hb4⟩
      have H4 := Lib.hid (H3.out.below hb4)
      have HB4 := Lib.hid hb4
      have hl4 := H4.out.c1
      have hf4 := H4.out.fz 1
      have hsh : ¬ ((0 : Int) < (vn : Int) / 9223372036854775808) := by omega
      have hpu : p + n + u.size ≤ 100000 := by omega
      have hne1 : (Value.slice a pre.length c).ownBlock ≠ some (B + 1) := fun e => by have := (HOWN.out.lt _ e).1; omega
      have hne0 : (Value.slice a pre.length c).ownBlock ≠ some B := fun e => by have := (HOWN.out.lt _ e).1; omega
      have hB2 : B < wr.heap.size := by omega
      have hout2 := (G2.out.block B hB2 (by intro e; have := Option.some.inj e; omega)).trans HOUT.out
      have hout3 := (HB3.out.block B (Array.getElem?_eq_some_iff.1 hout2).1).trans hout2
      have hout4 := (hb4.block B (Array.getElem?_eq_some_iff.1 hout3).1).trans hout3
      have hres2 := (G2.out.block w.heap.size (Array.getElem?_eq_some_iff.1 HRES.out).1 (by intro e; have := Option.some.inj e; omega)).trans HRES.out
      have hres3 := (HB3.out.block w.heap.size (Array.getElem?_eq_some_iff.1 hres2).1).trans hres2
      have hres4 := (hb4.block w.heap.size (Array.getElem?_eq_some_iff.1 hres3).1).trans hres3
      have hown2 := World.ownsRow.kept HOWN.out G2.out (.inr hne1)
      have hown3 := World.ownsRow.kept hown2 (grown_of_below HB3.out none) (by cases h : (Value.slice a pre.length c).ownBlock <;> simp)
      have hown4 := World.ownsRow.kept hown3 (grown_of_below hb4 none) (by cases h : (Value.slice a pre.length c).ownBlock <;> simp)
      have hw2 : Below w.heap.size w w2 := HBW.out.grown G2.out HBW.out.size (fun k e => by cases e; omega)
      have HBW4 := Lib.hid ((hw2.trans (HB3.out.mono hw2.size)).trans (hb4.mono (Nat.le_trans hw2.size HB3.out.size)))
      have HOUT4 := Lib.hid hout4
      have HRES4 := Lib.hid hres4
      have HOWN4 := Lib.hid hown4
      have g4 : w4.cell? ⟨B, 4, none⟩ = some (.slice a pre.length c) := by rw [Lib.cell_of_heap hout4]; rfl
      have hmx : pre.length + 1 ≤ maxLen := by unfold maxLen; omega
      have hbl : (pre.length + 1) * 72 ≤ 140737488355328 := by omega
      have hown5 : (w4.setCell ⟨B + 1, 1, none⟩ (.int .i64 ((p : Int) + n + u.size))).ownsRow (B + 2) 26 5 (.slice a pre.length c) pre.length ((pre.map magOf).flatMap magCells) := World.ownsRow.kept hown4 (Lib.grownBy_setB (World.grownBy.refl w4 _) 1 _) (.inr hne1)
      have HOWN5 := Lib.hid hown5
      clear hb4 hout2 hout3 hout4 hres2 hres3 hres4 hown2 hown3 hown4 hown5 hw2
      go_wp2_with (at_builtin; refine wpList_append_own _ rfl _ _ 24 rfl (B + 2) 26 i0 _ 5 72 Tryz.underlying24 hi hz0 hz1 hz2 rfl (by decide) _ _ _ rfl (HOWN5.out.alloc _) _ 1 1 [.int .i64 40, .string u, .string ⟨#[]⟩, .int .u64 vn, .slice none 0 0] rfl rfl ?c1 ?c2 hmx hbl ?c3 ?_)
      case c1 => exact World.news_of_block (cs := #[.int .i64 40, .string u, .string ⟨#[]⟩, .int .u64 vn, .slice none 0 0]) (t := 26) (fr := (0, 0)) (by
        have h := heap_alloc_new (w4.setCell ⟨B + 1, 1, none⟩ (.int .i64 ((p : Int) + n + u.size))) (.cells #[.int .i64 40, .string u, .string ⟨#[]⟩, .int .u64 vn, .slice none 0 0] 26)
        rwa [show (w4.setCell ⟨B + 1, 1, none⟩ (.int .i64 ((p : Int) + n + u.size))).heap.size = w4.heap.size by simp [World.setCell]] at h)
      case c2 => exact magCells_one ((vn : Int), u)
      case c3 =>
        have h := H4.out.lt
        simp [World.setCell]
        omega
      intro v' w5 hown' hgrow _
      have hlx5 : LxAt (B + 1) s (p + n + u.size) [] 59 (w4.setCell ⟨B + 1, 1, none⟩ (.int .i64 ((p : Int) + n + u.size))) := by
        have h := H4.out.put1 (p + n + u.size)
        rwa [show (((p + n + u.size : Nat)) : Int) = (p : Int) + n + u.size by omega] at h
      have hlx6 := hlx5.alloc (.cells #[.int .i64 40, .string u, .string ⟨#[]⟩, .int .u64 vn, .slice none 0 0] 26)
      have hlx7 := hlx6.of_heap (hgrow.block (B + 1) hlx6.lt (Ne.symm hne1))
      have hout5 := row_kept HOUT4.out (B + 1) 1 (.int .i64 ((p : Int) + n + u.size)) (by omega)
      have hout6 := (Below.heap_alloc _ (.cells #[.int .i64 40, .string u, .string ⟨#[]⟩, .int .u64 vn, .slice none 0 0] 26) _ (Array.getElem?_eq_some_iff.1 hout5).1).trans hout5
      have hout7 := (hgrow.block B (Array.getElem?_eq_some_iff.1 hout6).1 (Ne.symm hne0)).trans hout6
      have hres5 := row_kept HRES4.out (B + 1) 1 (.int .i64 ((p : Int) + n + u.size)) (by omega)
      have hres6 := (Below.heap_alloc _ (.cells #[.int .i64 40, .string u, .string ⟨#[]⟩, .int .u64 vn, .slice none 0 0] 26) _ (Array.getElem?_eq_some_iff.1 hres5).1).trans hres5
      have hres7 := (hgrow.block w.heap.size (Array.getElem?_eq_some_iff.1 hres6).1 (fun e => by have := (HOWN.out.lt _ e.symm).1; omega)).trans hres6
      have hb5 := (HBW4.out.setCell (p := ⟨B + 1, 1, none⟩) (by show w.heap.size ≤ B + 1; omega) (.int .i64 ((p : Int) + n + u.size))).alloc (by have := HBW4.out.size; simpa [World.setCell] using this) (.cells #[.int .i64 40, .string u, .string ⟨#[]⟩, .int .u64 vn, .slice none 0 0] 26)
      have hb7 := hb5.grown hgrow hb5.size (fun k e => by have := (HOWN.out.lt k e).1; omega)
      obtain ⟨a', c', rfl⟩ := slice_form hown'
      have hown8 := World.ownsRow.kept hown' (Lib.grownBy_setB (World.grownBy.refl w5 (some B)) 4 (.slice a' (pre.length + 1) c')) (.inr fun e => by have := (hown'.lt _ e).1; omega)
      have HD8 : Hid (DurAt w B s (pre ++ [y]) (w5.setCell ⟨B, 4, none⟩ (.slice a' (pre.length + 1) c'))) := Lib.hid (by
        refine ⟨?_, ⟨a', c', ?_, ?_⟩, ?_, ?_, ?_⟩
        · have e : (spanB (pre ++ [y])).length = p + n + u.size := by have h1 := HR5.out; have h2 := HUS.out; omega
          rw [e]
          exact row_kept hlx7 B 4 _ (by omega)
        · rw [List.length_append]
          exact row_set hout7 4 _
        · rw [List.length_append, List.map_append, List.flatMap_append, List.map_singleton, List.flatMap_singleton, HMG.out]
          exact hown8
        · exact row_kept hres7 B 4 _ (by omega)
        · exact hb7.setCell (p := ⟨B, 4, none⟩) (by show w.heap.size ≤ B; omega) _
        · have h := hlx7.lt
          simp [World.setCell]
          omega)
      have k4 : w5.cell? ⟨B, 4, none⟩ = some (.slice a pre.length c) := by rw [Lib.cell_of_heap hout7]; rfl
      have kf := Lib.frozen_of_heap hout7 4
      have HLXW := Lib.hid HLX.out
      clear hlx5 hlx6 hlx7 hout5 hout6 hout7 hres5 hres6 hres7 hb5 hb7 hown8 hown' hgrow hne0 hne1 g4 hl4 hf4
      go_wp2
      go_roundw
      case rel => exact ⟨pre ++ [y], post', HPP, HD8⟩
      case measure =>
        rw [HD8.out.1.pos, HLXW.out.pos]
        have h1 := HR5.out
        omega

end Go.Proofs.YtciaahpocaejhaaGreatDoor
