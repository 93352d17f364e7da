/- spec's maker of flatbuffers: tables. -/
import Derived.Test.YtgceklahjdbipaaGreatDoorMaker
import Derived.Test.YtgceklahjdbipaaGreatDoorBufPure
import Derived.Deep.RegionHeld3
import Derived.Test.YtgceklahjdbipaaGreatDoorOwn2
import Derived.Laws.MakeOwn
import Derived.Laws.EntriesVeiled
import Derived.Deep.DeepCutAuto
namespace Go.Proofs.YtgceklahjdbipaaGreatDoor
open Go Go.RowKit
set_option linter.unusedVariables false
set_option linter.unusedSimpArgs false

/-- What a slot refers to: nothing, or a function that writes it, in whatever world the maker moves to. -/
def FnOk (M : Nat) (base : Bool) (w : World) (f : Value) (s : SlotP) (sz : Nat) : Prop :=
  match s.ref with
  | none => f = .nilFunc
  | some P => ∃ fid caps, f = .func (.func fid) #[] caps ∧ (∀ args W, (callFunc fid args).run Tryz.prog W = .ok (.enter fid args) W) ∧ ∀ W out, Moves M w W → Mk M base out W → out.length + sz < 900000000 → Calls Tryz.prog fid (#[.pointer (some ⟨M, 0, none⟩)] ++ caps) W (AtPost M base (P out).1 (P out).2 W)

/-- Slots in memory. -/
def SlotsAt (B o : Nat) (l : List SlotP) (fv : Nat → Value) (w : World) : Prop :=
  B < w.heap.size ∧ ∀ k (h : k < l.length), w.cell? ⟨B, o + k * 4, none⟩ = some (.int .i64 l[k].idx) ∧ w.cell? ⟨B, o + k * 4 + 1, none⟩ = some (.int .i64 l[k].width) ∧ w.cell? ⟨B, o + k * 4 + 2, none⟩ = some (.int .u64 l[k].num) ∧ w.cell? ⟨B, o + k * 4 + 3, none⟩ = some (fv k)

theorem SlotsAt.of_heap {B o : Nat} {l : List SlotP} {fv : Nat → Value} {w w' : World} (h : SlotsAt B o l fv w) (hs : B < w'.heap.size) (e : w'.heap[B]? = w.heap[B]?) : SlotsAt B o l fv w' :=
  ⟨hs, fun k hk => by
    obtain ⟨h0, h1, h2, h3⟩ := h.2 k hk
    have hc : ∀ i, w'.cell? ⟨B, i, none⟩ = w.cell? ⟨B, i, none⟩ := fun i => World.cell?_of_block e
    rw [hc, hc, hc, hc]
    exact ⟨h0, h1, h2, h3⟩⟩

theorem SlotsAt.below {B o : Nat} {l : List SlotP} {fv : Nat → Value} {w w' : World} (h : SlotsAt B o l fv w) (hb : Below w.heap.size w w') : SlotsAt B o l fv w' :=
  h.of_heap (Nat.lt_of_lt_of_le h.1 hb.size) (hb.block B h.1)

theorem SlotsAt.moves {M B o : Nat} {l : List SlotP} {fv : Nat → Value} {w w' : World} (h : SlotsAt B o l fv w) (hm : Moves M w w') (hB : MkOther M B w) : SlotsAt B o l fv w' :=
  h.of_heap (Nat.lt_of_lt_of_le h.1 hm.size) (hm.keep B h.1 hB).1

/-- Places in memory. -/
def PlacesAt (G : Nat) (ps : List Nat) (w : World) : Prop := w.heap[G]? = some (.cells (ps.map fun p : Nat => Value.int .i64 (p : Int)).toArray 3 (0, 0))

theorem PlacesAt.lt {G : Nat} {ps : List Nat} {w : World} (h : PlacesAt G ps w) : G < w.heap.size := (Array.getElem?_eq_some_iff.1 h).1
theorem PlacesAt.cell {G : Nat} {ps : List Nat} {w : World} (h : PlacesAt G ps w) (i : Nat) (hi : i < ps.length) : w.cell? ⟨G, i, none⟩ = some (.int .i64 (ps.getD i 0 : Nat)) := by
  rw [Lib.cell_of_heap h]
  simp [List.getD, hi]
theorem PlacesAt.fz {G : Nat} {ps : List Nat} {w : World} (h : PlacesAt G ps w) (i : Nat) : w.frozen? ⟨G, i, none⟩ = false := Lib.frozen_of_heap h i
theorem PlacesAt.below {G : Nat} {ps : List Nat} {w w' : World} (h : PlacesAt G ps w) (hb : Below w.heap.size w w') : PlacesAt G ps w' := (hb.block G h.lt).trans h
theorem PlacesAt.set {G : Nat} {ps : List Nat} {w : World} (h : PlacesAt G ps w) (i v : Nat) : PlacesAt G (ps.set i v) (w.setCell ⟨G, i, none⟩ (.int .i64 v)) := by
  unfold PlacesAt at h ⊢
  unfold World.setCell
  simp only [Array.getElem?_modify, if_true, h, Option.map_some]
  simp [List.map_set]

theorem zeros_places (N : Nat) : ((List.replicate N 0).map fun p : Nat => Value.int .i64 (p : Int)).toArray = Array.replicate N (.int .i64 0) := by
  simp

theorem row_other {w : World} {b : Nat} {ob : Obj} (h : w.heap[b]? = some ob) (c i : Nat) (v : Value) (hne : b ≠ c) : (w.setCell ⟨c, i, none⟩ v).heap[b]? = some ob :=
  (Below.heap_setCell _ _ _ _ hne).trans h

theorem made_ints (N : Nat) : madeCells #[.int .i64 0] (N * 1) = Array.replicate N (.int .i64 0) := by
  apply Array.ext
  · simp [size_madeCells]
  · intro i h1 h2
    simp [madeCells, Nat.mod_one]

theorem int_info : (Tryz.prog.info? 3).map (fun i => (i.zero, i.size, i.bytes)) = some (some (.int .i64 0), 1, 8) := by kernel_rfl

theorem make_ints (N : Nat) (hN : N < 100000) (W : World) : (Instr.makeSlice 291 (.int .i64 N) (.int .i64 N)).run Tryz.prog W = .ok (.slice (some ⟨W.heap.size, 0, none⟩) N N) (W.alloc (.cells (Array.replicate N (.int .i64 0)) 3)) := by
  obtain ⟨i0, hi, hz0, hz1, hz2⟩ := info_parts int_info
  have := run_make W 291 3 i0 _ Tryz.underlying291 hi hz0 .i64 .i64 N N (by omega) (Int.le_refl _) (by rw [hz2]; omega) (by omega)
  rw [this, hz1, Int.toNat_natCast, show (Value.int .i64 0).cells = #[.int .i64 0] from rfl, made_ints]

theorem widths_at : ∀ j (h : j < 4), (#[Value.int .i64 8, .int .i64 4, .int .i64 2, .int .i64 1] : Array Value)[j]? = some (.int .i64 (([8, 4, 2, 1][j]'h : Nat) : Int)) := by
  intro j h
  match j, h with
  | 0, _ => rfl
  | 1, _ => rfl
  | 2, _ => rfl
  | 3, _ => rfl

theorem MkRow.ptr {M : Nat} {base : Bool} {out : List UInt8} {ad : Option Addr} {L c : Nat} {w : World} (h : MkRow M base out (.slice ad L c) w) (hL : out.length = L) (h0 : 0 < L) : ∃ g, ad = some ⟨g, 0, none⟩ ∧ L ≤ c ∧ c ≤ maxLen := by
  rcases h.2.1.2 with ⟨_, h1⟩ | ⟨g, cap, cur, hv, _, _, hnc, hcm, _⟩
  · omega
  · simp only [Value.slice.injEq] at hv
    obtain ⟨rfl, _, rfl⟩ := hv
    exact ⟨g, rfl, by omega, hcm⟩

/-- A block that the maker leaves alone. -/
def OtherAt (M b : Nat) (ob : Obj) (W : World) : Prop := W.heap[b]? = some ob ∧ MkOther M b W

theorem OtherAt.lt {M b : Nat} {ob : Obj} {W : World} (h : OtherAt M b ob W) : b < W.heap.size := (Array.getElem?_eq_some_iff.1 h.1).1
theorem OtherAt.go {M b : Nat} {ob : Obj} {W W' : World} (h : OtherAt M b ob W) (hm : Moves M W W') : OtherAt M b ob W' :=
  ⟨(hm.keep b h.lt h.2).1.trans h.1, (hm.keep b h.lt h.2).2⟩
theorem OtherAt.drew {M b : Nat} {ob : Obj} {W : World} (h : OtherAt M b ob W) : OtherAt M b ob W.drew := h
theorem slot_cells {M b : Nat} {a0 a1 a2 a3 : Value} {T : TypeId} {W : World} (h : OtherAt M b (.cells #[a0, a1, a2, a3] T (0, 0)) W) : W.cell? ⟨b, 0, none⟩ = some a0 ∧ W.cell? ⟨b, 1, none⟩ = some a1 ∧ W.cell? ⟨b, 2, none⟩ = some a2 ∧ W.cell? ⟨b, 3, none⟩ = some a3 := by
  refine ⟨?_, ?_, ?_, ?_⟩ <;> (rw [Lib.cell_of_heap h.1]; rfl)

theorem step_int (k : Nat) : Value.int .i64 ((k : Int) + 1) = .int .i64 ((k + 1 : Nat) : Int) := rfl
theorem step_measure (n k : Nat) (h : k < n) : n - (intOf (.int .i64 ((k : Int) + 1))).toNat < n - (intOf (.int .i64 (k : Int))).toNat := by
  simp [intOf]
  omega

/-- What stands all along while the maker writes. -/
structure TabSt (M B o : Nat) (l : List SlotP) (fv : Nat → Value) (G : Nat) (places : List Nat) (w W : World) : Prop where
  mv : Moves M w W
  pl : PlacesAt G places W
  og : MkOther M G W
  sl : SlotsAt B o l fv W
  ob : MkOther M B W

theorem TabSt.go {M B o : Nat} {l : List SlotP} {fv : Nat → Value} {G : Nat} {places : List Nat} {w W W' : World} (h : TabSt M B o l fv G places w W) (hm : Moves M W W') : TabSt M B o l fv G places w W' :=
  ⟨h.mv.trans hm, (hm.keep G h.pl.lt h.og).1.trans h.pl, (hm.keep G h.pl.lt h.og).2, h.sl.moves hm h.ob, (hm.keep B h.sl.1 h.ob).2⟩

theorem TabSt.drew {M B o : Nat} {l : List SlotP} {fv : Nat → Value} {G : Nat} {places : List Nat} {w W : World} (h : TabSt M B o l fv G places w W) : TabSt M B o l fv G places w W.drew := ⟨h.mv.drew, h.pl, h.og, h.sl, h.ob⟩

theorem little_u (u k : Nat) (x : Int) (hx : x = (u : Int)) (hk0 : 0 < k) (hk : k ≤ 8) (hu : u < 18446744073709551616) : Hid (∀ W, Calls Tryz.prog 23 #[.int .u64 x, .int .i64 k] W (LitPost2 u k W)) := Lib.hid fun W => by
  rw [hx]
  exact little_pos u k hk0 hk hu W

theorem wrap_nat (u : Nat) (x : Int) (hx : x = (u : Int)) (hu : u < 18446744073709551616) : IntKind.u64.wrap x = x := by
  rw [IntKind.wrap_u64]
  omega

set_option maxHeartbeats 8000000 in
set_option maxRecDepth 100000 in
theorem table_any (fs : List SlotQ) (places : List Nat) (size : Nat) (hpl : layout (fs.map SlotQ.s) = (places, size)) (hm : most1 (fs.map SlotQ.s) = places.length) (hm1 : places.length < 1000) (hsz4 : 4 ≤ size) (hsz : size < 60000)
    (hplaces : ∀ p ∈ places, p < 65536) (hlo : ∀ f ∈ fs, 4 ≤ plc places f.s) (hfit : ∀ f ∈ fs, plc places f.s + f.s.width ≤ size) (hap : (fs.map SlotQ.s).Pairwise (Apart places))
    (hok : ∀ f ∈ fs, ∀ P, f.s.ref = some P → f.s.width = 4 ∧ PartOk P f.sz f.Q) (hwid : ∀ f ∈ fs, 0 < f.s.width ∧ f.s.width ≤ 8) (hnum : ∀ f ∈ fs, f.s.num < 18446744073709551616) (hfl : fs.length ≤ 100)
    (M : Nat) (base : Bool) (out : List UInt8) (B o cap : Nat) (fv : Nat → Value) (w : World) (h : Mk M base out w) (hB : MkOther M B w) (hs : SlotsAt B o (fs.map SlotQ.s) fv w) (hfn : ∀ k (h : k < fs.length), FnOk M base w (fv k) fs[k].s fs[k].sz)
    (hout : out.length + (12 + 2 * places.length + size + szSum fs) < 900000000) :
    Calls Tryz.prog 67 #[.pointer (some ⟨M, 0, none⟩), .slice (some ⟨B, o, none⟩) fs.length cap] w (AtPost M base (tableB (fs.map SlotQ.s) out).1 (tableB (fs.map SlotQ.s) out).2 w) := by
  have hll : (fs.map SlotQ.s).length = fs.length := List.length_map ..
  have hc : ∀ k, k < fs.length → (fv k).oneCell' = true := fun k hk => by
    have := hfn k hk
    unfold FnOk at this
    split at this
    · rw [this]; rfl
    · obtain ⟨fid, caps, e, _⟩ := this
      rw [e]; rfl
  have H := Lib.hid h
  have HS := Lib.hid hs
  have hM := h.lt
  obtain ⟨l, hl⟩ : ∃ l, l = fs.map SlotQ.s := ⟨_, rfl⟩
  rw [← hl] at hpl hm hap hll HS ⊢
  have HL := Lib.hid hl
  have HLL := Lib.hid hll
  obtain ⟨n, hn⟩ : ∃ n, n = fs.length := ⟨_, rfl⟩
  rw [← hn] at hll hfl hc ⊢
  have HN := Lib.hid hn
  clear hn
  have HC := Lib.hid hc
  have hidx : ∀ k (h : k < l.length), l[k].idx < 1000 := fun k h => by
    have := idx_most l l[k] (List.getElem_mem h)
    omega
  have HIDX := Lib.hid hidx
  have HFL : Hid (∀ s ∈ l, plc places s + s.width ≤ size) := Lib.hid (by
    intro s hs
    rw [hl] at hs
    obtain ⟨f, hf, rfl⟩ := List.mem_map.1 hs
    exact hfit f hf)
  have HFN : Hid (∀ k (hk : k < l.length), ∃ f ∈ fs, l[k] = f.s ∧ FnOk M base w (fv k) f.s f.sz ∧ szSum (fs.take k) + (match f.s.ref with | none => 0 | some _ => f.sz) ≤ szSum fs) := Lib.hid (by
    intro k hk
    have hk2 : k < fs.length := by rw [← HLL.out]; exact hk
    exact ⟨fs[k], List.getElem_mem hk2, by simp [hl], hfn k hk2, szSum_take fs k hk2⟩)
  have HAP := Lib.hid hap
  have HWID := Lib.hid hwid
  have HNUM := Lib.hid hnum
  have HOK := Lib.hid hok
  have HLO := Lib.hid hlo
  have HOUT := Lib.hid hout
  have HPL := Lib.hid hpl
  have HPL2 := Lib.hid hpl
  have HM := Lib.hid hm
  have HFIT := Lib.hid hfit
  clear h hs hl hidx hpl hm hfit hc hap hfn hwid hnum hok hlo
  go_enter Tryz.func67, Tryz.ntmps67
  go_wp2
  go_loopw [5, 26] (fun m i wr => ∃ k : Nat, k ≤ n ∧ i = .int .i64 k ∧ m = .int .i64 ((most1 (l.take k) : Int) - 1) ∧ Hid (Below w.heap.size w wr)) (fun _ i _ => n - (intOf i).toNat)
  case atStart => exact ⟨0, Nat.zero_le _, rfl, rfl, Lib.hid (Below.refl _ _)⟩
  case round =>
    obtain ⟨k, hk, rfl, rfl, HB⟩ := hrel
    by_cases hlt : k < n
    ·
      --[
      obtain ⟨d0, d1, d2, d3⟩ := (HS.out.below HB.out).2 k (by omega)
      have hst : ∀ (W : World) (a : Addr), (store a (fv k)).run Tryz.prog W = stored Tryz.prog W a (fv k) .plain := fun W a => run_store _ W a _ .plain (HC.out k hlt)
      have hi0 := HIDX.out k (by omega)
      have hmt := most_take l k (by omega)
      have hmle := most_le (l.take k) 1000 (fun s hs => by obtain ⟨i, hi, rfl⟩ := List.getElem_of_mem (List.mem_of_mem_take hs); exact HIDX.out i hi)
      have HMT := Lib.hid hmt
      generalize l[k] = sk at *
      generalize most1 (l.take k) = mk at *
      clear hmt
      go_wp2
      go_roundw
      case rel =>
        refine ⟨k + 1, by omega, by go_num, ?_, Lib.hid (HB.out.alloc HB.out.size _)⟩
        rw [HMT.out]
        congr 1
        split <;> omega
      case measure => simp [intOf]; omega
      --]
    · have hkn : n = k := by omega
      subst hkn
      rw [show l.take n = l by rw [← hll]; exact List.take_length, HM.out]
      generalize hN : places.length = N at *
      have HNN := Lib.hid hN
      clear hN
      have hmk := make_ints N (by omega)
      have hG := HB.out.size
      go_wp2
      clear hmk
      have hb1 : Below w.heap.size w (wr.alloc (.cells (Array.replicate N (.int .i64 0)) 3)) := HB.out.alloc HB.out.size _
      have hp1 : PlacesAt wr.heap.size (List.replicate N 0) (wr.alloc (.cells (Array.replicate N (.int .i64 0)) 3)) := by
        unfold PlacesAt
        rw [zeros_places]
        exact heap_alloc_new wr _
      have hs1 : (wr.alloc (.cells (Array.replicate N (.int .i64 0)) 3)).heap.size = wr.heap.size + 1 := alloc_size _ _
      generalize wr.alloc (.cells (Array.replicate N (.int .i64 0)) 3) = w1 at *
      have hb2 := hb1.alloc hb1.size (.cells #[.int .i64 8, .int .i64 4, .int .i64 2, .int .i64 1] 3)
      have hp2 := hp1.below ((Below.refl _ w1).alloc (Nat.le_refl _) (.cells #[.int .i64 8, .int .i64 4, .int .i64 2, .int .i64 1] 3))
      have hw2 : (w1.alloc (.cells #[.int .i64 8, .int .i64 4, .int .i64 2, .int .i64 1] 3)).heap[w1.heap.size]? = some (.cells #[.int .i64 8, .int .i64 4, .int .i64 2, .int .i64 1] 3 (0, 0)) := heap_alloc_new w1 _
      rw [hs1] at hw2
      generalize w1.alloc (.cells #[.int .i64 8, .int .i64 4, .int .i64 2, .int .i64 1] 3) = w2 at *
      have HB2 := Lib.hid hb2
      have HP2 := Lib.hid hp2
      have HW2 := Lib.hid hw2
      clear hb2 hp2 hw2 hp1 hb1 hs1 hk
      generalize hGG : wr.heap.size = G at *
      clear hGG
      go_loopw [9, 40] (fun s i wx => ∃ j : Nat, j ≤ 4 ∧ i = .int .i64 j ∧ s = .int .i64 ((layAt l j).2 : Nat) ∧ Hid (PlacesAt G (layAt l j).1 wx) ∧ Hid (wx.heap[G + 1]? = some (.cells #[.int .i64 8, .int .i64 4, .int .i64 2, .int .i64 1] 3 (0, 0))) ∧ Hid (Below w.heap.size w wx)) (fun _ i _ => 4 - (intOf i).toNat)
      case atStart => exact ⟨0, by omega, rfl, rfl, Lib.hid (by rw [show (layAt l 0).1 = List.replicate (most1 l) 0 from rfl, HM.out]; exact HP2.out), HW2, HB2⟩
      case round =>
        obtain ⟨j, hj, rfl, rfl, HPx, HWx, HBx⟩ := hrel
        by_cases hlt4 : j < 4
        ·
          --[
          have dw : wr.cell? ⟨G + 1, j, none⟩ = some (.int .i64 (([8, 4, 2, 1][j]'hlt4 : Nat) : Int)) := by rw [Lib.cell_of_heap HWx.out]; exact widths_at j hlt4
          obtain ⟨hw0, hw8⟩ := width_ok j hlt4
          have HAS := Lib.hid (layAt_succ l j hlt4)
          generalize [8, 4, 2, 1][j]'hlt4 = wd at *
          go_wp2
          go_loopw [9, 46] (fun s i wx => ∃ k : Nat, k ≤ n ∧ i = .int .i64 k ∧ s = .int .i64 ((layIn l wd j k).2 : Nat) ∧ Hid (PlacesAt G (layIn l wd j k).1 wx) ∧ Hid (wx.heap[G + 1]? = some (.cells #[.int .i64 8, .int .i64 4, .int .i64 2, .int .i64 1] 3 (0, 0))) ∧ Hid (Below w.heap.size w wx)) (fun _ i _ => n - (intOf i).toNat)
          case atStart => exact ⟨0, Nat.zero_le _, rfl, rfl, HPx, HWx, HBx⟩
          case round =>
            obtain ⟨k, hk, rfl, rfl, HPy, HWy, HBy⟩ := hrel
            by_cases hlk : k < n
            · obtain ⟨d0, d1, d2, d3⟩ := (HS.out.below HBy.out).2 k (by omega)
              have hst : ∀ (W : World) (a : Addr), (store a (fv k)).run Tryz.prog W = stored Tryz.prog W a (fv k) .plain := fun W a => run_store _ W a _ .plain (HC.out k hlk)
              have hi0 := idx_most l l[k] (List.getElem_mem (by omega))
              rw [HM.out] at hi0
              have hlok := layIn_ok l wd j k (by omega) hw0 hw8 (by omega)
              have HSUC := Lib.hid (layIn_succ l wd j k (by omega))
              have hbz := HBy.out.alloc HBy.out.size (.cells #[.int .i64 l[k].idx, .int .i64 l[k].width, .int .u64 l[k].num, fv k] 267)
              have hbz1 := (Below.refl _ wr).alloc (Nat.le_refl _) (.cells #[.int .i64 l[k].idx, .int .i64 l[k].width, .int .u64 l[k].num, fv k] 267)
              have HPz := Lib.hid (HPy.out.below hbz1)
              have HWz := Lib.hid ((hbz1.block (G + 1) (Array.getElem?_eq_some_iff.1 HWy.out).1).trans HWy.out)
              have HBz := Lib.hid hbz
              have hsl : (wr.alloc (.cells #[.int .i64 l[k].idx, .int .i64 l[k].width, .int .u64 l[k].num, fv k] 267)).heap[wr.heap.size]? = some (.cells #[.int .i64 l[k].idx, .int .i64 l[k].width, .int .u64 l[k].num, fv k] 267 (0, 0)) := heap_alloc_new wr _
              clear hbz hbz1
              generalize l[k] = sk at *
              generalize layIn l wd j k = acc at *
              obtain ⟨ps, s0⟩ := acc
              obtain ⟨ix, wk, nu, rf⟩ := sk
              obtain ⟨hps, hple, hs0⟩ := hlok
              simp only at d0 d1 d2 d3 hi0 hps hs0 hple HPy HPz HWz HBz hsl
              have hs1 : s0 ≤ 8004 := by omega
              rw [HM.out] at hps
              have HPS := Lib.hid hps
              clear hs0 hps hple
              by_cases hwd : wk = wd
              · subst hwd
                go_wp2
                generalize wr.alloc (.cells #[.int .i64 (ix : Int), .int .i64 (wk : Int), .int .u64 (nu : Int), fv k] 267) = w3 at *
                generalize wr.heap.size = SB at *
                have e0 : w3.cell? ⟨SB, 0, none⟩ = some (.int .i64 ix) := by rw [Lib.cell_of_heap hsl]; rfl
                have e1 : w3.cell? ⟨SB, 1, none⟩ = some (.int .i64 wk) := by rw [Lib.cell_of_heap hsl]; rfl
                clear d0 d1 d2 d3 hst dw HPx HWx HBx HPy HWy HBy
                go_loop [9] (fun s => ∃ d : Nat, d ≤ (wk - s0 % wk) % wk ∧ s = .int .i64 ((s0 + d : Nat) : Int)) (fun s => s0 + wk - (intOf s).toNat)
                case atStart => exact ⟨0, Nat.zero_le _, rfl⟩
                case round =>
                  obtain ⟨d, hd, rfl⟩ := hrel
                  have hdt := pad_test s0 wk d hw0 hd
                  have hdw : d < wk := Nat.lt_of_le_of_lt hd (Nat.mod_lt _ hw0)
                  by_cases hdd : d = (wk - s0 % wk) % wk
                  · have ht : (((s0 : Int) + d) % (wk : Int) == 0) = true := by
                      have h1 := hdt.2 hdd
                      rw [show (s0 : Int) + d = ((s0 + d : Nat) : Int) by omega, ← Int.natCast_emod, h1]
                      rfl
                    have HAL : Hid (alignUp wk s0 = s0 + d) := Lib.hid (by unfold alignUp; rw [← hdd])
                    have hix : ix < N := hi0
                    have x0 := HPz.out.cell ix (by rw [HPS.out]; exact hi0)
                    have x1 := HPz.out.fz ix
                    clear hdt hdd hd
                    generalize ps.getD ix 0 = pold at *
                    have HNX : Hid (layIn l wk j (k + 1) = (ps.set ix (s0 + d), s0 + d + wk)) := Lib.hid (by rw [HSUC.out]; unfold placeOne; rw [if_pos rfl, HAL.out])
                    have hcast : ((s0 + d : Nat) : Int) = (s0 : Int) + d := by omega
                    have HPn := HPz.out.set ix (s0 + d)
                    have HBn := HBz.out.setCell (p := ⟨G, ix, none⟩) hG (.int .i64 ((s0 + d : Nat) : Int))
                    have HWn := row_other (w := w3) (b := G + 1) HWz.out G ix (.int .i64 ((s0 + d : Nat) : Int)) (by omega)
                    rw [hcast] at HPn HBn HWn
                    have HPm := Lib.hid HPn
                    have HBm := Lib.hid HBn
                    have HWm := Lib.hid HWn
                    clear HPn HBn HWn hcast
                    go_wp2
                    go_roundw
                    case rel => exact ⟨k + 1, by omega, by go_num, by rw [HNX.out]; go_num, Lib.hid (by rw [HNX.out]; exact HPm.out), HWm, HBm⟩
                    case measure => simp [intOf]; omega
                  · have ht : (((s0 : Int) + d) % (wk : Int) == 0) = false := by
                      have h1 : ¬ (s0 + d) % wk = 0 := fun e => hdd (hdt.1 e)
                      simp
                      rw [show (s0 : Int) + d = ((s0 + d : Nat) : Int) by omega, ← Int.natCast_emod]
                      omega
                    go_wp2
                    go_round
                    case rel => exact ⟨d + 1, by omega, by go_num⟩
                    case measure => simp [intOf]; omega
              · have hne : ((wk : Int) == (wd : Int)) = false := by simp; omega
                have HNX : Hid (layIn l wd j (k + 1) = (ps, s0)) := Lib.hid (by rw [HSUC.out]; unfold placeOne; rw [if_neg hwd])
                go_wp2
                go_roundw
                case rel => exact ⟨k + 1, by omega, by go_num, by rw [HNX.out], Lib.hid (by rw [HNX.out]; exact HPz.out), HWz, HBz⟩
                case measure => simp [intOf]; omega
            · have hkn : k = n := by omega
              have HNX : Hid (layIn l wd j k = layAt l (j + 1)) := Lib.hid (by rw [HAS.out, hkn, hll])
              clear hkn
              go_wp2
              go_roundw
              case rel => exact ⟨j + 1, by omega, by go_num, by rw [HNX.out], Lib.hid (by rw [← HNX.out]; exact HPy.out), HWy, HBy⟩
              case measure => simp [intOf]; omega
          --]
        · have hj4 : j = 4 := by omega
          subst hj4
          rw [layAt_four, HPL2.out] at HPx ⊢
          have hmw : Mk M base out wr := H.out.below HBx.out
          have hmv : Moves M w wr := (Moves.refl M w).below HBx.out hM
          have hoG : MkOther M G wr := MkAt.newer H.out hG (HBx.out.cell (p := ⟨M, 0, none⟩) hM)
          have hst0 : TabSt M B o l fv G places w wr := ⟨hmv, HPx.out, hoG, HS.out.below HBx.out, (hmv.keep B HS.out.1 hB).2⟩
          have HPAD : Hid (Calls Tryz.prog 24 #[.pointer (some ⟨M, 0, none⟩), .int .i64 8, .int .i64 (4 + 2 * (N : Int))] wr fun e w' => e = .returned (.tuple #[]) ∧ Mk M base (padTo 8 (4 + 2 * N) out) w' ∧ Moves M wr w') := Lib.hid (by
            have := pad_any M base 8 (4 + 2 * N) out (by decide) (by decide) (by omega) (by omega) wr hmw
            rw [show ((4 + 2 * N : Nat) : Int) = 4 + 2 * (N : Int) by omega] at this
            exact this)
          have hpad := padTo_spec 8 (4 + 2 * N) (by decide) out
          have HT : Hid (tableB l out = (putRefs ((padTo 8 (4 + 2 * N) out).length + (4 + 2 * N)) places l (putNums ((padTo 8 (4 + 2 * N) out).length + (4 + 2 * N)) places l (patch (padTo 8 (4 + 2 * N) out ++ (leB (4 + 2 * N) 2 ++ leB size 2 ++ places.flatMap fun p => leB p 2) ++ List.replicate size 0) ((padTo 8 (4 + 2 * N) out).length + (4 + 2 * N)) (leB (4 + 2 * N) 4))), (padTo 8 (4 + 2 * N) out).length + (4 + 2 * N))) := Lib.hid (by
            unfold tableB vtB
            rw [HPL2.out, HM.out]
            simp only [HNN.out])
          have HST := Lib.hid hst0
          generalize padTo 8 (4 + 2 * N) out = o1 at *
          have hl1 : o1.length ≤ out.length + 8 := hpad.2.1
          generalize hL1 : o1.length = L1 at *
          have HL1 := Lib.hid hL1
          clear hL1 hpad hst0 hoG hmv hmw HPx HWx HBx HP2 HW2 HB2 HB
          go_wp2_with (go_at_call 24; with_reducible refine HPAD.out.mono ?_)
          rintro e w4 ⟨rfl, hm4, hmv4⟩
          obtain ⟨ad4, cp4, hr4⟩ := hm4.row
          rw [HL1.out] at hr4
          have c0 := hr4.c0
          have c0d : w4.drew.cell? ⟨M, 0, none⟩ = _ := c0
          have f0 := hr4.f0 0
          have hM4 := hr4.lt
          have HR4 := Lib.hid hr4
          have HST4 := Lib.hid (HST.out.go hmv4)
          clear hm4 hr4 hmv4
          have hi1 : IntKind.i64.wrap (N : Int) = N := by rw [IntKind.wrap_i64]; omega
          have hi2 : IntKind.i64.wrap (2 * (N : Int)) = 2 * N := by rw [IntKind.wrap_i64]; omega
          have hi3 : IntKind.i64.wrap (4 + 2 * (N : Int)) = 4 + 2 * N := by rw [IntKind.wrap_i64]; omega
          have hwr1 := wrap_nat (4 + 2 * N) (4 + 2 * (N : Int)) (by omega) (by omega)
          have HLI : Hid (∀ W, Calls Tryz.prog 23 #[.int .u64 (4 + 2 * (N : Int)), .int .i64 2] W (LitPost2 (4 + 2 * N) 2 W)) := little_u (4 + 2 * N) 2 (4 + 2 * (N : Int)) (by omega) (by decide) (by decide) (by omega)
          clear hlt4 hlt hj HPAD HST
          go_upto_region 23 with fail
          go_cut [] (fun wx => Hid (Mk M base (o1 ++ leB (4 + 2 * N) 2) wx) ∧ Hid (TabSt M B o l fv G places w wx))
          case first =>
            --[
            go_region_law (first
              | (refine step_mk_append (by rfl) _ _ (by rfl) M base o1 L1 HL1.out ad4 cp4 HR5.out (by rfl) (leB (4 + 2 * N) 2) ⟨g5, 0, none⟩ 2 c5 (leB_length 2 _) (by decide) (by rfl) HN5.out (by omega) ?_; intro g6 cap6 w6 c06 f06 hap6)
              | (go_simp; go_wp2_with (go_at_call 23; ((with_reducible refine (HLI.out _).mono ?_)); rintro e w5 ⟨g5, c5, rfl, hn5, hb5⟩; have HN5 := Lib.hid hn5; have HR5 := Lib.hid (HR4.out.drew.below hb5); have c05 := HR5.out.c0; have f05 := HR5.out.f0 0)))
            all_goals
              have HMZ := Lib.hid hap6.1
              have HSZ := Lib.hid (HST4.out.drew.go (hap6.2 w4.drew ((Moves.refl M w4.drew).below hb5 hM4)))
              clear hap6
              go_wp2_with fail
              go_meet
              exact ⟨HMZ, HSZ⟩
            --]
          case rest =>
          obtain ⟨HM5, HST5⟩ := hcut
          clear HR4 HST4 c0 c0d f0 hM4 HLI hwr1
          have hl2 : (o1 ++ leB (4 + 2 * N) 2).length = L1 + 2 := by rw [List.length_append, leB_length, HL1.out]
          obtain ⟨ad4, cp4, hr4⟩ := HM5.out.row
          rw [hl2] at hr4
          have HL2 := Lib.hid hl2
          have c0 := hr4.c0
          have c0d : wc.drew.cell? ⟨M, 0, none⟩ = _ := c0
          have f0 := hr4.f0 0
          have hM4 := hr4.lt
          have HR4 := Lib.hid hr4
          clear hr4 hl2
          have hwr1 := wrap_nat size (size : Int) rfl (by omega)
          have HLI : Hid (∀ W, Calls Tryz.prog 23 #[.int .u64 (size : Int), .int .i64 2] W (LitPost2 size 2 W)) := little_u size 2 (size : Int) rfl (by decide) (by decide) (by omega)
          go_upto_region 24 with fail
          go_cut [] (fun wx => Hid (Mk M base (o1 ++ leB (4 + 2 * N) 2 ++ leB size 2) wx) ∧ Hid (TabSt M B o l fv G places w wx))
          case first =>
            --[
            go_region_law (first
              | (refine step_mk_append (by rfl) _ _ (by rfl) M base (o1 ++ leB (4 + 2 * N) 2) (L1 + 2) HL2.out ad4 cp4 HR5.out (by rfl) (leB size 2) ⟨g5, 0, none⟩ 2 c5 (leB_length 2 _) (by decide) (by rfl) HN5.out (by omega) ?_; intro g6 cap6 w6 c06 f06 hap6)
              | (go_simp; go_wp2_with (go_at_call 23; ((with_reducible refine (HLI.out _).mono ?_)); rintro e w5 ⟨g5, c5, rfl, hn5, hb5⟩; have HN5 := Lib.hid hn5; have HR5 := Lib.hid (HR4.out.drew.below hb5); have c05 := HR5.out.c0; have f05 := HR5.out.f0 0)))
            all_goals
              have HMZ := Lib.hid hap6.1
              have HSZ := Lib.hid (HST5.out.drew.go (hap6.2 wc.drew ((Moves.refl M wc.drew).below hb5 hM4)))
              clear hap6
              go_wp2_with fail
              go_meet
              exact ⟨HMZ, HSZ⟩
            --]
          case rest =>
          obtain ⟨HM6, HST6⟩ := hcut
          have HL4 : Hid ((o1 ++ leB (4 + 2 * N) 2 ++ leB size 2).length = L1 + 4) := Lib.hid (by rw [List.length_append, leB_length, HL2.out])
          have HTO : Hid (o1 ++ (leB (4 + 2 * N) 2 ++ leB size 2 ++ places.flatMap fun p => leB p 2) = o1 ++ leB (4 + 2 * N) 2 ++ leB size 2 ++ places.flatMap fun p => leB p 2) := Lib.hid (by simp only [List.append_assoc])
          have HT2 : Hid (tableB l out = (putRefs (L1 + (4 + 2 * N)) places l (putNums (L1 + (4 + 2 * N)) places l (patch (o1 ++ leB (4 + 2 * N) 2 ++ leB size 2 ++ (places.flatMap fun p => leB p 2) ++ List.replicate size 0) (L1 + (4 + 2 * N)) (leB (4 + 2 * N) 4))), L1 + (4 + 2 * N))) := Lib.hid (by rw [HT.out, HTO.out])
          clear HR4 HST5 c0 c0d f0 hM4 HLI hwr1 HM5 HTO HT
          generalize o1 ++ leB (4 + 2 * N) 2 ++ leB size 2 = o2 at *
          go_wp2
          go_loopw [108] (fun i wx => ∃ k : Nat, k ≤ N ∧ i = .int .i64 k ∧ Hid (Mk M base (o2 ++ (places.take k).flatMap fun p => leB p 2) wx) ∧ Hid (TabSt M B o l fv G places w wx)) (fun i _ => N - (intOf i).toNat)
          case atStart => exact ⟨0, Nat.zero_le _, rfl, Lib.hid (by simpa using HM6.out), HST6⟩
          case round =>
            obtain ⟨k, hk, rfl, HMk, HSTk⟩ := hrel
            have hlk : (o2 ++ (places.take k).flatMap fun p => leB p 2).length = L1 + 4 + 2 * k := by
              rw [List.length_append, flat_length, HL4.out, List.length_take, HNN.out, Nat.min_eq_left hk]
            by_cases hlt : k < N
            ·
              --[
              have hkp : k < places.length := by rw [HNN.out]; exact hlt
              have x0 := HSTk.out.pl.cell k hkp
              have hpk : places.getD k 0 = places[k] := by simp [List.getD, hkp]
              have hp64 : places[k] < 65536 := hplaces _ (List.getElem_mem hkp)
              have HTK : Hid (o2 ++ ((places.take (k + 1)).flatMap fun p => leB p 2) = o2 ++ ((places.take k).flatMap fun p => leB p 2) ++ leB places[k] 2) := Lib.hid (by
                rw [take_snoc places k hkp, List.flatMap_append, List.flatMap_singleton, List.append_assoc])
              rw [hpk] at x0
              generalize places[k] = p at *
              clear hpk
              have HLK := Lib.hid hlk
              obtain ⟨ad4, cp4, hr4⟩ := HMk.out.row
              rw [hlk] at hr4
              have c0 := hr4.c0
              have c0d : wr.drew.cell? ⟨M, 0, none⟩ = _ := c0
              have f0 := hr4.f0 0
              have hM4 := hr4.lt
              have HR4 := Lib.hid hr4
              have hwr1 := wrap_nat p (p : Int) rfl (by omega)
              have HLI : Hid (∀ W, Calls Tryz.prog 23 #[.int .u64 (p : Int), .int .i64 2] W (LitPost2 p 2 W)) := little_u p 2 (p : Int) rfl (by decide) (by decide) (by omega)
              clear hr4 hlk
              go_upto_region 28 with fail
              go_region_law (first
                | (refine step_mk_append (by rfl) _ _ (by rfl) M base (o2 ++ (places.take k).flatMap fun p => leB p 2) (L1 + 4 + 2 * k) HLK.out ad4 cp4 HR5.out (by rfl) (leB p 2) ⟨g5, 0, none⟩ 2 c5 (leB_length 2 _) (by decide) (by rfl) HN5.out (by omega) ?_; intro g6 cap6 w6 c06 f06 hap6)
                | (go_simp; go_wp2_with (go_at_call 23; ((with_reducible refine (HLI.out _).mono ?_)); rintro e w5 ⟨g5, c5, rfl, hn5, hb5⟩; have HN5 := Lib.hid hn5; have HR5 := Lib.hid (HR4.out.drew.below hb5); have c05 := HR5.out.c0; have f05 := HR5.out.f0 0)))
              all_goals
                have HMZ := Lib.hid hap6.1
                have HSZ := Lib.hid (HSTk.out.drew.go (hap6.2 wr.drew ((Moves.refl M wr.drew).below hb5 hM4)))
                rw [← HTK.out] at HMZ
                clear hap6
                go_wp2
                go_roundw
                case rel => exact ⟨k + 1, by omega, by go_num, HMZ, HSZ⟩
                case measure => simp [intOf]; omega
              --]
            · have hkN : N = k := by omega
              subst hkN
              rw [show places.take N = places by rw [← HNN.out]; exact List.take_length] at HMk hlk
              generalize (o2 ++ places.flatMap fun p => leB p 2) = o3 at *
              obtain ⟨AT, hAT⟩ : ∃ AT, AT = L1 + (4 + 2 * N) := ⟨_, rfl⟩
              rw [← hAT] at HT2
              have hl3 : o3.length = AT := by omega
              have HL3 := Lib.hid hl3
              have HAT := Lib.hid hAT
              have hatb : AT < 900000000 := by omega
              have hatz : AT + size < 900000000 := by omega
              obtain ⟨ad4, cp4, hr4⟩ := HMk.out.row
              rw [hl3] at hr4
              have c0 := hr4.c0
              have f0 := hr4.f0 0
              have hM4 := hr4.lt
              have HR4 := Lib.hid hr4
              clear hr4 hl3 hAT hlk HL4 HL2 hlt hk HM6 HST6
              obtain ⟨i0, hi0, hz0, hz1, hz2⟩ := byte_info
              go_wp2_with (at_builtin; refine wpList_append_zeros2 rfl _ _ 30 3 9 rfl 0 5 i0 .i64 .i64 Tryz.underlying30 Tryz.underlying9 Tryz.underlying3 hi0 hz0 hz1 hz2 ad4 cp4 AT (Lib.byteCells o3) rfl ?d1 size (by omega) rfl (by omega) (Nat.zero_le _) ?_)
              case d1 =>
                have := HR4.out.2.1
                rw [HL3.out] at this
                exact this
              intro v5 w5 hown5 hg5 hb5
              have hlz : (o3 ++ List.replicate size (0 : UInt8)).length = AT + size := by rw [List.length_append, HL3.out, List.length_replicate]
              have hown6 : w5.ownsRow 0 5 1 v5 (o3 ++ List.replicate size (0 : UInt8)).length (Lib.byteCells (o3 ++ List.replicate size (0 : UInt8))) := by
                rw [hlz, Lib.byteCells_append]
                exact hown5
              obtain ⟨a5, cp5, rfl⟩ := slice_of_own hown5
              have hr4 := HR4.out
              rw [← HL3.out] at hr4
              have hg6 : wr.grownBy w5 (Value.slice ad4 o3.length cp4).ownBlock := by rw [HL3.out]; exact hg5
              have hb6 : (Value.slice a5 (AT + size) cp5).ownBlock = (Value.slice ad4 o3.length cp4).ownBlock ∨ ∃ g, (Value.slice a5 (AT + size) cp5).ownBlock = some g ∧ wr.heap.size ≤ g := by rw [HL3.out]; exact hb5
              obtain ⟨hh7, hmk7, hmv7⟩ := mk_app (Moves.refl M wr) hr4.1 hr4.2.2 hg6 hb6 hown6
              rw [HL3.out] at hh7
              have e0 : w5.cell? ⟨M, 0, none⟩ = some (.slice ad4 AT cp4) := by rw [Lib.cell_of_heap hh7]; rfl
              have e1 := Lib.frozen_of_heap hh7 0
              have HM7 := Lib.hid hmk7
              have HST7 := Lib.hid (HSTk.out.go hmv7)
              have HLZ := Lib.hid hlz
              clear hg6 hb6 hmk7 hmv7 hr4 hg5 hb5 hown5 hown6 hh7 hlz hi0 hz0 hz1 hz2 HR4 c0 f0 hM4
              go_upto_region 32 with fail
              generalize w5.setCell ⟨M, 0, none⟩ (.slice a5 (AT + size) cp5) = w7 at *
              obtain ⟨ad7, cp7, hr7⟩ := Mk.row HM7.out
              rw [HLZ.out] at hr7
              obtain ⟨g7, rfl, hc1, hc2⟩ := hr7.ptr HLZ.out (by omega)
              generalize hz0 : o3 ++ List.replicate size (0 : UInt8) = oz at *
              clear hz0
              have hsub0 := HAT.out
              have hsub : (AT : Int) - L1 = 4 + 2 * N := by omega
              have hsub1 : IntKind.i64.wrap ((AT : Int) - L1) = 4 + 2 * N := by rw [IntKind.wrap_i64]; omega
              clear hsub0 hsub
              have hwr1 := wrap_nat (4 + 2 * N) (4 + 2 * (N : Int)) (by omega) (by omega)
              have HLI : Hid (∀ W, Calls Tryz.prog 23 #[.int .u64 (4 + 2 * (N : Int)), .int .i64 4] W (LitPost2 (4 + 2 * N) 4 W)) := little_u (4 + 2 * N) 4 (4 + 2 * (N : Int)) (by omega) (by decide) (by decide) (by omega)
              have c0 := hr7.c0
              have c0d : w7.drew.cell? ⟨M, 0, none⟩ = _ := c0
              have f0 := hr7.f0 0
              have hM7 := hr7.lt
              have HR7 := Lib.hid hr7
              clear hr7 HSTk HMk e0 e1
              have hcc : (0 : Int) ≤ AT ∧ (AT : Int) ≤ AT + size ∧ (AT : Int) + size ≤ cp7 := by omega
              go_region_held3 (fun w' => w'.cell? ⟨M, 0, none⟩ = some (.slice (some ⟨g7, 0, none⟩) (AT + size) cp7)) (first | go_keep | exact c05 | exact hr6.c0) (first
                | (refine step_mk_copy (by rfl) _ _ (by rfl) M base oz (AT + size) HLZ.out g7 cp7 HR5.out AT size (cp7 - AT) (by rfl) (leB (4 + 2 * N) 4) 4 (leB_length 4 _) (by omega) (by omega) ⟨g5, 0, none⟩ c5 (by rfl) HN5.out 4 (by rfl) ?_; intro w6 hr6 hmv6)
                | (go_at_call 23; ((with_reducible refine (HLI.out _).mono ?_)); rintro e w5 ⟨g5, c5, rfl, hn5, hb5⟩; have HN5 := Lib.hid hn5; have HR5 := Lib.hid (HR7.out.drew.below hb5); have c05 := HR5.out.c0; have f05 := HR5.out.f0 0))
              have HM6 := Lib.hid hr6.mk
              have HST6 := Lib.hid (HST7.out.drew.go (hmv6 w7.drew ((Moves.refl M w7.drew).below hb5 hM7)))
              have hlb : (patch oz AT (leB (4 + 2 * N) 4)).length = AT + size := by rw [patch_length _ _ _ (by rw [leB_length, HLZ.out]; omega), HLZ.out]
              have HLB := Lib.hid hlb
              clear hr6 hmv6 HN5 HR5 hn5 hb5 c05 f05 c0 c0d f0 hM7 HR7 hcc HLI hsub1 HST7 HM7 hlb HL3 hc1 hc2 h
              generalize patch oz AT (leB (4 + 2 * N) 4) = ob at *
              go_wp2
              go_loopw [152] (fun i wx => ∃ k : Nat, k ≤ n ∧ i = .int .i64 k ∧ Hid (Mk M base (putNums AT places (l.take k) ob) wx) ∧ Hid (TabSt M B o l fv G places w wx)) (fun i _ => n - (intOf i).toNat)
              case atStart => exact ⟨0, Nat.zero_le _, rfl, Lib.hid (by simpa [putNums] using HM6.out), HST6⟩
              case round =>
                obtain ⟨k, hk, rfl, HMk, HSTk⟩ := hrel
                by_cases hlt : k < n
                ·
                  --[
                  have hkl : k < l.length := by omega
                  obtain ⟨d0, d1, d2, d3⟩ := HSTk.out.sl.2 k hkl
                  have hi0 := idx_most l l[k] (List.getElem_mem hkl)
                  rw [HM.out] at hi0
                  have hfk := HFL.out l[k] (List.getElem_mem hkl)
                  have HTK := Lib.hid (putNums_take AT places l k hkl ob)
                  have hln : (putNums AT places (l.take k) ob).length = AT + size := by
                    rw [(putNums_spec AT size places (l.take k) ob (fun s hs => HFL.out s (List.mem_of_mem_take hs)) (HAP.out.sublist (List.take_sublist _ _)) (by rw [HLB.out]; omega)).1, HLB.out]
                  have HLN := Lib.hid hln
                  obtain ⟨f, hff, hlf, hfo, hszf⟩ := HFN.out k hkl
                  have hwk := HWID.out f hff
                  have hnk := HNUM.out f hff
                  rw [hlf] at d0 d1 d2 hi0 hfk HTK
                  have HF := Lib.hid hff
                  clear hlf hff hln hszf
                  generalize f.s = sk at *
                  generalize f.sz = szk at *
                  obtain ⟨ix, wk, nu, rf⟩ := sk
                  unfold plc at hfk
                  simp only at d0 d1 d2 hi0 hfk HTK hwk hnk
                  unfold FnOk at hfo
                  cases rf with
                  | none =>
                    simp only at hfo HTK
                    rw [hfo] at d3
                    clear hfo
                    have hMk := HMk.out.lt
                    have hal := (Below.refl wr.heap.size wr).alloc (Nat.le_refl _) (.cells #[.int .i64 (ix : Int), .int .i64 (wk : Int), .int .u64 (nu : Int), .nilFunc] 267)
                    have hoz : OtherAt M wr.heap.size (.cells #[.int .i64 (ix : Int), .int .i64 (wk : Int), .int .u64 (nu : Int), .nilFunc] 267 (0, 0)) (wr.alloc (.cells #[.int .i64 (ix : Int), .int .i64 (wk : Int), .int .u64 (nu : Int), .nilFunc] 267)) := ⟨heap_alloc_new wr _, MkAt.newer HMk.out (Nat.le_refl _) (hal.cell (p := ⟨M, 0, none⟩) hMk)⟩
                    have hmz : Mk M base (putNums AT places (l.take k) ob) (wr.alloc (.cells #[.int .i64 (ix : Int), .int .i64 (wk : Int), .int .u64 (nu : Int), .nilFunc] 267)) := HMk.out.alloc _
                    have hstz := HSTk.out.go ((Moves.refl M wr).alloc hMk (.cells #[.int .i64 (ix : Int), .int .i64 (wk : Int), .int .u64 (nu : Int), .nilFunc] 267))
                    have HOZ := Lib.hid hoz
                    have HMZ := Lib.hid hmz
                    have HSTZ := Lib.hid hstz
                    clear hoz hmz hstz hal
                    have heq := eql_nil
                    go_upto_region 37 with fail
                    generalize wr.alloc (.cells #[.int .i64 (ix : Int), .int .i64 (wk : Int), .int .u64 (nu : Int), .nilFunc] 267) = z at *
                    generalize wr.heap.size = SB at *
                    clear d0 d1 d2 d3 hMk HMk HSTk
                    obtain ⟨ad7, cp7, hr7⟩ := Mk.row HMZ.out
                    rw [HLN.out] at hr7
                    obtain ⟨g7, rfl, hc1, hc2⟩ := hr7.ptr HLN.out (by omega)
                    have hix : ix < places.length := by rw [HNN.out]; exact hi0
                    have p0 := HSTZ.out.pl.cell ix hix
                    obtain ⟨q0, q1, q2, _⟩ := slot_cells HOZ.out
                    obtain ⟨pl, hpl⟩ : ∃ pl, pl = places.getD ix 0 := ⟨_, rfl⟩
                    rw [← hpl] at p0 hfk HTK
                    have HPP : Hid (∀ W, PlacesAt G places W → W.cell? ⟨G, ix, none⟩ = some (.int .i64 pl)) := Lib.hid (fun W hW => by rw [hpl]; exact hW.cell ix hix)
                    obtain ⟨FR, hFR⟩ : ∃ FR, FR = AT + pl := ⟨_, rfl⟩
                    rw [← hFR] at HTK
                    have hfr : IntKind.i64.wrap ((AT : Int) + pl) = FR := by rw [IntKind.wrap_i64]; omega
                    have hfb : FR + wk ≤ AT + size := by omega
                    have hfb2 : (0 : Int) ≤ FR ∧ (FR : Int) ≤ AT + size ∧ (AT : Int) + size ≤ cp7 := by omega
                    have HFR := Lib.hid hFR
                    clear hpl hFR
                    have HLI : Hid (∀ W, Calls Tryz.prog 23 #[.int .u64 (nu : Int), .int .i64 (wk : Int)] W (LitPost2 nu wk W)) := little_u nu wk (nu : Int) rfl hwk.1 hwk.2 hnk
                    have c0 := hr7.c0
                    have c0d : z.drew.cell? ⟨M, 0, none⟩ = _ := c0
                    have f0 := hr7.f0 0
                    have hM7 := hr7.lt
                    have HR7 := Lib.hid hr7
                    clear hr7
                    go_region_held3 (fun w' => w'.cell? ⟨M, 0, none⟩ = some (.slice (some ⟨g7, 0, none⟩) (AT + size) cp7) ∧ w'.cell? ⟨SB, 0, none⟩ = some (.int .i64 ix) ∧ w'.cell? ⟨SB, 1, none⟩ = some (.int .i64 wk) ∧ w'.cell? ⟨SB, 2, none⟩ = some (.int .u64 nu) ∧ w'.cell? ⟨G, ix, none⟩ = some (.int .i64 pl)) (first | exact ⟨hr6.c0, qq6.1, qq6.2.1, qq6.2.2.1, pp6⟩ | exact ⟨c05, qq5.1, qq5.2.1, qq5.2.2.1, pp5⟩ | go_keep) (first
                      | (refine step_mk_copy (by rfl) _ _ (by rfl) M base (putNums AT places (l.take k) ob) (AT + size) HLN.out g7 cp7 HR5.out FR (AT + size - FR) (cp7 - FR) (by rfl) (leB nu wk) wk (leB_length wk _) (by omega) (by omega) ⟨g5, 0, none⟩ c5 (by rfl) HN5.out (wk : Int) (by rfl) ?_; intro w6 hr6 hmv6; have qq6 := slot_cells (HO5.out.go (hmv6 _ (Moves.refl M _))); have pp6 := HPP.out _ (HS5.out.go (hmv6 _ (Moves.refl M _))).pl)
                      | (go_at_call 23; ((with_reducible refine (HLI.out _).mono ?_)); rintro e w5 ⟨g5, c5, rfl, hn5, hb5⟩; have HN5 := Lib.hid hn5; have HR5 := Lib.hid (HR7.out.drew.below hb5); have c05 := HR5.out.c0; have f05 := HR5.out.f0 0; have HO5 := Lib.hid (HOZ.out.drew.go ((Moves.refl M z.drew).below hb5 hM7)); have HS5 := Lib.hid (HSTZ.out.drew.go ((Moves.refl M z.drew).below hb5 hM7)); have qq5 := slot_cells HO5.out; have pp5 := HPP.out _ HS5.out.pl))
                    all_goals
                      have HMN := Lib.hid hr6.mk
                      rw [← HTK.out] at HMN
                      have HSN := Lib.hid (HSTZ.out.drew.go (hmv6 z.drew ((Moves.refl M z.drew).below hb5 hM7)))
                      clear hr6 hmv6
                      go_wp2
                      go_roundw
                      case rel => exact ⟨k + 1, by omega, by go_num, HMN, HSN⟩
                      case measure => simp [intOf]; omega
                  | some P =>
                    simp only at hfo HTK
                    obtain ⟨fid, caps, hfv, _⟩ := hfo
                    rw [hfv] at d3
                    clear hfv
                    have hst : ∀ (W : World) (a : Addr), (store a (.func (.func fid) #[] caps)).run Tryz.prog W = stored Tryz.prog W a (.func (.func fid) #[] caps) .plain := fun W a => run_store _ W a _ .plain rfl
                    have hmv := (Moves.refl M wr).alloc HMk.out.lt (.cells #[.int .i64 (ix : Int), .int .i64 (wk : Int), .int .u64 (nu : Int), .func (.func fid) #[] caps] 267)
                    have HMZ := Lib.hid (HMk.out.alloc (.cells #[.int .i64 (ix : Int), .int .i64 (wk : Int), .int .u64 (nu : Int), .func (.func fid) #[] caps] 267))
                    rw [← HTK.out] at HMZ
                    have HSTZ := Lib.hid (HSTk.out.go hmv)
                    clear hmv
                    have heq := eql_func
                    go_wp2
                    go_roundw
                    case rel => exact ⟨k + 1, by omega, by go_num, HMZ, HSTZ⟩
                    case measure => simp [intOf]; omega
                  --]
                · have hkn : n = k := by omega
                  subst hkn
                  rw [show l.take n = l by rw [← hll]; exact List.take_length] at HMk
                  have hln : (putNums AT places l ob).length = AT + size := by
                    rw [(putNums_spec AT size places l ob (fun s hs => HFL.out s hs) HAP.out (by rw [HLB.out]; omega)).1, HLB.out]
                  have HLN := Lib.hid hln
                  clear hln
                  generalize putNums AT places l ob = oc at *
                  have HSTN := Lib.hid HSTk.out
                  clear HSTk hlt hk
                  go_wp2
                  go_loopw [180] (fun i wx => ∃ k : Nat, k ≤ n ∧ i = .int .i64 k ∧ Hid (Mk M base (putRefs AT places (l.take k) oc) wx) ∧ Hid (TabSt M B o l fv G places w wx)) (fun i _ => n - (intOf i).toNat)
                  case atStart => exact ⟨0, Nat.zero_le _, rfl, Lib.hid (by simpa [putRefs] using HMk.out), HSTN.out⟩
                  case round =>
                    clear HMk HSTN
                    obtain ⟨k, hk, rfl, HMk, HSTk⟩ := hrel
                    have hspec := putRefs_spec AT size places (fs.take k) oc (fun f hf => HFIT.out f (List.mem_of_mem_take hf)) (by rw [List.map_take, ← HL.out]; exact HAP.out.sublist (List.take_sublist _ _)) (fun f hf => HOK.out f (List.mem_of_mem_take hf)) (by rw [HLN.out]; omega) (by
                      have h1 := szSum_take_le fs k
                      have h2 := HOUT.out
                      have h3 := HAT.out
                      rw [HLN.out]
                      omega)
                    rw [List.map_take, ← HL.out, HLN.out] at hspec
                    obtain ⟨hx1, hx2, -, -⟩ := hspec
                    by_cases hlt : k < n
                    · have hkl : k < l.length := by omega
                      obtain ⟨d0, d1, d2, d3⟩ := HSTk.out.sl.2 k hkl
                      have hi0 := idx_most l l[k] (List.getElem_mem hkl)
                      rw [HM.out] at hi0
                      have hfk := HFL.out l[k] (List.getElem_mem hkl)
                      have HTK := Lib.hid (putRefs_take AT places l k hkl oc)
                      obtain ⟨f, hff, hlf, hfo, hszf⟩ := HFN.out k hkl
                      have hokf := HOK.out f hff
                      rw [hlf] at d0 d1 d2 hi0 hfk HTK
                      clear hlf hff
                      generalize f.Q = fQ at *
                      generalize f.s = sk at *
                      generalize f.sz = szk at *
                      obtain ⟨ix, wk, nu, rf⟩ := sk
                      unfold plc at hfk
                      simp only at d0 d1 d2 hi0 hfk HTK hokf hszf
                      unfold FnOk at hfo
                      generalize putRefs AT places (l.take k) oc = oX at *
                      cases rf with
                      | none =>
                        simp only at hfo HTK
                        rw [hfo] at d3
                        clear hfo hokf
                        have HMZ := Lib.hid (HMk.out.alloc (.cells #[.int .i64 (ix : Int), .int .i64 (wk : Int), .int .u64 (nu : Int), .nilFunc] 267))
                        rw [← HTK.out] at HMZ
                        have HSTZ := Lib.hid (HSTk.out.go ((Moves.refl M wr).alloc HMk.out.lt (.cells #[.int .i64 (ix : Int), .int .i64 (wk : Int), .int .u64 (nu : Int), .nilFunc] 267)))
                        have heq := neq_nil
                        go_wp2
                        go_roundw
                        case rel => exact ⟨k + 1, by omega, by go_num, HMZ, HSTZ⟩
                        case measure => simp [intOf]; omega
                      | some P =>
                        simp only at hfo HTK hszf
                        obtain ⟨fid, caps, hfv, hcf, hcall⟩ := hfo
                        obtain ⟨hw4, hpok⟩ := hokf P rfl
                        subst hw4
                        obtain ⟨hP1, hP2, -, hP4, hP5, -⟩ := hpok oX (by have h2 := HOUT.out; have h3 := HAT.out; omega)
                        rw [hfv] at d3
                        clear hfv hpok hokf
                        have hMk := HMk.out.lt
                        have hal := (Below.refl wr.heap.size wr).alloc (Nat.le_refl _) (.cells #[.int .i64 (ix : Int), .int .i64 4, .int .u64 (nu : Int), .func (.func fid) #[] caps] 267)
                        have hoz : OtherAt M wr.heap.size (.cells #[.int .i64 (ix : Int), .int .i64 4, .int .u64 (nu : Int), .func (.func fid) #[] caps] 267 (0, 0)) (wr.alloc (.cells #[.int .i64 (ix : Int), .int .i64 4, .int .u64 (nu : Int), .func (.func fid) #[] caps] 267)) := ⟨heap_alloc_new wr _, MkAt.newer HMk.out (Nat.le_refl _) (hal.cell (p := ⟨M, 0, none⟩) hMk)⟩
                        have hmz : Mk M base oX (wr.alloc (.cells #[.int .i64 (ix : Int), .int .i64 4, .int .u64 (nu : Int), .func (.func fid) #[] caps] 267)) := HMk.out.alloc _
                        have hstz := HSTk.out.go ((Moves.refl M wr).alloc hMk (.cells #[.int .i64 (ix : Int), .int .i64 4, .int .u64 (nu : Int), .func (.func fid) #[] caps] 267))
                        have HOZ := Lib.hid hoz
                        have HMZ := Lib.hid hmz
                        have HSTZ := Lib.hid hstz
                        have HCALL := Lib.hid hcall
                        clear hoz hmz hstz hal hcall
                        have heq := neq_func
                        have hst : ∀ (W : World) (a : Addr), (store a (.func (.func fid) #[] caps)).run Tryz.prog W = stored Tryz.prog W a (.func (.func fid) #[] caps) .plain := fun W a => run_store _ W a _ .plain rfl
                        simp only [Int.cast_ofNat_Int] at d1
                        go_upto_region 43 with fail
                        generalize wr.alloc (.cells #[.int .i64 (ix : Int), .int .i64 4, .int .u64 (nu : Int), .func (.func fid) #[] caps] 267) = z at *
                        generalize wr.heap.size = SB at *
                        clear d0 d1 d2 d3 hMk HMk HSTk hst heq
                        have hMz := HMZ.out.lt
                        have hix : ix < places.length := by rw [HNN.out]; exact hi0
                        have p0 := HSTZ.out.pl.cell ix hix
                        obtain ⟨q0, _, _, q3⟩ := slot_cells HOZ.out
                        obtain ⟨pl, hpl⟩ : ∃ pl, pl = places.getD ix 0 := ⟨_, rfl⟩
                        rw [← hpl] at p0 hfk HTK
                        have HPP : Hid (∀ W, PlacesAt G places W → W.cell? ⟨G, ix, none⟩ = some (.int .i64 pl)) := Lib.hid (fun W hW => by rw [hpl]; exact hW.cell ix hix)
                        obtain ⟨FR, hFR⟩ : ∃ FR, FR = AT + pl := ⟨_, rfl⟩
                        rw [← hFR] at HTK
                        have hfr : IntKind.i64.wrap ((AT : Int) + pl) = FR := by rw [IntKind.wrap_i64]; omega
                        have hfb : FR + 4 ≤ AT + size := by omega
                        have HFR := Lib.hid hFR
                        have HCF : Hid (∀ W, Moves M w W → Mk M base oX W → Calls Tryz.prog fid (#[.pointer (some ⟨M, 0, none⟩)] ++ caps) W fun e w' => e = .returned (.int .i64 (P oX).2) ∧ Mk M base (P oX).1 w' ∧ Moves M W w') := Lib.hid (fun W h1 h2 => HCALL.out W oX h1 h2 (by have h2 := HOUT.out; have h3 := HAT.out; omega))
                        have HMZd : Hid (Mk M base oX z.drew) := Lib.hid HMZ.out
                        clear hpl hFR HCALL
                        go_region_held3 (fun w' => w'.cell? ⟨SB, 0, none⟩ = some (.int .i64 ix) ∧ w'.cell? ⟨SB, 3, none⟩ = some (.func (.func fid) #[] caps) ∧ w'.cell? ⟨G, ix, none⟩ = some (.int .i64 pl)) (first | exact ⟨qq5.1, qq5.2.2.2, pp5⟩ | go_keep) (first | (((with_reducible refine (HCF.out _ HSTZ.out.drew.mv HMZd.out).mono ?_)); rintro e w5 ⟨rfl, hm5, hmv5⟩; have HO5 := Lib.hid (HOZ.out.drew.go hmv5); have HS5 := Lib.hid (HSTZ.out.drew.go hmv5); have qq5 := slot_cells HO5.out; have pp5 := HPP.out _ HS5.out.pl))
                        have HM5 := Lib.hid hm5
                        clear hm5 hmv5 qq5 pp5 HO5 HMZ HMZd HSTZ HOZ HCF q0 q3 p0 hMz hcf
                        generalize (P oX).1 = oP at *
                        generalize (P oX).2 = TO at *
                        obtain ⟨LP, hLP⟩ : ∃ LP, LP = oP.length := ⟨_, rfl⟩
                        rw [← hLP] at hP1 hP2 hP5
                        have HLP : Hid (oP.length = LP) := Lib.hid hLP.symm
                        clear hLP
                        obtain ⟨D, hD⟩ : ∃ D, D = TO - FR := ⟨_, rfl⟩
                        rw [← hD] at HTK
                        have hlpb : LP < 900000000 := by
                          have h2 := HOUT.out
                          have h3 := HAT.out
                          omega
                        have hsub1 : IntKind.i64.wrap ((TO : Int) - FR) = D := by rw [IntKind.wrap_i64]; omega
                        have hdb : D < 18446744073709551616 := by omega
                        have hwr1 := wrap_nat D (D : Int) rfl hdb
                        have HLI : Hid (∀ W, Calls Tryz.prog 23 #[.int .u64 (D : Int), .int .i64 4] W (LitPost2 D 4 W)) := little_u D 4 (D : Int) rfl (by decide) (by decide) hdb
                        clear hD
                        obtain ⟨ad7, cp7, hr7⟩ := Mk.row HM5.out
                        rw [HLP.out] at hr7
                        obtain ⟨g7, rfl, hc1, hc2⟩ := hr7.ptr HLP.out (by omega)
                        have hcc : (0 : Int) ≤ FR ∧ (FR : Int) ≤ LP ∧ (LP : Int) ≤ cp7 := by omega
                        have c0 := hr7.c0
                        have c0d : w5.drew.cell? ⟨M, 0, none⟩ = _ := c0
                        have f0 := hr7.f0 0
                        have hM7 := hr7.lt
                        have HR7 := Lib.hid hr7
                        have hfl4 : FR + 4 ≤ LP := by omega
                        clear hr7
                        go_upto_region 44 with fail
                        go_region_held3 (fun w' => w'.cell? ⟨M, 0, none⟩ = some (.slice (some ⟨g7, 0, none⟩) LP cp7)) (first | exact c09 | exact hr6.c0 | go_keep) (first
                          | (refine step_mk_copy (by rfl) _ _ (by rfl) M base oP LP HLP.out g7 cp7 HR9.out FR (LP - FR) (cp7 - FR) (by rfl) (leB D 4) 4 (leB_length 4 _) (by omega) (by omega) ⟨g9, 0, none⟩ c9 (by rfl) HN9.out 4 (by rfl) ?_; intro w6 hr6 hmv6)
                          | (go_at_call 23; ((with_reducible refine (HLI.out _).mono ?_)); rintro e w9 ⟨g9, c9, rfl, hn9, hb9⟩; have HN9 := Lib.hid hn9; have HR9 := Lib.hid (HR7.out.drew.below hb9); have c09 := HR9.out.c0; have f09 := HR9.out.f0 0))
                        all_goals
                          have HMN := Lib.hid hr6.mk
                          rw [← HTK.out] at HMN
                          have HSN := Lib.hid (HS5.out.drew.go (hmv6 w5.drew ((Moves.refl M w5.drew).below hb9 hM7)))
                          clear hr6 hmv6 hP1 hP2 hP4 hP5 hx1 hx2 hszf hlpb hsub1 hdb hwr1 hcc c0 c0d f0 hfl4 hfr hfb hfk hc1 hc2 hb9 hn9 c09 f09 HR9 HN9 HR7 HLI hM7
                          go_wp2
                          go_roundw
                          case rel => exact ⟨k + 1, Nat.succ_le_of_lt hlt, step_int k, HMN, HSN⟩
                          case measure => exact step_measure n k hlt
                    · have hkn : n = k := by omega
                      subst hkn
                      rw [show l.take n = l by rw [← hll]; exact List.take_length] at HMk
                      go_wp2
                      go_ret
                      rw [HT2.out]
                      exact ⟨rfl, HMk.out, HSTk.out.mv⟩

end Go.Proofs.YtgceklahjdbipaaGreatDoor
