/- impl.FormatString: what it writes: the text in quotes, a quote and a backslash behind a backslash. -/
import Derived.Test.YtciaahpocaejhaaGreatDoorFmt
import Derived.Test.YtciaahpocaejhaaGreatDoorQuote
import Derived.Test.YtciaahpocaejhaaGreatDoorPlain
import Derived.Test.YtciaahpocaejhaaGreatDoorUtfTabs
import Derived.Lib.TrimUEq
import Derived.Test.YtciaahpocaejhaaGreatDoorGrowShelf
import Derived.LoopTactic
namespace Go.Proofs.YtciaahpocaejhaaGreatDoor
open Go Go.RowKit Go.Shelf
set_option linter.unusedVariables false
set_option linter.unusedSimpArgs false

/-- A text as it stands in quotes. -/
def escT (l : List UInt8) : List UInt8 := l.flatMap fun c => if c = 34 ∨ c = 92 then [92, c] else [c]
theorem escT_append (a b : List UInt8) : escT (a ++ b) = escT a ++ escT b := by simp [escT]
theorem escT_one (c : UInt8) : escT [c] = if c = 34 ∨ c = 92 then [92, c] else [c] := by simp [escT]
theorem escT_len : ∀ l, (escT l).length ≤ 2 * l.length
  | [] => by simp [escT]
  | c :: l => by
    have := escT_len l
    rw [show c :: l = [c] ++ l from rfl, escT_append, List.length_append, escT_one]
    simp only [List.length_append, List.length_cons, List.length_nil]
    split <;> simp <;> omega
theorem escT_same : ∀ l : List UInt8, (∀ c ∈ l, c ≠ 34 ∧ c ≠ 92) → escT l = l
  | [], _ => rfl
  | c :: l, h => by
    have hc := h c (by simp)
    rw [show c :: l = [c] ++ l from rfl, escT_append, escT_one, if_neg (by intro e; rcases e with e | e; exact hc.1 e; exact hc.2 e), escT_same l fun x hx => h x (by simp [hx])]

/-- A rune at a valid text's front. -/
theorem rune_front (l : List UInt8) (hne : l ≠ []) (hv : Lib.validD l = true) :
    1 ≤ (Lib.decodeL l).2 ∧ (Lib.decodeL l).2 ≤ l.length ∧ Lib.validD (l.drop (Lib.decodeL l).2) = true ∧ Lib.encodeRune ((Lib.decodeL l).1 : Int) = l.take (Lib.decodeL l).2 ∧ (Lib.decodeL l).1 ≤ 1114111 ∧
      (((Lib.decodeL l).1 = 34 ∨ (Lib.decodeL l).1 = 92) → escT (l.take (Lib.decodeL l).2) = [92] ++ l.take (Lib.decodeL l).2) ∧ (¬ ((Lib.decodeL l).1 = 34 ∨ (Lib.decodeL l).1 = 92) → escT (l.take (Lib.decodeL l).2) = l.take (Lib.decodeL l).2) := by
  have hs := Lib.validD_step l hne
  rw [hv] at hs
  have hvl : ¬ ((Lib.decodeL l).1 = 65533 ∧ (Lib.decodeL l).2 = 1) := by
    intro h; rw [if_pos h] at hs; cases hs
  rw [if_neg hvl] at hs
  refine ⟨Lib.decodeL_width l, Lib.decodeL_le l hne, hs.symm, Lib.encode_decode l hne hvl, Lib.decodeL_rune l, ?_⟩
  obtain ⟨c, t, rfl⟩ := List.exists_cons_of_ne_nil hne
  by_cases hc : c.toNat < 128
  · rw [Lib.decodeL_ascii c t hc]
    simp only [List.take_succ_cons, List.take_zero]
    rw [escT_one]
    have h34 : c.toNat = 34 ↔ c = 34 := ⟨fun h => UInt8.toNat_inj.1 h, fun h => by rw [h]; rfl⟩
    have h92 : c.toNat = 92 ↔ c = 92 := ⟨fun h => UInt8.toNat_inj.1 h, fun h => by rw [h]; rfl⟩
    rw [h34, h92]
    exact ⟨fun h => by rw [if_pos h]; rfl, fun h => by rw [if_neg h]⟩
  · obtain ⟨hh, hr, _⟩ := decode_front (c :: t) hne hvl (by show 128 ≤ c.toNat; omega)
    refine ⟨fun h => by omega, fun _ => escT_same _ fun x hx => ?_⟩
    have := hh x hx
    refine ⟨?_, ?_⟩ <;> (intro e; subst e; revert this; decide)

def IdxPost (s : ByteArray) (w : World) (e : Ending) (w' : World) : Prop := ∃ i : Int, e = .returned (.int .i64 i) ∧ -1 ≤ i ∧ (i < 0 → escT s.data.toList = s.data.toList) ∧ Below w.heap.size w w'

set_option maxHeartbeats 4000000 in
set_option maxRecDepth 100000 in
theorem indexAny_any (s : ByteArray) (hs : s.size ≤ 2147483647) (hv : Lib.validD s.data.toList = true) (w : World) :
    Calls Tryz.prog 121 #[.string s, .string ⟨#[34, 92]⟩] w (IdxPost s w) := by
  have HV := Lib.hid hv
  clear hv
  go_enter Tryz.func121, Tryz.ntmps121
  go_wp2
  go_loopw [] (fun wr => ∃ pos : Nat, Hid (pos ≤ s.size) ∧ Hid (wr.heap[w.heap.size]? = some (.stringIter s pos)) ∧ Hid (Lib.validD (s.data.toList.drop pos) = true) ∧ Hid (escT (s.data.toList.take pos) = s.data.toList.take pos) ∧ Hid (Below w.heap.size w wr)) (fun wr => s.size - wr.iterPos w.heap.size)
  case atStart => exact ⟨0, Lib.hid (Nat.zero_le _), Lib.hid (World.iter_heap w s 0), HV, Lib.hid rfl, Lib.hid ((Below.refl _ w).alloc (Nat.le_refl _) _)⟩
  case round =>
    obtain ⟨pos, hpos, hit, hvd, hesc, hb⟩ := hrel
    by_cases hp : pos < s.size
    · have hnx : ∀ ty, (Instr.next (.pointer (some ⟨w.heap.size, 0, none⟩)) true ty).run Tryz.prog wr = _ := fun ty => Lib.run_next_any_at wr w.heap.size s pos ty hit.out hp
      have hne : s.data.toList.drop pos ≠ [] := by
        intro e
        have := congrArg List.length e
        simp at this
        omega
      obtain ⟨r1, r2, r3, r4, r5, r6, r7⟩ := rune_front _ hne hvd.out
      rw [Lib.decodeL_drop] at r1 r2 r3 r4 r5 r6 r7
      have hl2 : pos + (Utf8.decode s pos).2 ≤ s.size := by
        have : (s.data.toList.drop pos).length = s.size - pos := by simp
        omega
      rw [List.drop_drop] at r3
      have htk : s.data.toList.take (pos + (Utf8.decode s pos).2) = s.data.toList.take pos ++ (s.data.toList.drop pos).take (Utf8.decode s pos).2 := List.take_add
      have HTK := Lib.hid htk
      have R3 := Lib.hid r3
      have R7 := Lib.hid r7
      have hk : w.heap.size < wr.heap.size := (Array.getElem?_eq_some_iff.1 hit.out).1
      have HITW := hit
      clear hne r2 r3 r4 r6 r7 htk
      generalize (Utf8.decode s pos).1 = c at *
      generalize (Utf8.decode s pos).2 = n at *
      have hit1 : (wr.iterAt w.heap.size s (pos + n)).heap[w.heap.size]? = some (.stringIter s (pos + n)) := Lib.iterAt_heap wr w.heap.size s pos (pos + n) hit.out
      have hsz1 : (wr.iterAt w.heap.size s (pos + n)).heap.size = wr.heap.size := Lib.iterAt_size _ _ _ _
      have hb1 : Below w.heap.size w (wr.iterAt w.heap.size s (pos + n)) := Lib.below_iterAt hb.out (Nat.le_refl _) s (pos + n)
      generalize wr.iterAt w.heap.size s (pos + n) = w1 at *
      have HIT1 := Lib.hid hit1
      have HB1 := Lib.hid hb1
      have HS1 := Lib.hid hsz1
      clear hit1 hb1 hsz1 hit hb
      have hi0 : (w1.iter ⟨#[34, 92]⟩ 0).heap[w1.heap.size]? = some (.stringIter ⟨#[34, 92]⟩ 0) := World.iter_heap w1 _ 0
      have hi1 := Lib.iterAt_heap (w1.iter ⟨#[34, 92]⟩ 0) w1.heap.size ⟨#[34, 92]⟩ 0 1 hi0
      have hi2 := Lib.iterAt_heap ((w1.iter ⟨#[34, 92]⟩ 0).iterAt w1.heap.size ⟨#[34, 92]⟩ 1) w1.heap.size ⟨#[34, 92]⟩ 1 2 hi1
      have hn0 : ∀ ty, (Instr.next (.pointer (some ⟨w1.heap.size, 0, none⟩)) true ty).run Tryz.prog (w1.iter ⟨#[34, 92]⟩ 0) = .ok (.tuple #[.bool true, .int .i64 (0 : Nat), .int .i32 34]) ((w1.iter ⟨#[34, 92]⟩ 0).iterAt w1.heap.size ⟨#[34, 92]⟩ 1) := fun ty => Lib.run_next_ascii_at _ _ ⟨#[34, 92]⟩ 0 ty hi0 (by decide) (by decide)
      have hn1 : ∀ ty, (Instr.next (.pointer (some ⟨w1.heap.size, 0, none⟩)) true ty).run Tryz.prog ((w1.iter ⟨#[34, 92]⟩ 0).iterAt w1.heap.size ⟨#[34, 92]⟩ 1) = .ok (.tuple #[.bool true, .int .i64 (1 : Nat), .int .i32 92]) (((w1.iter ⟨#[34, 92]⟩ 0).iterAt w1.heap.size ⟨#[34, 92]⟩ 1).iterAt w1.heap.size ⟨#[34, 92]⟩ 2) := fun ty => Lib.run_next_ascii_at _ _ ⟨#[34, 92]⟩ 1 ty hi1 (by decide) (by decide)
      have hn2 : ∀ ty, (Instr.next (.pointer (some ⟨w1.heap.size, 0, none⟩)) true ty).run Tryz.prog (((w1.iter ⟨#[34, 92]⟩ 0).iterAt w1.heap.size ⟨#[34, 92]⟩ 1).iterAt w1.heap.size ⟨#[34, 92]⟩ 2) = .ok (.tuple #[.bool false]) (((w1.iter ⟨#[34, 92]⟩ 0).iterAt w1.heap.size ⟨#[34, 92]⟩ 1).iterAt w1.heap.size ⟨#[34, 92]⟩ 2) := fun ty => Lib.run_next_end_at _ _ ⟨#[34, 92]⟩ 2 ty hi2 (by decide)
      have hBf : ∀ k : Nat, Below w1.heap.size w1 (((w1.iter ⟨#[34, 92]⟩ 0).iterAt w1.heap.size ⟨#[34, 92]⟩ 1).iterAt w1.heap.size ⟨#[34, 92]⟩ 2) := fun _ => Lib.below_iterAt (Lib.below_iterAt ((Below.refl _ w1).alloc (Nat.le_refl _) _) (Nat.le_refl _) _ _) (Nat.le_refl _) _ _
      have hBg : Below w1.heap.size w1 (w1.iter ⟨#[34, 92]⟩ 0) := (Below.refl _ w1).alloc (Nat.le_refl _) _
      have hBh : Below w1.heap.size w1 ((w1.iter ⟨#[34, 92]⟩ 0).iterAt w1.heap.size ⟨#[34, 92]⟩ 1) := Lib.below_iterAt hBg (Nat.le_refl _) _ _
      have HBF := Lib.hid (hBf 0)
      have HBH := Lib.hid hBh
      clear hi0 hi1 hi2 hBf hBg hBh
      go_wp2_with fail
      refine wp_loop_rounds 3 ?_
      rw [rounds_succ]
      by_cases h34 : c = 34
      · subst h34
        go_wp2
        go_ret
        exact ⟨pos, rfl, by omega, fun h => absurd h (by omega), HB1.out.trans (HBH.out.mono (by have := HS1.out; omega))⟩
      · have n34 : ((c : Int) == 34) = false := by simp; omega
        go_wp2
        rw [rounds_succ]
        by_cases h92 : c = 92
        · subst h92
          go_wp2
          go_ret
          exact ⟨pos, rfl, by omega, fun h => absurd h (by omega), HB1.out.trans (HBF.out.mono (by have := HS1.out; omega))⟩
        · have n92 : ((c : Int) == 92) = false := by simp; omega
          have hesc2 : escT (s.data.toList.take (pos + n)) = s.data.toList.take (pos + n) := by
            rw [HTK.out, escT_append, hesc.out, R7.out (by omega)]
          have HE2 := Lib.hid hesc2
          have hkept := (HBF.out.block w.heap.size (by have := HS1.out; omega)).trans HIT1.out
          have HKP := Lib.hid hkept
          have hbb := HB1.out.trans (HBF.out.mono (by have := HS1.out; omega))
          have HBB := Lib.hid hbb
          clear hesc2 hkept hbb h34 h92
          go_wp2
          rw [rounds_succ]
          go_wp2
          go_roundw
          case rel => exact ⟨pos + n, Lib.hid (by omega), HKP, R3, HE2, HBB⟩
          case measure =>
            simp only [World.iterPos, HKP.out, HITW.out]
            omega
    · have hnx : ∀ ty, (Instr.next (.pointer (some ⟨w.heap.size, 0, none⟩)) true ty).run Tryz.prog wr = _ := fun ty => Lib.run_next_end_at wr w.heap.size s pos ty hit.out hp
      have hfull : s.data.toList.take pos = s.data.toList := List.take_of_length_le (by simp; omega)
      have HE : Hid (escT s.data.toList = s.data.toList) := Lib.hid (by have := hesc.out; rwa [hfull] at this)
      clear hfull
      go_wp2
      go_ret
      exact ⟨-1, rfl, by omega, fun _ => HE.out, hb.out⟩

def EscS (s : ByteArray) (w : World) (e : Ending) (w' : World) : Prop := e = .returned (.string ⟨(escT s.data.toList).toArray⟩) ∧ Below w.heap.size w w'

theorem bytes_of (s : ByteArray) : (⟨s.data.toList.toArray⟩ : ByteArray) = s := ByteArray.ext (by simp)

set_option maxHeartbeats 4000000 in
set_option maxRecDepth 100000 in
theorem escapeStr_any (s : ByteArray) (hs : s.size ≤ 2147483647) (hv : Lib.validD s.data.toList = true) (w : World) :
    Calls Tryz.prog 75 #[.string s] w (EscS s w) := by
  have HI := Lib.hid (indexAny_any s hs hv w)
  have HV := Lib.hid hv
  clear hv
  go_enter Tryz.func75, Tryz.ntmps75
  have hca : Calls Tryz.prog 101 #[.string s, .string ⟨#[34, 92]⟩] w (fun e w' => ∃ i : Int, e = .returned (.bool (decide (0 ≤ i))) ∧ (i < 0 → escT s.data.toList = s.data.toList) ∧ Below w.heap.size w w') := by
    go_enter Tryz.func101, Tryz.ntmps101
    go_wp2_with fail
    ((with_reducible refine HI.out.mono ?_))
    rintro e w1 ⟨i, rfl, hi, hesc, hb⟩
    have HE := Lib.hid hesc
    have HP : Hid (∀ b : Bool, b = decide (0 ≤ i) → ∃ j : Int, (Ending.returned (.bool b)) = .returned (.bool (decide (0 ≤ j))) ∧ (j < 0 → escT s.data.toList = s.data.toList) ∧ Below w.heap.size w w1) := Lib.hid fun b hb' => ⟨i, by rw [hb'], hesc, hb⟩
    clear hesc hb
    go_wp2
    go_ret
    exact HP.out _ rfl
  have HC := Lib.hid hca
  clear hca
  go_wp2_with fail
  ((with_reducible refine HC.out.mono ?_))
  rintro e w1 ⟨i, rfl, hesc, hb1⟩
  have HB1 := Lib.hid hb1
  have HES := Lib.hid hesc
  clear hb1 hesc
  by_cases hi : 0 ≤ i
  · have hd : decide (0 ≤ i) = true := by simpa using hi
    rw [hd]
    have hw0 : Below w.heap.size w (w1.alloc (.cells #[.pointer none, .slice none 0 0] 98)) := HB1.out.alloc HB1.out.size _
    have hbk : (w1.alloc (.cells #[.pointer none, .slice none 0 0] 98)).heap[w1.heap.size]? = some (.cells #[.pointer none, .slice none 0 0] 98 (0, 0)) := heap_alloc_new w1 _
    have HG := Lib.hid (Tryz.Builder_Grow_fresh w1.heap.size w1.heap.size (2 * s.size) _ (Nat.le_refl _) hbk (by simp) (by omega))
    have HW0 := Lib.hid hw0
    clear hw0 hbk
    go_wp2_with fail
    rw [show ((s.size : Int) * 2) = ((2 * s.size : Nat) : Int) by omega]
    ((with_reducible refine HG.out.mono ?_))
    rintro e w2 ⟨rfl, hbat, hb2⟩
    have hI0 : Lib.IsBuilderF 98 5 w1.heap.size w1.heap.size (Lib.byteCells (escT (s.data.toList.take 0))) w2 := .inr (.of hbat)
    have hlt2 : w1.heap.size < w2.heap.size := by have := hb2.size; simp at this; omega
    have hB2 : Below w.heap.size w w2 := HW0.out.trans (hb2.mono HB1.out.size)
    have hI1 := hI0.alloc (.stringIter s 0)
    have hB3 := hB2.alloc hB2.size (.stringIter s 0)
    have hit0 := World.iter_heap w2 s 0
    have HI1 : Hid (Lib.IsBuilderF 98 5 w1.heap.size w1.heap.size (Lib.byteCells (escT (s.data.toList.take 0))) (w2.iter s 0)) := Lib.hid hI1
    have HB3 : Hid (Below w.heap.size w (w2.iter s 0)) := Lib.hid hB3
    have HIT := Lib.hid hit0
    have h1w := HB1.out.size
    clear hbat hb2 hI0 hB2 hI1 hB3 hit0 HG
    go_wp2
    generalize w1.heap.size = B at *
    generalize hitn : w2.heap.size = it at *
    clear hitn
    go_loopw [] (fun wr => ∃ pos : Nat, Hid (pos ≤ s.size) ∧ Hid (wr.heap[it]? = some (.stringIter s pos)) ∧ Hid (Lib.validD (s.data.toList.drop pos) = true) ∧ Hid (Lib.IsBuilderF 98 5 B B (Lib.byteCells (escT (s.data.toList.take pos))) wr) ∧ Hid (Below w.heap.size w wr)) (fun wr => s.size - wr.iterPos it)
    case atStart => exact ⟨0, Lib.hid (Nat.zero_le _), HIT, HV, HI1, HB3⟩
    case round =>
      obtain ⟨pos, hpos, hit, hvd, hbi, hb⟩ := hrel
      by_cases hp : pos < s.size
      · have hnx : ∀ ty, (Instr.next (.pointer (some ⟨it, 0, none⟩)) true ty).run Tryz.prog wr = _ := fun ty => Lib.run_next_any_at wr it s pos ty hit.out hp
        have hne : s.data.toList.drop pos ≠ [] := by
          intro e
          have := congrArg List.length e
          simp at this
          omega
        obtain ⟨r1, r2, r3, r4, r5, r6, r7⟩ := rune_front _ hne hvd.out
        rw [Lib.decodeL_drop] at r1 r2 r3 r4 r5 r6 r7
        have hl2 : pos + (Utf8.decode s pos).2 ≤ s.size := by
          have : (s.data.toList.drop pos).length = s.size - pos := by simp
          omega
        rw [List.drop_drop] at r3
        have htk : s.data.toList.take (pos + (Utf8.decode s pos).2) = s.data.toList.take pos ++ (s.data.toList.drop pos).take (Utf8.decode s pos).2 := List.take_add
        have hbi1 := hbi.out.iterAt hit.out (pos + (Utf8.decode s pos).2)
        have hit1 := Lib.iterAt_heap wr it s pos (pos + (Utf8.decode s pos).2) hit.out
        have hb1 := Lib.below_iterAt hb.out (k := it) (by omega) s (pos + (Utf8.decode s pos).2)
        have hitl : it < wr.heap.size := (Array.getElem?_eq_some_iff.1 hit.out).1
        have hsz1 : B ≤ (wr.iterAt it s (pos + (Utf8.decode s pos).2)).heap.size := by rw [Lib.iterAt_size]; omega
        have hlen : (Lib.byteCells (escT (s.data.toList.take pos))).length ≤ 4294967294 := by
          rw [Lib.byteCells_length]
          have h1 := escT_len (s.data.toList.take pos)
          have h2 : (s.data.toList.take pos).length ≤ pos := List.length_take_le _ _
          omega
        have HTK := Lib.hid htk
        have R3 := Lib.hid r3
        have R4 := Lib.hid r4
        have R6 := Lib.hid r6
        have R7 := Lib.hid r7
        have HITW := hit
        clear hne r2 r3 r4 r6 r7 htk
        generalize (Utf8.decode s pos).1 = c at *
        generalize (Utf8.decode s pos).2 = n at *
        generalize wr.iterAt it s (pos + n) = w3 at *
        have HBI := Lib.hid hbi1
        have HIT1 := Lib.hid hit1
        have HB4 := Lib.hid hb1
        have HSZ := Lib.hid hsz1
        have HLEN := Lib.hid hlen
        clear hbi1 hit1 hb1 hsz1 hlen hbi hb hit
        have ec : Lib.runeCells (c : Int) = Lib.byteCells ((s.data.toList.drop pos).take n) := by rw [← R4.out, Lib.byteCells_encodeRune]
        have EC := Lib.hid ec
        clear ec
        by_cases hq : c = 34 ∨ c = 92
        · have hq1 : ((c : Int) == 34) = true ∨ (((c : Int) == 34) = false ∧ ((c : Int) == 92) = true) := by
            rcases hq with rfl | rfl
            · left; rfl
            · right; exact ⟨rfl, rfl⟩
          have e92 : Lib.runeCells 92 = Lib.byteCells [92] := by
            have e : Lib.encodeRuneZ 92 = [92] := Lib.encodeRuneZ_one (by decide) (by decide)
            simp [Lib.runeCells, Lib.byteCells, e]
          have E92 := Lib.hid e92
          have hnew : Lib.byteCells (escT (s.data.toList.take pos)) ++ Lib.byteCells [92] ++ Lib.byteCells ((s.data.toList.drop pos).take n) = Lib.byteCells (escT (s.data.toList.take (pos + n))) := by
            rw [HTK.out, escT_append, R6.out hq]
            simp [Lib.byteCells]
          have HNEW := Lib.hid hnew
          clear hnew e92 hq
          have HW1 := Lib.hid (bld_WriteRune B B _ 92 (by decide) (by decide) w3 HBI.out (by have := HLEN.out; omega) HSZ.out)
          rcases hq1 with hq1 | ⟨hq0, hq1⟩
          all_goals
            go_wp2_with fail
            ((with_reducible refine HW1.out.mono ?_))
            rintro e W1 ⟨rfl, k1, k2, k3⟩
            have KI : Lib.IsBuilderF 98 5 B B (Lib.byteCells (escT (s.data.toList.take pos)) ++ Lib.byteCells [92]) W1 := .inr (by rw [← E92.out]; exact k1)
            have kit := k3.iter HIT1.out (by omega)
            have kb := HB4.out.trans (k2.mono h1w)
            have HW2 := Lib.hid (bld_WriteRune B B _ (c : Int) (by omega) (by omega) W1 KI (by rw [List.length_append]; have := HLEN.out; have : (Lib.byteCells [92]).length = 1 := rfl; omega) (Nat.le_trans HSZ.out k2.size))
            have KIT := Lib.hid kit
            have KB := Lib.hid kb
            have KS := Lib.hid (Nat.le_trans HSZ.out k2.size)
            clear k1 k2 k3 KI kit kb
            go_wp2_with fail
            ((with_reducible refine HW2.out.mono ?_))
            rintro e W2 ⟨rfl, k1, k2, k3⟩
            have KI2 : Hid (Lib.IsBuilderF 98 5 B B (Lib.byteCells (escT (s.data.toList.take (pos + n)))) W2) := Lib.hid (.inr (by rw [← HNEW.out, ← EC.out]; exact k1))
            have KIT2 := Lib.hid (k3.iter KIT.out (by omega))
            have KB2 := Lib.hid (KB.out.trans (k2.mono h1w))
            clear k1 k2 k3
            go_wp2
            go_roundw
            case rel => exact ⟨pos + n, Lib.hid hl2, KIT2, R3, KI2, KB2⟩
            case measure =>
              simp only [World.iterPos, KIT2.out, HITW.out]
              omega
        · have n34 : ((c : Int) == 34) = false := by simp; omega
          have n92 : ((c : Int) == 92) = false := by simp; omega
          have hnew : Lib.byteCells (escT (s.data.toList.take pos)) ++ Lib.byteCells ((s.data.toList.drop pos).take n) = Lib.byteCells (escT (s.data.toList.take (pos + n))) := by
            rw [HTK.out, escT_append, R7.out hq]
            simp [Lib.byteCells]
          have HNEW := Lib.hid hnew
          clear hnew hq
          have HW2 := Lib.hid (bld_WriteRune B B _ (c : Int) (by omega) (by omega) w3 HBI.out (by have := HLEN.out; omega) HSZ.out)
          go_wp2_with fail
          ((with_reducible refine HW2.out.mono ?_))
          rintro e W2 ⟨rfl, k1, k2, k3⟩
          have KI2 : Hid (Lib.IsBuilderF 98 5 B B (Lib.byteCells (escT (s.data.toList.take (pos + n)))) W2) := Lib.hid (.inr (by rw [← HNEW.out, ← EC.out]; exact k1))
          have KIT2 := Lib.hid (k3.iter HIT1.out (by omega))
          have KB2 := Lib.hid (HB4.out.trans (k2.mono h1w))
          clear k1 k2 k3
          go_wp2
          go_roundw
          case rel => exact ⟨pos + n, Lib.hid hl2, KIT2, R3, KI2, KB2⟩
          case measure =>
            simp only [World.iterPos, KIT2.out, HITW.out]
            omega
      · have hnx : ∀ ty, (Instr.next (.pointer (some ⟨it, 0, none⟩)) true ty).run Tryz.prog wr = _ := fun ty => Lib.run_next_end_at wr it s pos ty hit.out hp
        have hfull : s.data.toList.take pos = s.data.toList := List.take_of_length_le (by simp; omega)
        have hbi2 := hbi.out
        rw [hfull] at hbi2
        have hitl : it < wr.heap.size := (Array.getElem?_eq_some_iff.1 hit.out).1
        have HS := Lib.hid (Tryz.Builder_String_any_k B B (escT s.data.toList) wr hbi2 (by omega))
        clear hfull hbi2
        go_wp2_with fail
        ((with_reducible refine HS.out.mono ?_))
        rintro e w5 ⟨rfl, _, hb5, _⟩
        have HB5 := Lib.hid (hb.out.trans (hb5.mono h1w))
        clear hb5
        go_wp2
        go_ret
        exact ⟨rfl, HB5.out⟩
  · have hd : decide (0 ≤ i) = false := by simpa using hi
    rw [hd]
    have HE := Lib.hid (HES.out (by omega))
    go_wp2
    go_ret
    exact ⟨by rw [HE.out, bytes_of]; rfl, HB1.out⟩

end Go.Proofs.YtciaahpocaejhaaGreatDoor
