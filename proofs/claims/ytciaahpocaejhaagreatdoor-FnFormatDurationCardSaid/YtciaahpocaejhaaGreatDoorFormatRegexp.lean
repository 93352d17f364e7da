/- impl.FormatRegexp: what it writes: the text between slashes, a slash in it behind a backslash. -/
import Derived.Test.YtciaahpocaejhaaGreatDoorLit
import Derived.Test.YtciaahpocaejhaaGreatDoorBldRow
import Derived.Test.YtciaahpocaejhaaGreatDoorLexRegexp
import Derived.Lib.ConvBytes
namespace Go.Proofs.YtciaahpocaejhaaGreatDoor
open Go Go.RowKit Go.Shelf
set_option linter.unusedVariables false

/-- The formatter's rows again, with other blocks kept. -/
theorem writeRune_row (b bf : Nat) (ind : Int) (bs : List Value) (r : Int) (hr0 : -2147483648 ≤ r) (hr1 : r ≤ 2147483647) (w : World) (h : FmAt b bf ind bs w) (hlen : bs.length + 4 ≤ 140737488355328) :
    Calls Tryz.prog 53 #[.pointer (some ⟨bf, 0, none⟩), .int .i32 r] w fun e w' => e = .returned (.tuple #[]) ∧ FmAt b bf ind (bs ++ Lib.runeCells r) w' ∧ Below b w w' ∧ RowsKept b w w' := by
  have c0 : w.cell? ⟨bf, 0, none⟩ = some (.pointer (some ⟨b, 0, none⟩)) := by rw [Lib.cell_of_heap h.1]; rfl
  have HH := Lib.hid h
  have HI := Lib.hid h.2
  have hb := h.lt
  clear h
  go_enter Tryz.func53, Tryz.ntmps53
  go_wp2_with (go_at_call 79; ((with_reducible refine (bld_WriteRune_r b b bs r hr0 hr1 _ HI.out hlen (by omega)).mono ?_)); rintro e w1 ⟨rfl, h1, hb1, hk1, hr1⟩)
  go_end0
  exact ⟨rfl, HH.out.kept hk1 h1, hb1, hr1⟩

/-- The builder's own row is not a row that holds something else. -/
theorem row_other {b bf : Nat} {ind : Int} {l : List UInt8} {w : World} (h : FmAt b bf ind (Lib.byteCells l) w) {g : Nat} {cs : Array Value} {T : TypeId} {fz : Nat × Nat} (hg : w.heap[g]? = some (.cells cs T fz))
    (hne : ∃ i : Nat, ∃ x : UInt8, l[i]? = some x ∧ cs[i]? ≠ some (.int .u8 (x.toNat : Int))) : ∀ v, w.cell? ⟨b, 1, none⟩ = some v → v.ownBlock ≠ some g := by
  have hb : ∀ p, Lib.BuilderAtF 98 5 b b p (Lib.byteCells l) w → ∀ v, w.cell? ⟨b, 1, none⟩ = some v → v.ownBlock ≠ some g := by
    rintro p ⟨_, v, hbk, hown, _⟩ v' hv' he
    rw [Lib.cell_of_heap hbk] at hv'
    obtain rfl : v = v' := by simpa using hv'
    obtain ⟨i, x, hx, hn⟩ := hne
    rcases hown.2 with ⟨hv, _⟩ | ⟨g', cap, cur, fz', hv, _, hg', _, _, _, _, htake⟩
    · subst hv; cases he
    · subst hv
      obtain rfl : g' = g := by simpa [Value.ownBlock] using he
      rw [hg'] at hg
      simp only [Option.some.injEq, Obj.cells.injEq] at hg
      obtain ⟨rfl, _, _⟩ := hg
      apply hn
      have h1 : (Lib.byteCells l)[i]? = some (.int .u8 (x.toNat : Int)) := by simp [Lib.byteCells, hx]
      rw [← htake, List.getElem?_take] at h1
      split at h1
      · simpa using h1
      · cases h1
  rcases h.2 with h | h
  · exact hb _ h
  · exact hb _ h

/-- A new row is not the builder's own. -/
theorem row_newer {b bf : Nat} {ind : Int} {bs : List Value} {w w' : World} (h : FmAt b bf ind bs w) {g : Nat} (hg : w.heap.size ≤ g) (hc : w'.cell? ⟨b, 1, none⟩ = w.cell? ⟨b, 1, none⟩) : ∀ v, w'.cell? ⟨b, 1, none⟩ = some v → v.ownBlock ≠ some g := by
  intro v hv he
  rw [hc] at hv
  have hb : ∀ p, Lib.BuilderAtF 98 5 b b p bs w → False := by
    rintro p ⟨_, v', hbk, hown, _⟩
    rw [Lib.cell_of_heap hbk] at hv
    obtain rfl : v' = v := by simpa using hv
    have := (hown.lt g he).2
    omega
  rcases h.2 with h | h
  · exact hb _ h
  · exact hb _ h

/-- What begins as the formatter's text does not begin as the pattern does. -/
def Parts (s : ByteArray) (L : List UInt8) : Prop := L[0]? = some 47 ∧ (s.data.toList[0]? = some 47 → L[1]? = some 92)

theorem bytes_at (w : World) (e : TypeId) (s : ByteArray) (i : Nat) (x : UInt8) (h : (Lib.bytesCells w e s)[i]? = some (.int .u8 (x.toNat : Int))) : s.data.toList[i]? = some x ∨ x = 0 := by
  unfold Lib.bytesCells at h
  rw [Array.getElem?_append] at h
  split at h
  · left
    simp at h
    obtain ⟨a, ha, he⟩ := h
    have : a = x := by
      apply UInt8.toNat_inj.1
      omega
    subst this
    simpa using ha
  · right
    rw [Array.getElem?_replicate] at h
    split at h
    · simp at h
      apply UInt8.toNat_inj.1
      simp
      omega
    · cases h

theorem parts_row (w : World) (e : TypeId) (s : ByteArray) (hp : PatOk s) (L : List UInt8) (hL : Parts s L) : ∃ i : Nat, ∃ x : UInt8, L[i]? = some x ∧ (Lib.bytesCells w e s)[i]? ≠ some (.int .u8 (x.toNat : Int)) := by
  by_cases h0 : s.data.toList[0]? = some 47
  · refine ⟨1, 92, hL.2 h0, fun h => ?_⟩
    rcases bytes_at w e s 1 92 h with h | h
    · exact (hp.1 92 (List.mem_of_getElem? h)).1 rfl
    · cases h
  · refine ⟨0, 47, hL.1, fun h => ?_⟩
    rcases bytes_at w e s 0 47 h with h | h
    · exact h0 h
    · cases h

theorem escP_head (l : List UInt8) (x : UInt8) (h : l[0]? = some x) (hx : x = 47) : (escP l)[0]? = some 92 := by
  cases l with
  | nil => cases h
  | cons y r =>
    obtain rfl : y = x := by simpa using h
    subst hx
    rfl

theorem parts_take (s : ByteArray) (k : Nat) (hk : 0 < k) (r : List UInt8) : Parts s ([47] ++ escP (s.data.toList.take k) ++ r) := by
  refine ⟨rfl, fun h => ?_⟩
  have h1 : (s.data.toList.take k)[0]? = some 47 := by rw [List.getElem?_take, if_pos hk]; exact h
  have h2 := escP_head _ 47 h1 rfl
  cases he : escP (s.data.toList.take k) with
  | nil => rw [he] at h2; cases h2
  | cons y q => rw [he] at h2; simpa using h2

theorem parts_first (s : ByteArray) (r : List UInt8) : Parts s ([47] ++ escP (s.data.toList.take 0) ++ [92] ++ r) := ⟨rfl, fun _ => rfl⟩

/-- The builder's own row is not block g. -/
def Other (b g : Nat) (w : World) : Prop := ∀ v, w.cell? ⟨b, 1, none⟩ = some v → v.ownBlock ≠ some g

theorem escP_snoc (s : ByteArray) (k : Nat) (h : k < s.size) : escP (s.data.toList.take (k + 1)) = escP (s.data.toList.take k) ++ (if s[k] = 47 then [92, 47] else [s[k]]) := by
  rw [byte_take s k h, escP_append]
  simp [escP]

set_option maxHeartbeats 4000000 in
set_option maxRecDepth 100000 in
theorem formatRegexp_lit (b bf pn pr : Nat) (s : ByteArray) (hs : s.size ≤ 2147483647) (hp : PatOk s) (w : World) (h : FmAt b bf 0 [] w) (hn : w.cell? ⟨pn, 3, none⟩ = some (.pointer (some ⟨pr, 0, none⟩))) (hr : w.cell? ⟨pr, 0, none⟩ = some (.string s)) (hpn : pn < b) (hpr : pr < b) :
    Calls Tryz.prog 29 #[.pointer (some ⟨bf, 0, none⟩), .pointer (some ⟨pn, 0, none⟩)] w fun e w' => e = .returned (.tuple #[]) ∧ FmAt b bf 0 (Lib.byteCells ([47] ++ escP s.data.toList ++ [47])) w' ∧ Below b w w' := by
  have HW := Lib.hid (writeRune_row b bf 0 [] 47 (by decide) (by decide) w h (by decide))
  have e47 : Lib.runeCells 47 = Lib.byteCells [47] := by
    have e : Lib.encodeRuneZ 47 = [47] := Lib.encodeRuneZ_one (by decide) (by decide)
    simp [Lib.runeCells, Lib.byteCells, e]
  have e92 : Lib.runeCells 92 = Lib.byteCells [92] := by
    have e : Lib.encodeRuneZ 92 = [92] := Lib.encodeRuneZ_one (by decide) (by decide)
    simp [Lib.runeCells, Lib.byteCells, e]
  have E47 := Lib.hid e47
  have E92 := Lib.hid e92
  have HP := Lib.hid hp
  clear e47 e92 h hp
  go_enter Tryz.func29, Tryz.ntmps29
  go_wp2_with fail
  ((with_reducible refine HW.out.mono ?_))
  rintro e w1 ⟨rfl, h1, hb1, hr1⟩
  have hn1 := (hb1.cell (p := ⟨pn, 3, none⟩) hpn).trans hn
  have hr2 := (hb1.cell (p := ⟨pr, 0, none⟩) hpr).trans hr
  have H1 := Lib.hid h1
  have HB1 := Lib.hid hb1
  clear h1 hb1 hr1 hn hr
  have hstr : Calls Tryz.prog 54 #[.pointer (some ⟨pr, 0, none⟩)] w1 fun e w' => e = .returned (.string s) ∧ w' = w1 := by
    go_enter Tryz.func54, Tryz.ntmps54
    go_wp2
    go_ret
    exact ⟨rfl, rfl⟩
  have HS := Lib.hid hstr
  clear hstr
  go_wp2_with fail
  ((with_reducible refine HS.out.mono ?_))
  rintro e w2 ⟨rfl, rfl⟩
  have hconv := Lib.run_convert_string_bytes w2 9 96 5 s Tryz.underlying9 Tryz.underlying96 Tryz.underlying5
  have hnew := Lib.bytesWorld_at_new w2 5 s
  have hold := Lib.bytesWorld_at_old w2 5 s
  have hsz := Lib.bytesWorld_size w2 5 s
  have hcellb := Lib.bytesWorld_cell w2 5 s
  have hB : Below w2.heap.size w2 (Lib.bytesWorld w2 5 s) := ⟨rfl, rfl, rfl, by rw [hsz]; omega, fun k hk => hold k hk⟩
  have hF2 : FmAt b bf 0 (Lib.byteCells ([47] ++ escP (s.data.toList.take 0))) (Lib.bytesWorld w2 5 s) := by
    have h := H1.out.below hB
    rw [E47.out] at h
    exact h
  have hO : Other b w2.heap.size (Lib.bytesWorld w2 5 s) := row_newer H1.out (Nat.le_refl _) (Lib.bytesWorld_old w2 5 s _ H1.out.lt)
  have hBB : Below b w (Lib.bytesWorld w2 5 s) := HB1.out.trans (hB.mono (Nat.le_of_lt H1.out.lt))
  have hgb : w2.heap.size ≠ b := by have := H1.out.lt; omega
  have hcs : ∀ W : World, W.heap[w2.heap.size]? = some (.cells (Lib.bytesCells w2 5 s) 5 ((Lib.bytesCells w2 5 s).size, (Lib.bytesCells w2 5 s).size + 1)) → ∀ k (hk : k < s.size), W.cell? ⟨w2.heap.size, k, none⟩ = some (.int .u8 (s[k].toNat : Int)) := fun W hW k hk => by
    have h1 := hcellb k hk
    rw [Lib.cell_of_heap hnew] at h1
    rw [Lib.cell_of_heap hW, h1]
    simp [List.getD, hk]
    rfl
  have HNE : Hid (∀ L, Parts s L → ∃ i : Nat, ∃ x : UInt8, L[i]? = some x ∧ (Lib.bytesCells w2 5 s)[i]? ≠ some (.int .u8 (x.toNat : Int))) := Lib.hid (parts_row w2 5 s HP.out)
  clear hsz hcellb hold
  have HNEW0 := Lib.hid hnew
  have HF20 := Lib.hid hF2
  have HO0 := Lib.hid hO
  have HBB0 := Lib.hid hBB
  have HCS0 := Lib.hid hcs
  have HG0 := Lib.hid hgb
  clear hnew hF2 hO hBB hcs hgb hB hn1 HW HS H1
  go_wp2
  have hnew := HNEW0.out
  have hF2 := HF20.out
  have hO := HO0.out
  have hBB := HBB0.out
  have hcs := HCS0.out
  have hgb := HG0.out
  clear HNEW0 HF20 HO0 HBB0 HCS0 HG0 hconv
  generalize Lib.bytesWorld w2 5 s = w3 at *
  generalize hcells : Lib.bytesCells w2 5 s = cells at *
  generalize grownCap w2 s.size 0 5 = gc
  generalize w2.heap.size = g at *
  have HNEW := Lib.hid hnew
  have HF2 := Lib.hid hF2
  have HO := Lib.hid hO
  have HBB := Lib.hid hBB
  have HCS := Lib.hid hcs
  have HG := Lib.hid hgb
  clear hnew hF2 hO hBB hcs hcells hgb hr2 HB1
  go_loopw [15] (fun i wr => ∃ k : Nat, i = .int .i64 k ∧ k ≤ s.size ∧ FmAt b bf 0 (Lib.byteCells ([47] ++ escP (s.data.toList.take k))) wr ∧ wr.heap[g]? = some (.cells cells 5 (cells.size, cells.size + 1)) ∧ Other b g wr ∧ Below b w wr) (fun i _ => s.size - (intOf i).toNat)
  case atStart => exact ⟨0, rfl, Nat.zero_le _, HF2.out, HNEW.out, HO.out, HBB.out⟩
  case round =>
    obtain ⟨k, rfl, hk, hf, hrow, ho, hb⟩ := hrel
    have HF := Lib.hid hf
    have HR := Lib.hid hrow
    have HOo := Lib.hid ho
    have HB := Lib.hid hb
    clear hf hrow ho hb
    have hlen : ([47] ++ escP (s.data.toList.take k)).length ≤ 4294967299 := by
      have h1 : (escP (s.data.toList.take k)).length ≤ 2 * k := by
        have : ∀ l, (escP l).length ≤ 2 * l.length := fun l => by
          induction l with
          | nil => simp [escP]
          | cons c l ih =>
            show (escP ([c] ++ l)).length ≤ _
            rw [escP_append]
            simp only [List.length_append, List.length_cons]
            have : (escP [c]).length ≤ 2 := by
              by_cases h : c = 47 <;> simp [escP, h]
            omega
        have h2 := this (s.data.toList.take k)
        have h3 : (s.data.toList.take k).length ≤ k := List.length_take_le _ _
        omega
      simp
      omega
    have HLEN := Lib.hid hlen
    clear hlen
    by_cases hlt : k < s.size
    · have cg := HCS.out wr HR.out k hlt
      have hsn := escP_snoc s k hlt
      generalize s[k] = x at cg hsn
      have HSN := Lib.hid hsn
      clear hsn
      by_cases hx : x = 47
      · subst hx
        have HW := Lib.hid (writeRune_row b bf 0 _ 92 (by decide) (by decide) wr HF.out (by rw [Lib.byteCells_length]; have := HLEN.out; omega))
        have hgl : g < wr.heap.size := (Array.getElem?_eq_some_iff.1 HR.out).1
        go_wp2_with fail
        ((with_reducible refine HW.out.mono ?_))
        rintro e w4 ⟨rfl, h4, hb4, hr4⟩
        have hL4 : Lib.byteCells ([47] ++ escP (s.data.toList.take k)) ++ Lib.runeCells 92 = Lib.byteCells ([47] ++ escP (s.data.toList.take k) ++ [92]) := by rw [E92.out]; simp [Lib.byteCells]
        rw [hL4] at h4
        have hrow4 := (hr4 g hgl HG.out HOo.out).trans HR.out
        have hp4 : Parts s ([47] ++ escP (s.data.toList.take k) ++ [92]) := by
          by_cases hk0 : k = 0
          · subst hk0; exact parts_first s []
          · exact parts_take s k (by omega) [92]
        have ho4 : Other b g w4 := row_other h4 hrow4 (HNE.out _ hp4)
        have HB4 := Lib.hid (HB.out.trans hb4)
        have hc4 : w4.cell? ⟨bf, 0, none⟩ = some (.pointer (some ⟨b, 0, none⟩)) := by rw [Lib.cell_of_heap h4.1]; rfl
        have H4 := Lib.hid h4
        have HR4 := Lib.hid hrow4
        have HO4 := Lib.hid ho4
        clear h4 hb4 hr4 hL4 hrow4 hp4 ho4 HW
        have HWB := Lib.hid (bld_WriteByte_r b b _ 47 w4 H4.out.2 (by rw [Lib.byteCells_length]; have := HLEN.out; simp at this ⊢; omega) (Nat.le_of_lt H4.out.lt))
        go_wp2_with fail
        ((with_reducible refine HWB.out.mono ?_))
        rintro e w5 ⟨rfl, h5, hb5, hk5, hr5⟩
        have h5' := H4.out.kept hk5 h5
        have hL5 : Lib.byteCells ([47] ++ escP (s.data.toList.take k) ++ [92]) ++ [.int .u8 47] = Lib.byteCells ([47] ++ escP (s.data.toList.take (k + 1))) := by
          rw [HSN.out]; simp [Lib.byteCells]
        rw [hL5] at h5'
        have hgl4 : g < w4.heap.size := (Array.getElem?_eq_some_iff.1 HR4.out).1
        have hrow5 := (hr5 g hgl4 HG.out HO4.out).trans HR4.out
        have ho5 : Other b g w5 := row_other h5' hrow5 (HNE.out _ (by simpa using parts_take s (k + 1) (by omega) []))
        have HB5 := Lib.hid (HB4.out.trans hb5)
        have H5 := Lib.hid h5'
        have HR5 := Lib.hid hrow5
        have HO5 := Lib.hid ho5
        clear h5 h5' hb5 hk5 hr5 hL5 hrow5 ho5 HWB
        go_wp2
        go_roundw
        case rel => exact ⟨k + 1, by go_num, by omega, H5.out, HR5.out, HO5.out, HB5.out⟩
        case measure => simp [intOf]; omega
      · have hx' : ((x.toNat : Int) == 47) = false := by
          rw [beq_eq_false_iff_ne]
          intro e
          apply hx
          apply UInt8.toNat_inj.1
          rw [show (47 : UInt8).toNat = 47 from rfl]
          omega
        have hc4 : wr.cell? ⟨bf, 0, none⟩ = some (.pointer (some ⟨b, 0, none⟩)) := by rw [Lib.cell_of_heap HF.out.1]; rfl
        have hgl : g < wr.heap.size := (Array.getElem?_eq_some_iff.1 HR.out).1
        have HX := Lib.hid hx
        clear hx
        have HWB := Lib.hid (bld_WriteByte_r b b _ (x.toNat : Int) wr HF.out.2 (by rw [Lib.byteCells_length]; have := HLEN.out; simp at this ⊢; omega) (Nat.le_of_lt HF.out.lt))
        go_wp2_with fail
        ((with_reducible refine HWB.out.mono ?_))
        rintro e w5 ⟨rfl, h5, hb5, hk5, hr5⟩
        have h5' := HF.out.kept hk5 h5
        have hL5 : Lib.byteCells ([47] ++ escP (s.data.toList.take k)) ++ [.int .u8 (x.toNat : Int)] = Lib.byteCells ([47] ++ escP (s.data.toList.take (k + 1))) := by
          rw [HSN.out, if_neg HX.out]; simp [Lib.byteCells]
        rw [hL5] at h5'
        have hrow5 := (hr5 g hgl HG.out HOo.out).trans HR.out
        have ho5 : Other b g w5 := row_other h5' hrow5 (HNE.out _ (by simpa using parts_take s (k + 1) (by omega) []))
        have HB5 := Lib.hid (HB.out.trans hb5)
        have H5 := Lib.hid h5'
        have HR5 := Lib.hid hrow5
        have HO5 := Lib.hid ho5
        clear h5 h5' hb5 hk5 hr5 hL5 hrow5 ho5 HWB
        go_wp2
        go_roundw
        case rel => exact ⟨k + 1, by go_num, by omega, H5.out, HR5.out, HO5.out, HB5.out⟩
        case measure => simp [intOf]; omega
    · have hfull : s.data.toList.take k = s.data.toList := List.take_of_length_le (by simp; omega)
      have hf := HF.out
      rw [hfull] at hf
      have HWL := Lib.hid (writeRune_row b bf 0 _ 47 (by decide) (by decide) wr hf (by rw [Lib.byteCells_length, ← hfull]; have := HLEN.out; omega))
      clear hf hfull
      go_wp2_with fail
      ((with_reducible refine HWL.out.mono ?_))
      rintro e w4 ⟨rfl, h4, hb4, _⟩
      have hL4 : Lib.byteCells ([47] ++ escP s.data.toList) ++ Lib.runeCells 47 = Lib.byteCells ([47] ++ escP s.data.toList ++ [47]) := by rw [E47.out]; simp [Lib.byteCells]
      rw [hL4] at h4
      have H4 := Lib.hid h4
      have HB4 := Lib.hid (HB.out.trans hb4)
      clear h4 hb4 hL4 HWL
      go_wp2
      go_end0
      exact ⟨rfl, H4.out, HB4.out⟩

/-- What an expression's literal is written as. -/
def regexpBytes (s : ByteArray) : List UInt8 := [47] ++ escP s.data.toList ++ [47]

theorem closureRegexp_any (b bf cb pn pr : Nat) (s : ByteArray) (hs : s.size ≤ 2147483647) (hp : PatOk s) (w : World) (h : FmAt b bf 0 [] w) (hc : w.cell? ⟨cb, 0, none⟩ = some (.pointer (some ⟨pn, 0, none⟩))) (hn : w.cell? ⟨pn, 3, none⟩ = some (.pointer (some ⟨pr, 0, none⟩))) (hr : w.cell? ⟨pr, 0, none⟩ = some (.string s)) (hpn : pn < b) (hpr : pr < b) :
    Calls Tryz.prog 28 #[.pointer (some ⟨bf, 0, none⟩), .pointer (some ⟨cb, 0, none⟩)] w fun e w' => e = .returned (.tuple #[]) ∧ FmAt b bf 0 (Lib.byteCells (regexpBytes s)) w' ∧ Below b w w' := by
  have HH := Lib.hid (formatRegexp_lit b bf pn pr s hs hp w h hn hr hpn hpr)
  clear h hn hr hp
  go_enter Tryz.func28, Tryz.ntmps28
  go_wp2_with fail
  ((with_reducible refine HH.out.mono ?_))
  rintro e w1 ⟨rfl, h1, hb1⟩
  have H1 := Lib.hid h1
  clear h1
  go_wp2
  go_end0
  exact ⟨rfl, H1.out, hb1⟩

theorem formatRegexpLiteral_any (pn pr : Nat) (s : ByteArray) (hs : s.size ≤ 2147483647) (hp : PatOk s) (w : World) (hn : w.cell? ⟨pn, 3, none⟩ = some (.pointer (some ⟨pr, 0, none⟩))) (hr : w.cell? ⟨pr, 0, none⟩ = some (.string s)) :
    Calls Tryz.prog 15 #[.pointer (some ⟨pn, 0, none⟩)] w fun e w' => e = .returned (.string ⟨(regexpBytes s).toArray⟩) ∧ Below w.heap.size w w' := by
  have hmf : ∀ (fn : Fn) (first cap : Array Value) (w : World), (Instr.makeFunc fn first cap).run Tryz.prog w = .ok (.func fn first cap) w := fun _ _ _ _ => rfl
  have hb0 : Below w.heap.size w (w.alloc (.cells #[.pointer (some ⟨pn, 0, none⟩)] 41)) := (Below.refl _ w).alloc (Nat.le_refl _) _
  have hc : (w.alloc (.cells #[.pointer (some ⟨pn, 0, none⟩)] 41)).cell? ⟨w.heap.size, 0, none⟩ = some (.pointer (some ⟨pn, 0, none⟩)) := by rw [World.cell?_alloc_at _ _ _ _ rfl]; rfl
  have H0 := Lib.hid hc
  have hln := cell_lt hn
  have hlr := cell_lt hr
  have HN := Lib.hid ((hb0.cell (p := ⟨pn, 3, none⟩) hln).trans hn)
  have HR := Lib.hid ((hb0.cell (p := ⟨pr, 0, none⟩) hlr).trans hr)
  have HP := Lib.hid hp
  clear hc hn hr hp
  go_enter Tryz.func15, Tryz.ntmps15
  go_wp2_with fail
  refine (written_any 28 (enters_of Tryz.func28 (by kernel_rfl) rfl) ⟨w.heap.size, 0, none⟩ 0 (regexpBytes s) (by simp [regexpBytes]) _ ?_).mono ?_
  · intro W hf hbW
    exact closureRegexp_any _ _ w.heap.size pn pr s hs HP.out W hf ((hbW.cell (p := ⟨w.heap.size, 0, none⟩) (by simp)).trans H0.out) ((hbW.cell (p := ⟨pn, 3, none⟩) (by simp at hln ⊢; omega)).trans HN.out) ((hbW.cell (p := ⟨pr, 0, none⟩) (by simp at hlr ⊢; omega)).trans HR.out) (by simp at hln ⊢; omega) (by simp at hlr ⊢; omega)
  rintro e w1 ⟨rfl, hb1⟩
  go_wp2
  go_ret
  exact ⟨rfl, hb0.trans (hb1.mono (by simp))⟩

set_option maxHeartbeats 1000000 in
theorem formatRegexp_any (s : ByteArray) (hs : s.size ≤ 2147483647) (hp : PatOk s) (w : World) :
    Calls Tryz.prog 6 #[.string s] w fun e w' => e = .returned (.string ⟨(regexpBytes s).toArray⟩) ∧ Below w.heap.size w w' := by
  have HP := Lib.hid hp
  clear hp
  go_enter Tryz.func6, Tryz.ntmps6
  have hnr : Calls Tryz.prog 16 #[.string s] w fun e w' => e = .returned (.pointer (some ⟨w.heap.size, 0, none⟩)) ∧ w' = w.alloc (.cells #[.string s] 84) := by
    go_enter Tryz.func16, Tryz.ntmps16
    go_wp2
    go_ret
    exact ⟨rfl, rfl⟩
  have hb2 : Below w.heap.size w ((w.alloc (.cells #[.string s] 84)).alloc (.cells #[.pointer none, .slice none 0 0, .slice none 0 0, .pointer (some ⟨w.heap.size, 0, none⟩)] 50)) := ((Below.refl _ w).alloc (Nat.le_refl _) _).alloc (by simp) _
  have hr1 : ((w.alloc (.cells #[.string s] 84)).alloc (.cells #[.pointer none, .slice none 0 0, .slice none 0 0, .pointer (some ⟨w.heap.size, 0, none⟩)] 50)).cell? ⟨w.heap.size, 0, none⟩ = some (.string s) := by
    rw [Lib.cell_of_heap ((Below.heap_alloc _ _ _ (by simp)).trans (heap_alloc_new w _))]; rfl
  have hn1 : ((w.alloc (.cells #[.string s] 84)).alloc (.cells #[.pointer none, .slice none 0 0, .slice none 0 0, .pointer (some ⟨w.heap.size, 0, none⟩)] 50)).cell? ⟨w.heap.size + 1, 3, none⟩ = some (.pointer (some ⟨w.heap.size, 0, none⟩)) := by
    rw [Lib.cell_of_heap (row_two w _ _)]; rfl
  have HL := Lib.hid (formatRegexpLiteral_any (w.heap.size + 1) w.heap.size s hs HP.out _ hn1 hr1)
  have HB := Lib.hid hb2
  have HNR := Lib.hid hnr
  clear hb2 hr1 hn1 hnr
  go_wp2_with fail
  ((with_reducible refine HNR.out.mono ?_))
  rintro e w1 ⟨rfl, rfl⟩
  go_wp2_with fail
  ((with_reducible refine HL.out.mono ?_))
  rintro e w2 ⟨rfl, hb2⟩
  have HB2 := Lib.hid (HB.out.trans (hb2.mono HB.out.size))
  clear hb2
  go_wp2
  go_ret
  exact ⟨rfl, HB2.out⟩

end Go.Proofs.YtciaahpocaejhaaGreatDoor
