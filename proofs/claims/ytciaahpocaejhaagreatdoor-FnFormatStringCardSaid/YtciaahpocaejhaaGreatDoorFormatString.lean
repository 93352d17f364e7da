/- impl.FormatString: what it writes: its source, or the text in quotes. -/
import Derived.Test.YtciaahpocaejhaaGreatDoorEsc
import Derived.Test.YtciaahpocaejhaaGreatDoorFields
namespace Go.Proofs.YtciaahpocaejhaaGreatDoor
open Go Go.RowKit Go.Shelf
set_option linter.unusedVariables false

/-- What a string's literal is written as. -/
def stringBytes (s : ByteArray) : List UInt8 := [34] ++ escT s.data.toList ++ [34]

set_option maxHeartbeats 4000000 in
set_option maxRecDepth 100000 in
theorem formatString_lit (b bf pn : Nat) (s : ByteArray) (hs : s.size ≤ 2147483647) (hv : Lib.validD s.data.toList = true) (w : World) (h : FmAt b bf 0 [] w) (h0 : w.cell? ⟨pn, 0, none⟩ = some (.pointer none)) (h3 : w.cell? ⟨pn, 3, none⟩ = some (.string s)) (hpn : pn < b) :
    Calls Tryz.prog 49 #[.pointer (some ⟨bf, 0, none⟩), .pointer (some ⟨pn, 0, none⟩)] w fun e w' => e = .returned (.tuple #[]) ∧ FmAt b bf 0 (Lib.byteCells (stringBytes s)) w' ∧ Below b w w' := by
  have e34 : Lib.runeCells 34 = Lib.byteCells [34] := by
    have e : Lib.encodeRuneZ 34 = [34] := Lib.encodeRuneZ_one (by decide) (by decide)
    simp [Lib.runeCells, Lib.byteCells, e]
  have E34 := Lib.hid e34
  have HW := Lib.hid (writeRune_any b bf 0 [] 34 (by decide) (by decide) w h (by decide))
  have HV := Lib.hid hv
  clear e34 h hv
  go_enter Tryz.func49, Tryz.ntmps49
  go_wp2_with fail
  ((with_reducible refine HW.out.mono ?_))
  rintro e w1 ⟨rfl, h1, hb1⟩
  have h31 := (hb1.cell (p := ⟨pn, 3, none⟩) hpn).trans h3
  rw [E34.out] at h1
  have H1 := Lib.hid h1
  have HB1 := Lib.hid hb1
  have HE := Lib.hid (escapeStr_any s hs HV.out w1)
  clear h1 hb1 h3 h0 HW
  go_wp2_with fail
  ((with_reducible refine HE.out.mono ?_))
  rintro e w2 ⟨rfl, hb2⟩
  have h2 := H1.out.below hb2
  have hlen : (escT s.data.toList).length ≤ 4294967294 := by
    have h1 := escT_len s.data.toList
    have h2 : s.data.toList.length = s.size := by simp
    omega
  have HB2 := Lib.hid (HB1.out.trans (hb2.mono (Nat.le_of_lt H1.out.lt)))
  have HWS := Lib.hid (writeString_any b bf 0 _ ⟨(escT s.data.toList).toArray⟩ w2 h2 (by rw [List.length_append, Lib.byteCells_length]; show 0 + 1 + (escT s.data.toList).toArray.size ≤ _; simp; omega))
  have HLEN := Lib.hid hlen
  clear h2 hb2 hlen
  go_wp2_with fail
  ((with_reducible refine HWS.out.mono ?_))
  rintro e w3 ⟨rfl, h3, hb3⟩
  have hL : [] ++ Lib.byteCells [34] ++ Lib.strCells ⟨(escT s.data.toList).toArray⟩ = Lib.byteCells ([34] ++ escT s.data.toList) := by simp [Lib.strCells, Lib.byteCells]
  rw [hL] at h3
  have HB3 := Lib.hid (HB2.out.trans hb3)
  have HWL := Lib.hid (writeRune_any b bf 0 _ 34 (by decide) (by decide) w3 h3 (by rw [Lib.byteCells_length]; have := HLEN.out; simp; omega))
  clear h3 hb3 hL
  go_wp2_with fail
  ((with_reducible refine HWL.out.mono ?_))
  rintro e w4 ⟨rfl, h4, hb4⟩
  have hL : Lib.byteCells ([34] ++ escT s.data.toList) ++ Lib.runeCells 34 = Lib.byteCells (stringBytes s) := by rw [E34.out]; simp [Lib.byteCells, stringBytes]
  rw [hL] at h4
  have H4 := Lib.hid h4
  have HB4 := Lib.hid (HB3.out.trans hb4)
  clear h4 hb4 hL
  go_wp2
  go_end0
  exact ⟨rfl, H4.out, HB4.out⟩

set_option maxHeartbeats 4000000 in
set_option maxRecDepth 100000 in
theorem formatString_src (b bf pn pl : Nat) (s : ByteArray) (hs : s.size ≤ 2147483647) (hne : s ≠ ⟨#[]⟩) (w : World) (h : FmAt b bf 0 [] w) (h0 : w.cell? ⟨pn, 0, none⟩ = some (.pointer (some ⟨pl, 0, none⟩))) (h5 : w.cell? ⟨pl, 5, none⟩ = some (.string s)) :
    Calls Tryz.prog 49 #[.pointer (some ⟨bf, 0, none⟩), .pointer (some ⟨pn, 0, none⟩)] w fun e w' => e = .returned (.tuple #[]) ∧ FmAt b bf 0 (Lib.byteCells s.data.toList) w' ∧ Below b w w' := by
  have HWS := Lib.hid (writeString_any b bf 0 [] s w h (by simp; omega))
  have hn1 := notEmpty_of hne
  clear h hne
  go_enter Tryz.func49, Tryz.ntmps49
  go_wp2_with fail
  ((with_reducible refine HWS.out.mono ?_))
  rintro e w1 ⟨rfl, h1, hb1⟩
  have hL : [] ++ Lib.strCells s = Lib.byteCells s.data.toList := by simp [Lib.strCells, Lib.byteCells]
  rw [hL] at h1
  have H1 := Lib.hid h1
  clear h1 hL
  go_wp2
  exact bodyPost_ret (v := .tuple #[]) (by simp [results, Tryz.results49, go_sem]) rfl ⟨rfl, H1.out, hb1⟩

/-- The literal's node in memory: with its source, or without one. -/
def LitAt (pn : Nat) (v src : ByteArray) (w : World) : Prop :=
  (src = ⟨#[]⟩ ∧ w.cell? ⟨pn, 0, none⟩ = some (.pointer none) ∧ w.cell? ⟨pn, 3, none⟩ = some (.string v)) ∨
    (src ≠ ⟨#[]⟩ ∧ ∃ pl : Nat, w.cell? ⟨pn, 0, none⟩ = some (.pointer (some ⟨pl, 0, none⟩)) ∧ w.cell? ⟨pl, 5, none⟩ = some (.string src))
def litBytes (v src : ByteArray) : List UInt8 := if src = ⟨#[]⟩ then stringBytes v else src.data.toList

theorem LitAt.lt {pn : Nat} {v src : ByteArray} {w : World} (h : LitAt pn v src w) : pn < w.heap.size := by
  rcases h with ⟨_, h, _⟩ | ⟨_, _, h, _⟩ <;> exact cell_lt h
theorem LitAt.keep {pn : Nat} {v src : ByteArray} {w w' : World} (h : LitAt pn v src w) (hb : Below w.heap.size w w') : LitAt pn v src w' := by
  rcases h with ⟨h1, h2, h3⟩ | ⟨h1, pl, h2, h3⟩
  · exact .inl ⟨h1, (hb.cell (p := ⟨pn, 0, none⟩) (cell_lt h2)).trans h2, (hb.cell (p := ⟨pn, 3, none⟩) (cell_lt h3)).trans h3⟩
  · exact .inr ⟨h1, pl, (hb.cell (p := ⟨pn, 0, none⟩) (cell_lt h2)).trans h2, (hb.cell (p := ⟨pl, 5, none⟩) (cell_lt h3)).trans h3⟩

theorem closureString_any (b bf cb pn : Nat) (v src : ByteArray) (hs : v.size ≤ 2147483647 ∧ src.size ≤ 2147483647) (hv : src = ⟨#[]⟩ → Lib.validD v.data.toList = true) (w : World) (h : FmAt b bf 0 [] w) (hc : w.cell? ⟨cb, 0, none⟩ = some (.pointer (some ⟨pn, 0, none⟩))) (hl : LitAt pn v src w) (hpn : pn < b) :
    Calls Tryz.prog 48 #[.pointer (some ⟨bf, 0, none⟩), .pointer (some ⟨cb, 0, none⟩)] w fun e w' => e = .returned (.tuple #[]) ∧ FmAt b bf 0 (Lib.byteCells (litBytes v src)) w' ∧ Below b w w' := by
  have hh : Calls Tryz.prog 49 #[.pointer (some ⟨bf, 0, none⟩), .pointer (some ⟨pn, 0, none⟩)] w fun e w' => e = .returned (.tuple #[]) ∧ FmAt b bf 0 (Lib.byteCells (litBytes v src)) w' ∧ Below b w w' := by
    unfold litBytes
    rcases hl with ⟨h1, h2, h3⟩ | ⟨h1, pl, h2, h3⟩
    · rw [if_pos h1]
      exact formatString_lit b bf pn v hs.1 (hv h1) w h h2 h3 hpn
    · rw [if_neg h1]
      exact formatString_src b bf pn pl src hs.2 h1 w h h2 h3
  have HH := Lib.hid hh
  clear h hl hh hv
  go_enter Tryz.func48, Tryz.ntmps48
  go_wp2_with fail
  ((with_reducible refine HH.out.mono ?_))
  rintro e w1 ⟨rfl, h1, hb1⟩
  have H1 := Lib.hid h1
  clear h1
  go_wp2
  go_end0
  exact ⟨rfl, H1.out, hb1⟩

theorem litBytes_ne (v src : ByteArray) : litBytes v src ≠ [] := by
  unfold litBytes
  split
  · simp [stringBytes]
  · rename_i h
    intro e
    exact h (ByteArray.ext (Array.toList_inj.1 e))

theorem formatStringLiteral_any (pn : Nat) (v src : ByteArray) (hs : v.size ≤ 2147483647 ∧ src.size ≤ 2147483647) (hv : src = ⟨#[]⟩ → Lib.validD v.data.toList = true) (w : World) (hl : LitAt pn v src w) :
    Calls Tryz.prog 25 #[.pointer (some ⟨pn, 0, none⟩)] w fun e w' => e = .returned (.string ⟨(litBytes v src).toArray⟩) ∧ Below w.heap.size w w' := by
  have hmf : ∀ (fn : Fn) (first cap : Array Value) (w : World), (Instr.makeFunc fn first cap).run Tryz.prog w = .ok (.func fn first cap) w := fun _ _ _ _ => rfl
  have hb0 : Below w.heap.size w (w.alloc (.cells #[.pointer (some ⟨pn, 0, none⟩)] 64)) := (Below.refl _ w).alloc (Nat.le_refl _) _
  have hc : (w.alloc (.cells #[.pointer (some ⟨pn, 0, none⟩)] 64)).cell? ⟨w.heap.size, 0, none⟩ = some (.pointer (some ⟨pn, 0, none⟩)) := by rw [World.cell?_alloc_at _ _ _ _ rfl]; rfl
  have H0 := Lib.hid hc
  have hlt := hl.lt
  have HL := Lib.hid (hl.keep hb0)
  have HV := Lib.hid hv
  clear hc hl hv
  go_enter Tryz.func25, Tryz.ntmps25
  go_wp2_with fail
  refine (written_any 48 (enters_of Tryz.func48 (by kernel_rfl) rfl) ⟨w.heap.size, 0, none⟩ 0 (litBytes v src) (litBytes_ne v src) _ ?_).mono ?_
  · intro W hf hbW
    exact closureString_any _ _ w.heap.size pn v src hs HV.out W hf ((hbW.cell (p := ⟨w.heap.size, 0, none⟩) (by simp)).trans H0.out) (HL.out.keep hbW) (by simp; omega)
  rintro e w1 ⟨rfl, hb1⟩
  go_wp2
  go_ret
  exact ⟨rfl, hb0.trans (hb1.mono (by simp))⟩

set_option maxHeartbeats 2000000 in
theorem formatString_any (v src : ByteArray) (hs : v.size ≤ 2147483647 ∧ src.size ≤ 2147483647) (hv : src = ⟨#[]⟩ → Lib.validD v.data.toList = true) (w : World) :
    Calls Tryz.prog 12 #[.string v, .string src] w fun e w' => e = .returned (.string ⟨(litBytes v src).toArray⟩) ∧ Below w.heap.size w w' := by
  have HV := Lib.hid hv
  clear hv
  go_enter Tryz.func12, Tryz.ntmps12
  by_cases he : src = ⟨#[]⟩
  · have h0 : (w.alloc (.cells #[.pointer none, .slice none 0 0, .slice none 0 0, .string v] 66)).heap[w.heap.size]? = some (.cells #[.pointer none, .slice none 0 0, .slice none 0 0, .string v] 66 (0, 0)) := heap_alloc_new w _
    have hl : LitAt w.heap.size v src (w.alloc (.cells #[.pointer none, .slice none 0 0, .slice none 0 0, .string v] 66)) := .inl ⟨he, by rw [Lib.cell_of_heap h0]; rfl, by rw [Lib.cell_of_heap h0]; rfl⟩
    have HL := Lib.hid (formatStringLiteral_any w.heap.size v src hs HV.out _ hl)
    have HB : Hid (Below w.heap.size w (w.alloc (.cells #[.pointer none, .slice none 0 0, .slice none 0 0, .string v] 66))) := Lib.hid ((Below.refl _ w).alloc (Nat.le_refl _) _)
    have he1 := isEmpty_of he
    clear h0 hl he
    go_wp2_with fail
    ((with_reducible refine HL.out.mono ?_))
    rintro e w2 ⟨rfl, hb2⟩
    have HB2 := Lib.hid (HB.out.trans (hb2.mono HB.out.size))
    clear hb2
    go_wp2
    go_ret
    exact ⟨rfl, HB2.out⟩
  · have he1 := notEmpty_of he
    have h0 : ((w.alloc (.cells #[.pointer (some ⟨w.heap.size + 1, 0, none⟩), .slice none 0 0, .slice none 0 0, .string v] 66)).alloc (.cells #[.string ⟨#[]⟩, .int .i64 0, .int .i64 0, .int .i64 0, .int .i64 0, .string src] 70)).heap[w.heap.size]? = some (.cells #[.pointer (some ⟨w.heap.size + 1, 0, none⟩), .slice none 0 0, .slice none 0 0, .string v] 66 (0, 0)) := (Below.heap_alloc _ _ _ (by simp)).trans (heap_alloc_new w _)
    have h1 : ((w.alloc (.cells #[.pointer (some ⟨w.heap.size + 1, 0, none⟩), .slice none 0 0, .slice none 0 0, .string v] 66)).alloc (.cells #[.string ⟨#[]⟩, .int .i64 0, .int .i64 0, .int .i64 0, .int .i64 0, .string src] 70)).heap[w.heap.size + 1]? = some (.cells #[.string ⟨#[]⟩, .int .i64 0, .int .i64 0, .int .i64 0, .int .i64 0, .string src] 70 (0, 0)) := row_two _ _ _
    have hl : LitAt w.heap.size v src ((w.alloc (.cells #[.pointer (some ⟨w.heap.size + 1, 0, none⟩), .slice none 0 0, .slice none 0 0, .string v] 66)).alloc (.cells #[.string ⟨#[]⟩, .int .i64 0, .int .i64 0, .int .i64 0, .int .i64 0, .string src] 70)) := .inr ⟨he, w.heap.size + 1, by rw [Lib.cell_of_heap h0]; rfl, by rw [Lib.cell_of_heap h1]; rfl⟩
    have HL := Lib.hid (formatStringLiteral_any w.heap.size v src hs HV.out _ hl)
    have HB : Hid (Below w.heap.size w ((w.alloc (.cells #[.pointer (some ⟨w.heap.size + 1, 0, none⟩), .slice none 0 0, .slice none 0 0, .string v] 66)).alloc (.cells #[.string ⟨#[]⟩, .int .i64 0, .int .i64 0, .int .i64 0, .int .i64 0, .string src] 70))) := Lib.hid (((Below.refl _ w).alloc (Nat.le_refl _) _).alloc (by simp) _)
    clear h0 h1 hl he
    go_wp2_with fail
    ((with_reducible refine HL.out.mono ?_))
    rintro e w2 ⟨rfl, hb2⟩
    have HB2 := Lib.hid (HB.out.trans (hb2.mono HB.out.size))
    clear hb2
    go_wp2
    go_ret
    exact ⟨rfl, HB2.out⟩

end Go.Proofs.YtciaahpocaejhaaGreatDoor
