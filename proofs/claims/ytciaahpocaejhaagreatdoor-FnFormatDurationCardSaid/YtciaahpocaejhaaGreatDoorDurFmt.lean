/- impl.FormatDuration: what it writes: numbers and units. -/
import Derived.Test.YtciaahpocaejhaaGreatDoorItoa
import Derived.Test.YtciaahpocaejhaaGreatDoorMags
import Derived.Test.YtciaahpocaejhaaGreatDoorFew
import Derived.Deep.RegionHeld3
import Derived.Deep.AppendLies
import Derived.Deep.RegionLaw
namespace Go.Proofs.YtciaahpocaejhaaGreatDoor
open Go Go.RowKit Go.Shelf
set_option linter.unusedVariables false
set_option linter.unusedSimpArgs false

/-- What numbers and units are written as. -/
def durBytes (l : List (Int × ByteArray)) : List UInt8 := l.flatMap fun x => Lib.itoa x.1 ++ x.2.data.toList
def durCells (x : Int × ByteArray) : List Value := [.int .i64 x.1, .string x.2]
theorem durCells_length (x : Int × ByteArray) : (durCells x).length = 2 := rfl

/-- Numbers of 64 bits, short units. -/
def DurIn (x : Int × ByteArray) : Prop := (-9223372036854775808 ≤ x.1 ∧ x.1 ≤ 9223372036854775807) ∧ x.2.size ≤ 300

theorem durBytes_snoc (l : List (Int × ByteArray)) (x : Int × ByteArray) : durBytes (l ++ [x]) = durBytes l ++ (Lib.itoa x.1 ++ x.2.data.toList) := by simp [durBytes]
theorem durBytes_len (l : List (Int × ByteArray)) (h : ∀ x ∈ l, DurIn x) : (durBytes l).length ≤ 321 * l.length := by
  induction l with
  | nil => simp [durBytes]
  | cons x l ih =>
    have h1 := ih fun y hy => h y (by simp [hy])
    have h2 := h x (by simp)
    have h3 := itoa_21 x.1 h2.1.1 h2.1.2
    have h4 : x.2.data.toList.length = x.2.size := by simp
    have h5 := h2.2
    rw [show durBytes (x :: l) = (Lib.itoa x.1 ++ x.2.data.toList) ++ durBytes l by simp [durBytes], List.length_append, List.length_append, List.length_cons]
    omega

theorem writeString_ok (b bf : Nat) (ind : Int) (bs : List Value) (s : ByteArray) (w : World) (h : FmAt b bf ind bs w) (hlen : bs.length + s.size ≤ 140737488355328) :
    Calls Tryz.prog 74 #[.pointer (some ⟨bf, 0, none⟩), .string s] w fun e w' => e = .returned (.tuple #[]) ∧ FmAt b bf ind (bs ++ Lib.strCells s) w' ∧ Below b w w' ∧ Lib.OthersKept 5 (some b) w w' := by
  have c0 : w.cell? ⟨bf, 0, none⟩ = some (.pointer (some ⟨b, 0, none⟩)) := by rw [Lib.cell_of_heap h.1]; rfl
  have HH := Lib.hid h
  have HI := Lib.hid h.2
  have hb := h.lt
  clear h
  go_enter Tryz.func74, Tryz.ntmps74
  go_wp2_with (go_at_call 100; ((with_reducible refine (bld_WriteString b b bs s _ HI.out hlen (by omega)).mono ?_)); rintro e w1 ⟨rfl, h1, hb1, hk1⟩)
  go_end0
  exact ⟨rfl, HH.out.kept hk1 h1, hb1, hk1⟩

theorem others_of_below {w w' : World} (hb : Below w.heap.size w w') (e : TypeId) (b : Option Nat) : Lib.OthersKept e b w w' := fun k o h _ _ => (hb.block k (Array.getElem?_eq_some_iff.1 h).1).trans h
theorem others_cells {e : TypeId} {b : Nat} {w w' : World} (h : Lib.OthersKept e (some b) w w') {k : Nat} {cs : Array Value} {T : TypeId} {fz : Nat × Nat} (hk : w.heap[k]? = some (.cells cs T fz)) (hne : k ≠ b) (hT : T ≠ e) : w'.heap[k]? = some (.cells cs T fz) :=
  h k _ hk (by simpa using hne) (fun c fz' e' => by cases e'; exact hT rfl)

theorem formatInt_b (v : Int) (h0 : -9223372036854775808 ≤ v) (h1 : v ≤ 9223372036854775807) (w : World) (htab : Lib.TabIs Tryz.prog w "internal/strconv.uint64pow10" .u64 Lib.pow10Tab) :
    Calls Tryz.prog 77 #[.int .i64 v, .int .i64 10] w fun e w' => e = .returned (.string ⟨(Lib.itoa v).toArray⟩) ∧ Below w.heap.size w w' :=
  (Tryz.strconv_FormatInt_10 v h0 h1 w htab).mono fun e w' h => by
    obtain ⟨rfl, q, os, rfl⟩ := h
    exact ⟨rfl, below_more w q os⟩

set_option maxHeartbeats 4000000 in
set_option maxRecDepth 100000 in
theorem durClosure_any (b bf cb : Nat) (L : List Value) (x : Int × ByteArray) (hx : DurIn x) (w : World) (h : FmAt b bf 0 L w) (hc : w.heap[cb]? = some (.cells #[.pointer (some ⟨bf, 0, none⟩)] 80 (0, 0))) (hcb : cb ≠ b) (hlen : L.length ≤ 100000000000)
    (htab : Lib.TabIs Tryz.prog w "internal/strconv.uint64pow10" .u64 Lib.pow10Tab) :
    Calls Tryz.prog 76 #[.agg #[.int .i64 x.1, .string x.2], .pointer (some ⟨cb, 0, none⟩)] w fun e w' => e = .returned (.tuple #[]) ∧ FmAt b bf 0 (L ++ Lib.byteCells (Lib.itoa x.1 ++ x.2.data.toList)) w' ∧ Below b w w' ∧ Lib.OthersKept 5 (some b) w w' := by
  obtain ⟨v, u⟩ := x
  obtain ⟨⟨hv0, hv1⟩, hu⟩ := hx
  simp only at hv0 hv1 hu ⊢
  have hl21 := itoa_21 v hv0 hv1
  have hb0 : Below w.heap.size w (w.alloc (.cells #[.int .i64 v, .string u] 77)) := (Below.refl _ w).alloc (Nat.le_refl _) _
  have hx1 : (w.alloc (.cells #[.int .i64 v, .string u] 77)).heap[w.heap.size]? = some (.cells #[.int .i64 v, .string u] 77 (0, 0)) := heap_alloc_new w _
  have hc1 := (hb0.block cb (Array.getElem?_eq_some_iff.1 hc).1).trans hc
  have hblt := h.lt
  have HF := Lib.hid (h.below hb0)
  have HT := Lib.hid (tab_below htab hb0)
  have HB0 := Lib.hid hb0
  have HX := Lib.hid hx1
  have HC := Lib.hid hc1
  clear h hc htab hb0 hx1 hc1
  go_enter Tryz.func76, Tryz.ntmps76
  go_wp2_with fail
  generalize w.alloc (.cells #[.int .i64 v, .string u] 77) = W at HF HT HB0 HX HC ⊢
  have d0 : W.cell? ⟨w.heap.size, 0, none⟩ = some (.int .i64 v) := by rw [Lib.cell_of_heap HX.out]; rfl
  have d2 : W.cell? ⟨cb, 0, none⟩ = some (.pointer (some ⟨bf, 0, none⟩)) := by rw [Lib.cell_of_heap HC.out]; rfl
  have HTd : Hid (Lib.TabIs Tryz.prog W.drew "internal/strconv.uint64pow10" .u64 Lib.pow10Tab) := Lib.hid HT.out
  have d2d : W.drew.cell? ⟨cb, 0, none⟩ = some (.pointer (some ⟨bf, 0, none⟩)) := d2
  have hlw : L.length + (⟨(Lib.itoa v).toArray⟩ : ByteArray).size ≤ 140737488355328 := by
    show L.length + (Lib.itoa v).toArray.size ≤ _
    simp
    omega
  have HLW := Lib.hid hlw
  have HL2 := Lib.hid hl21
  clear hlw
  generalize hit : (⟨(Lib.itoa v).toArray⟩ : ByteArray) = iv at *
  have HIT := Lib.hid hit
  have hFI : ∀ W, Lib.TabIs Tryz.prog W "internal/strconv.uint64pow10" .u64 Lib.pow10Tab → Calls Tryz.prog 77 #[.int .i64 v, .int .i64 10] W fun e w' => e = .returned (.string iv) ∧ Below W.heap.size W w' := fun W h => by
    have h2 := formatInt_b v hv0 hv1 W h
    rwa [hit] at h2
  have HFI := Lib.hid hFI
  clear hit hFI hv0 hv1 hl21
  go_region_with (first
    | (go_at_call 77; ((with_reducible refine (HFI.out _ HTd.out).mono ?_)); rintro e w1 ⟨rfl, hb1⟩; have e2 := (hb1.cell (p := ⟨cb, 0, none⟩) (cell_lt d2d)).trans d2d; have HF1 := Lib.hid (FmAt.below (w := W.drew) HF.out hb1))
    | (go_at_call 74; ((with_reducible refine (writeString_ok b bf 0 L iv _ HF1.out HLW.out).mono ?_)); rintro e w2 ⟨rfl, hf2, hb2, hk2⟩))
  all_goals
    have k1 := (hb1.block cb (Array.getElem?_eq_some_iff.1 HC.out).1).trans HC.out
    have k2 := others_cells hk2 k1 hcb (by decide)
    have x1 := (hb1.block w.heap.size (Array.getElem?_eq_some_iff.1 HX.out).1).trans HX.out
    have x2 := others_cells hk2 x1 (by omega) (by decide)
    have hBW : Below b w W := HB0.out.mono (by omega)
    have hBd : Below b W W.drew := ⟨rfl, rfl, rfl, Nat.le_refl _, fun _ _ => rfl⟩
    have hlt2 : b < W.drew.heap.size := Nat.lt_of_lt_of_le hblt HB0.out.size
    have HB2 := Lib.hid (((hBW.trans hBd).trans (hb1.mono (Nat.le_of_lt hlt2))).trans hb2)
    have hO0 : Lib.OthersKept 5 (some b) w W := others_of_below HB0.out _ _
    have hO1 : Lib.OthersKept 5 (some b) W.drew w1 := others_of_below hb1 _ _
    have HK2 := Lib.hid ((hO0.drew.trans hO1).trans hk2)
    have HF2 := Lib.hid hf2
    have g0 : w2.cell? ⟨cb, 0, none⟩ = some (.pointer (some ⟨bf, 0, none⟩)) := by rw [Lib.cell_of_heap k2]; rfl
    have g1 : w2.cell? ⟨w.heap.size, 1, none⟩ = some (.string u) := by rw [Lib.cell_of_heap x2]; rfl
    clear hb1 hb2 hf2 hk2 k1 k2 x1 x2 hBW hBd hO0 hO1 hlt2 e2 d0 d2 d2d
    have hlw2 : (L ++ Lib.strCells iv).length + u.size ≤ 140737488355328 := by
      have h1 := HL2.out
      have h2 : (Lib.strCells iv).length = (Lib.itoa v).length := by rw [← HIT.out]; simp [Lib.strCells]
      rw [List.length_append, h2]
      omega
    have HWS := Lib.hid (writeString_ok b bf 0 (L ++ Lib.strCells iv) u w2 HF2.out hlw2)
    clear hlw2
    go_wp2_with fail
    ((with_reducible refine HWS.out.mono ?_))
    rintro e w3 ⟨rfl, hf3, hb3, hk3⟩
    have hL : L ++ Lib.strCells iv ++ Lib.strCells u = L ++ Lib.byteCells (Lib.itoa v ++ u.data.toList) := by
      rw [← HIT.out]
      simp [Lib.strCells, Lib.byteCells]
    rw [hL] at hf3
    have HF3 := Lib.hid hf3
    have HB3 := Lib.hid (HB2.out.trans hb3)
    have HK3 := Lib.hid (HK2.out.trans hk3)
    clear hf3 hb3 hk3 hL
    go_wp2
    go_end0
    exact ⟨rfl, HF3.out, HB3.out, HK3.out⟩

/-- Numbers and units in a row. -/
def DurRow (w : World) (g : Nat) (o : Nat) (l : List (Int × ByteArray)) : Prop := ∀ j (hj : j < l.length), w.cell? ⟨g, o + j * 2, none⟩ = some (.int .i64 l[j].1) ∧ w.cell? ⟨g, o + j * 2 + 1, none⟩ = some (.string l[j].2)

set_option maxHeartbeats 4000000 in
set_option maxRecDepth 100000 in
theorem formatDuration_lit (b bf pn g c : Nat) (l : List (Int × ByteArray)) (hl : ∀ x ∈ l, DurIn x) (hlen : l.length ≤ 1000) (w : World) (h : FmAt b bf 0 [] w) (hn : w.cell? ⟨pn, 3, none⟩ = some (.slice (some ⟨g, 0, none⟩) l.length c)) (hr : DurRow w g 0 l) (hpn : pn < b) (hg : g < b)
    (htab : ∀ w', Below b w w' → Lib.TabIs Tryz.prog w' "internal/strconv.uint64pow10" .u64 Lib.pow10Tab) :
    Calls Tryz.prog 51 #[.pointer (some ⟨bf, 0, none⟩), .pointer (some ⟨pn, 0, none⟩)] w fun e w' => e = .returned (.tuple #[]) ∧ FmAt b bf 0 (Lib.byteCells (durBytes l)) w' ∧ Below b w w' := by
  have hmf : ∀ (fn : Fn) (first cap : Array Value) (w : World), (Instr.makeFunc fn first cap).run Tryz.prog w = .ok (.func fn first cap) w := fun _ _ _ _ => rfl
  have hblt := h.lt
  have hb0 : Below w.heap.size w (w.alloc (.cells #[.pointer (some ⟨bf, 0, none⟩)] 80)) := (Below.refl _ w).alloc (Nat.le_refl _) _
  have HF0 := Lib.hid (h.below hb0)
  have HB0 := Lib.hid (hb0.mono (Nat.le_of_lt hblt))
  have HC0 : Hid ((w.alloc (.cells #[.pointer (some ⟨bf, 0, none⟩)] 80)).heap[w.heap.size]? = some (.cells #[.pointer (some ⟨bf, 0, none⟩)] 80 (0, 0))) := Lib.hid (heap_alloc_new w _)
  have HT := Lib.hid htab
  have HL := Lib.hid hl
  have HR := Lib.hid hr
  have hn1 := (HB0.out.cell (p := ⟨pn, 3, none⟩) hpn).trans hn
  clear h hb0 htab hl hr hn
  go_enter Tryz.func51, Tryz.ntmps51
  go_wp2
  go_loopw [13] (fun i wr => ∃ j : Nat, j ≤ l.length ∧ i = .int .i64 j ∧ Hid (FmAt b bf 0 (Lib.byteCells (durBytes (l.take j))) wr) ∧ Hid (wr.heap[w.heap.size]? = some (.cells #[.pointer (some ⟨bf, 0, none⟩)] 80 (0, 0))) ∧ Hid (Below b w wr)) (fun i _ => l.length - (intOf i).toNat)
  case atStart => exact ⟨0, Nat.zero_le _, rfl, HF0, HC0, HB0⟩
  case round =>
    obtain ⟨j, hj, rfl, HF, HC, HB⟩ := hrel
    by_cases hlt : j < l.length
    · obtain ⟨r0, r1⟩ := HR.out j hlt
      have d0 := (HB.out.cell (p := ⟨g, 0 + j * 2, none⟩) hg).trans r0
      have d1 := (HB.out.cell (p := ⟨g, 0 + j * 2 + 1, none⟩) hg).trans r1
      rw [Nat.zero_add] at d0 d1
      have HIN := Lib.hid (HL.out l[j] (List.getElem_mem hlt))
      have HS : Hid (durBytes (l.take (j + 1)) = durBytes (l.take j) ++ (Lib.itoa l[j].1 ++ l[j].2.data.toList)) := Lib.hid (by rw [List.take_succ_eq_append_getElem hlt, durBytes_snoc])
      have hlb : (Lib.byteCells (durBytes (l.take j))).length ≤ 100000000000 := by
        rw [Lib.byteCells_length]
        have h1 := durBytes_len (l.take j) fun x hx => HL.out x (List.mem_of_mem_take hx)
        have h2 : (l.take j).length ≤ 1000 := by simp; omega
        omega
      have HLB := Lib.hid hlb
      have HT2 := Lib.hid (fun w' (h : Below b wr w') => HT.out w' (HB.out.trans h))
      have hwlt : w.heap.size < wr.heap.size := (Array.getElem?_eq_some_iff.1 HC.out).1
      generalize l[j] = q at *
      obtain ⟨n, u⟩ := q
      simp only at d0 d1 HS
      clear r0 r1 hlb
      have hb1 : Below wr.heap.size wr (wr.alloc (.cells #[.int .i64 n, .string u] 77)) := (Below.refl _ wr).alloc (Nat.le_refl _) _
      have hk1 := (hb1.block _ (Array.getElem?_eq_some_iff.1 HC.out).1).trans HC.out
      have HCL := Lib.hid (durClosure_any b bf w.heap.size _ (n, u) HIN.out _ (HF.out.below hb1) hk1 (by omega) HLB.out (HT2.out _ (hb1.mono (by omega))))
      have HO1 : Hid (Lib.OthersKept 5 (some b) wr (wr.alloc (.cells #[.int .i64 n, .string u] 77))) := Lib.hid (others_of_below hb1 _ _)
      have HB1 := Lib.hid (HB.out.trans (hb1.mono (by omega)))
      have HK1 := Lib.hid hk1
      simp only at HCL
      clear hb1 hk1
      go_wp2_with fail
      ((with_reducible refine HCL.out.mono ?_))
      rintro e w2 ⟨rfl, hf2, hb2, hk2⟩
      rw [show Lib.byteCells (durBytes (l.take j)) ++ Lib.byteCells (Lib.itoa n ++ u.data.toList) = Lib.byteCells (durBytes (l.take (j + 1))) by rw [HS.out]; simp [Lib.byteCells]] at hf2
      have HF2 := Lib.hid hf2
      have HB2 := Lib.hid (HB1.out.trans hb2)
      have HK2 := Lib.hid (others_cells hk2 HK1.out (by omega) (by decide))
      clear hf2 hb2 hk2 d0 d1
      go_wp2
      go_roundw
      case rel => exact ⟨j + 1, by omega, by go_num, HF2, HK2, HB2⟩
      case measure => simp [intOf]; omega
    · have hfull : l.take j = l := List.take_of_length_le (by omega)
      rw [hfull] at HF
      go_wp2
      go_end0
      exact ⟨rfl, HF.out, HB.out⟩

theorem durClosure2_any (b bf cb pn g c : Nat) (l : List (Int × ByteArray)) (hl : ∀ x ∈ l, DurIn x) (hlen : l.length ≤ 1000) (w : World) (h : FmAt b bf 0 [] w) (hc : w.cell? ⟨cb, 0, none⟩ = some (.pointer (some ⟨pn, 0, none⟩))) (hn : w.cell? ⟨pn, 3, none⟩ = some (.slice (some ⟨g, 0, none⟩) l.length c)) (hr : DurRow w g 0 l) (hpn : pn < b) (hg : g < b)
    (htab : ∀ w', Below b w w' → Lib.TabIs Tryz.prog w' "internal/strconv.uint64pow10" .u64 Lib.pow10Tab) :
    Calls Tryz.prog 50 #[.pointer (some ⟨bf, 0, none⟩), .pointer (some ⟨cb, 0, none⟩)] w fun e w' => e = .returned (.tuple #[]) ∧ FmAt b bf 0 (Lib.byteCells (durBytes l)) w' ∧ Below b w w' := by
  have HH := Lib.hid (formatDuration_lit b bf pn g c l hl hlen w h hn hr hpn hg htab)
  clear h hl htab hr
  go_enter Tryz.func50, Tryz.ntmps50
  go_wp2_with fail
  ((with_reducible refine HH.out.mono ?_))
  rintro e w1 ⟨rfl, h1, hb1⟩
  have H1 := Lib.hid h1
  clear h1
  go_wp2
  go_end0
  exact ⟨rfl, H1.out, hb1⟩

theorem durBytes_ne (l : List (Int × ByteArray)) (h : l ≠ []) : durBytes l ≠ [] := by
  obtain ⟨x, r, rfl⟩ := List.exists_cons_of_ne_nil h
  intro e
  have := itoa_ne x.1
  simp [durBytes] at e
  exact this e.1

theorem formatDurationLiteral_any (pn g c : Nat) (l : List (Int × ByteArray)) (hl : ∀ x ∈ l, DurIn x) (hlen : l.length ≤ 1000) (hne : l ≠ []) (w : World) (hn : w.cell? ⟨pn, 3, none⟩ = some (.slice (some ⟨g, 0, none⟩) l.length c)) (hr : DurRow w g 0 l) (hpn : pn < w.heap.size) (hg : g < w.heap.size)
    (htab : Lib.TabIs Tryz.prog w "internal/strconv.uint64pow10" .u64 Lib.pow10Tab) :
    Calls Tryz.prog 26 #[.pointer (some ⟨pn, 0, none⟩)] w fun e w' => e = .returned (.string ⟨(durBytes l).toArray⟩) ∧ Below w.heap.size w w' := by
  have hmf : ∀ (fn : Fn) (first cap : Array Value) (w : World), (Instr.makeFunc fn first cap).run Tryz.prog w = .ok (.func fn first cap) w := fun _ _ _ _ => rfl
  have hb0 : Below w.heap.size w (w.alloc (.cells #[.pointer (some ⟨pn, 0, none⟩)] 72)) := (Below.refl _ w).alloc (Nat.le_refl _) _
  have hc : (w.alloc (.cells #[.pointer (some ⟨pn, 0, none⟩)] 72)).cell? ⟨w.heap.size, 0, none⟩ = some (.pointer (some ⟨pn, 0, none⟩)) := by rw [World.cell?_alloc_at _ _ _ _ rfl]; rfl
  have H0 := Lib.hid hc
  have HT := Lib.hid htab
  have HN := Lib.hid hn
  have HR := Lib.hid hr
  have HL := Lib.hid hl
  clear hc htab hn hr hl
  go_enter Tryz.func26, Tryz.ntmps26
  go_wp2_with fail
  refine (written_any 50 (enters_of Tryz.func50 (by kernel_rfl) rfl) ⟨w.heap.size, 0, none⟩ 0 (durBytes l) (durBytes_ne l hne) _ ?_).mono ?_
  · intro W hf hbW
    have hbw := hb0.trans (hbW.mono (by simp))
    refine (durClosure2_any _ _ w.heap.size pn g c l HL.out hlen W hf ((hbW.cell (p := ⟨w.heap.size, 0, none⟩) (by simp)).trans H0.out) ((hbw.cell (p := ⟨pn, 3, none⟩) hpn).trans HN.out) ?_ (by simp; omega) (by simp; omega) ?_).mono ?_
    · intro j hj
      obtain ⟨r0, r1⟩ := HR.out j hj
      exact ⟨(hbw.cell (p := ⟨g, 0 + j * 2, none⟩) hg).trans r0, (hbw.cell (p := ⟨g, 0 + j * 2 + 1, none⟩) hg).trans r1⟩
    · intro w' hw'
      exact tab_below HT.out (hbw.trans (hw'.mono (by simp)))
    · exact fun e W' h => h
  rintro e w1 ⟨rfl, hb1⟩
  go_wp2
  go_ret
  exact ⟨rfl, hb0.trans (hb1.mono (by simp))⟩

theorem dur_info : (Tryz.prog.info? 77).map (fun i => (i.zero, i.size, i.bytes)) = some (some (.agg #[.int .i64 0, .string ⟨#[]⟩]), 2, 24) := by kernel_rfl

/-- The arguments: numbers and units, side by side. -/
def ArgsAt (w : World) (gm om gu ou : Nat) (l : List (Int × ByteArray)) : Prop :=
  gm < w.heap.size ∧ gu < w.heap.size ∧ ∀ j (hj : j < l.length), w.cell? ⟨gm, om + j, none⟩ = some (.int .i64 l[j].1) ∧ w.cell? ⟨gu, ou + j, none⟩ = some (.string l[j].2)

theorem ArgsAt.below {w w' : World} {gm om gu ou : Nat} {l : List (Int × ByteArray)} (h : ArgsAt w gm om gu ou l) (hb : Below w.heap.size w w') : ArgsAt w' gm om gu ou l :=
  ⟨Nat.lt_of_lt_of_le h.1 hb.size, Nat.lt_of_lt_of_le h.2.1 hb.size, fun j hj => ⟨(hb.cell (p := ⟨gm, om + j, none⟩) h.1).trans (h.2.2 j hj).1, (hb.cell (p := ⟨gu, ou + j, none⟩) h.2.1).trans (h.2.2 j hj).2⟩⟩

/-- The literal that is made, in block D. -/
def DlAt (D : Nat) (l : List (Int × ByteArray)) (j : Nat) (w : World) : Prop :=
  ∃ a c, w.heap[D]? = some (.cells #[.pointer none, .slice none 0 0, .slice none 0 0, .slice a j c] 75 (0, 0)) ∧ w.ownsRow (D + 1) 77 2 (.slice a j c) j ((l.take j).flatMap durCells)

theorem own_ne {w : World} {base : Nat} {e : TypeId} {size : Nat} {v : Value} {n : Nat} {xs : List Value} (h : w.ownsRow base e size v n xs) {k : Nat} (hk : k < base) : v.ownBlock ≠ some k := fun e => by have := (h.lt k e).1; omega

set_option maxHeartbeats 4000000 in
set_option maxRecDepth 100000 in
theorem formatDuration_any (gm om cm gu ou cu : Nat) (l : List (Int × ByteArray)) (hl : ∀ x ∈ l, DurIn x) (hlen : l.length ≤ 1000) (hne : l ≠ []) (w : World) (ha : ArgsAt w gm om gu ou l)
    (htab : Lib.TabIs Tryz.prog w "internal/strconv.uint64pow10" .u64 Lib.pow10Tab) :
    Calls Tryz.prog 14 #[.slice (some ⟨gm, om, none⟩) l.length cm, .slice (some ⟨gu, ou, none⟩) l.length cu] w fun e w' => e = .returned (.string ⟨(durBytes l).toArray⟩) ∧ Below w.heap.size w w' := by
  obtain ⟨i0, hi0, hz0, hz1, hz2⟩ := info_parts dur_info
  have hb0 : Below w.heap.size w (w.alloc (.cells #[.pointer none, .slice none 0 0, .slice none 0 0, .slice none 0 0] 75)) := (Below.refl _ w).alloc (Nat.le_refl _) _
  have hd0 : DlAt w.heap.size l 0 (w.alloc (.cells #[.pointer none, .slice none 0 0, .slice none 0 0, .slice none 0 0] 75)) := ⟨none, 0, heap_alloc_new w _, World.ownsRow_nil _ _ _ _⟩
  have hs0 : w.heap.size + 1 ≤ (w.alloc (.cells #[.pointer none, .slice none 0 0, .slice none 0 0, .slice none 0 0] 75)).heap.size := by simp
  have HA := Lib.hid ha
  have HT := Lib.hid htab
  have HL := Lib.hid hl
  have HN := Lib.hid hne
  have HB0 := Lib.hid hb0
  have HD0 := Lib.hid hd0
  have HS0 := Lib.hid hs0
  clear ha htab hl hne hb0 hd0 hs0
  go_enter Tryz.func14, Tryz.ntmps14
  go_wp2
  go_loopw [6] (fun i wr => ∃ j : Nat, j ≤ l.length ∧ i = .int .i64 j ∧ Hid (DlAt w.heap.size l j wr) ∧ Hid (Below w.heap.size w wr) ∧ Hid (w.heap.size + 1 ≤ wr.heap.size)) (fun i _ => l.length - (intOf i).toNat)
  case atStart => exact ⟨0, Nat.zero_le _, rfl, HD0, HB0, HS0⟩
  case round =>
    obtain ⟨j, hj, rfl, HD, HB, HS⟩ := hrel
    obtain ⟨a, c, hrow, hown⟩ := HD.out
    have p3 : wr.cell? ⟨w.heap.size, 3, none⟩ = some (.slice a j c) := by rw [Lib.cell_of_heap hrow]; rfl
    have f3 := Lib.frozen_of_heap hrow 3
    by_cases hlt : j < l.length
    · obtain ⟨lm, lu, hcl⟩ := HA.out
      obtain ⟨r0, r1⟩ := hcl j hlt
      have d0 := (HB.out.cell (p := ⟨gm, om + j, none⟩) lm).trans r0
      have d1 := (HB.out.cell (p := ⟨gu, ou + j, none⟩) lu).trans r1
      have HTK : Hid ((l.take (j + 1)).flatMap durCells = (l.take j).flatMap durCells ++ durCells l[j]) := Lib.hid (by rw [List.take_succ_eq_append_getElem hlt, List.flatMap_append, List.flatMap_singleton])
      have hi1 : (j : Int) < l.length := by omega
      have hi0' : (0 : Int) ≤ j := by omega
      generalize l[j] = q at *
      obtain ⟨n, u⟩ := q
      simp only at d0 d1
      have ag : (Value.slice a j c).ownBlock ≠ some w.heap.size := own_ne hown (Nat.lt_succ_self _)
      have am : (Value.slice a j c).ownBlock ≠ some gm := own_ne hown (by omega)
      have au : (Value.slice a j c).ownBlock ≠ some gu := own_ne hown (by omega)
      have HO := Lib.hid hown
      have HR := Lib.hid hrow
      have hsz := HS.out
      have f3a : (wr.alloc (.cells #[.int .i64 n, .string u] 77)).frozen? ⟨w.heap.size, 3, none⟩ = false := Lib.frozen_of_heap ((Below.heap_alloc _ _ _ (by omega)).trans hrow) 3
      have f3b : (wr.alloc (.cells #[.int .i64 n, .string u] 77)).drew.frozen? ⟨w.heap.size, 3, none⟩ = false := f3a
      have p3b : (wr.alloc (.cells #[.int .i64 n, .string u] 77)).drew.cell? ⟨w.heap.size, 3, none⟩ = some (.slice a j c) := by
        show (wr.alloc (.cells #[.int .i64 n, .string u] 77)).cell? ⟨w.heap.size, 3, none⟩ = some (.slice a j c)
        rw [Lib.cell_of_heap ((Below.heap_alloc _ _ _ (by omega)).trans hrow)]
        rfl
      clear hown hrow hcl r0 r1
      go_wp2_with fail
      go_region_law ((refine step_append_lies _ (by rfl) _ _ _ (by rfl) (w.heap.size + 1) 77 i0 _ 2 24 Tryz.underlying73 hi0 hz0 hz1 hz2 rfl (by omega) (.slice a j c) j _ (by rfl) ((HO.out.alloc _).drew) ⟨wr.heap.size, 0, none⟩ 1 1 [.int .i64 n, .string u] (by rfl) (by rfl) (World.news_of_block (cs := #[.int .i64 n, .string u]) (t := 77) (fr := (0, 0)) (heap_alloc_new wr _)) (by simp [Value.oneCell']) (by omega) (by unfold maxLen; omega) (by omega) (by simp; omega) (wr.heap.size + 1) (by simp) ?_; intro gg cap w1 hown1 hgrow hat hlt1; have f4 := (hgrow.frozen_far ⟨w.heap.size, 3, none⟩ (by simp; omega) (Ne.symm ag)).trans f3b; have p4 := (hgrow.cell_far ⟨w.heap.size, 3, none⟩ (by simp; omega) (Ne.symm ag)).trans p3b))
      all_goals
        have hrow0 : (wr.alloc (.cells #[.int .i64 n, .string u] 77)).drew.heap[w.heap.size]? = some (.cells #[.pointer none, .slice none 0 0, .slice none 0 0, .slice a j c] 75 (0, 0)) := (Below.heap_alloc _ _ _ (by omega)).trans HR.out
        have hrow1 := (hgrow.block w.heap.size (Array.getElem?_eq_some_iff.1 hrow0).1 (Ne.symm ag)).trans hrow0
        have hs1 : w.heap.size < w1.heap.size := (Array.getElem?_eq_some_iff.1 hrow1).1
        have hown2 := World.ownsRow.kept hown1 (Lib.grownBy_setB (World.grownBy.refl w1 (some w.heap.size)) 3 (.slice (some ⟨gg, 0, none⟩) (j + 1) cap)) (.inr (own_ne hown1 (Nat.lt_succ_self _)))
        have HD2 : Hid (DlAt w.heap.size l (j + 1) (w1.setCell ⟨w.heap.size, 3, none⟩ (.slice (some ⟨gg, 0, none⟩) (j + 1) cap))) := Lib.hid ⟨some ⟨gg, 0, none⟩, cap, row_set hrow1 3 _, by rw [HTK.out]; exact hown2⟩
        have hB1 : Below w.heap.size w w1 := (Below.drew (HB.out.alloc HB.out.size (.cells #[.int .i64 n, .string u] 77))).grown hgrow (by have := HB.out.size; simp; omega) (fun k e => by have := (HO.out.lt k e).1; omega)
        have HB2 := Lib.hid (hB1.setCell (p := ⟨w.heap.size, 3, none⟩) (Nat.le_refl _) (.slice (some ⟨gg, 0, none⟩) (j + 1) cap))
        have HS2 : Hid (w.heap.size + 1 ≤ (w1.setCell ⟨w.heap.size, 3, none⟩ (.slice (some ⟨gg, 0, none⟩) (j + 1) cap)).heap.size) := Lib.hid (by simp [World.setCell]; omega)
        clear hrow0 hrow1 hown2 hB1 hown1 hgrow hat hlt1 f4 p4 f3a f3b p3b d0 d1 p3 f3 ag am au
        go_wp2
        go_roundw
        case rel => exact ⟨j + 1, by omega, by go_num, HD2, HB2, HS2⟩
        case measure => simp [intOf]; omega
    · have hfull : j = l.length := by omega
      subst hfull
      rw [List.take_length] at hown
      obtain ⟨g, rfl⟩ : ∃ g : Nat, a = some ⟨g, 0, none⟩ := by
        rcases hown.2 with ⟨_, h0⟩ | ⟨g, cap, cur, hv, _⟩
        · exact absurd (List.length_eq_zero_iff.1 h0) HN.out
        · cases hv; exact ⟨g, rfl⟩
      have hgl := (hown.lt g rfl).2
      have hdr : DurRow wr g 0 l := fun i hi => by
        have h0 := hown.cells (g := g) rfl (i * 2 + 0) (.int .i64 l[i].1) (by rw [rows_at 2 durCells durCells_length l i 0 hi (by omega)]; rfl)
        have h1 := hown.cells (g := g) rfl (i * 2 + 1) (.string l[i].2) (by rw [rows_at 2 durCells durCells_length l i 1 hi (by omega)]; rfl)
        rw [add_at] at h0 h1
        refine ⟨?_, ?_⟩
        · rw [Nat.zero_add] at h0 ⊢
          simpa using h0
        · rw [Nat.zero_add] at h1 ⊢
          simpa [Nat.add_assoc] using h1
      have hDl : w.heap.size < wr.heap.size := (Array.getElem?_eq_some_iff.1 hrow).1
      have HF := Lib.hid (formatDurationLiteral_any w.heap.size g c l HL.out hlen HN.out wr p3 hdr hDl hgl (tab_below HT.out HB.out))
      clear hown hrow hdr
      go_wp2_with fail
      ((with_reducible refine HF.out.mono ?_))
      rintro e w2 ⟨rfl, hb2⟩
      have HB2 := Lib.hid (HB.out.trans (hb2.mono HB.out.size))
      clear hb2
      go_wp2
      go_ret
      exact ⟨rfl, HB2.out⟩

end Go.Proofs.YtciaahpocaejhaaGreatDoor
