/- impl.nodesOf: the package's nodes in a row. -/
import Derived.Test.YtkohgndmhgcgeaaGreatDoorUn0
import Derived.Deep.RegionLaw
namespace Go.Proofs.YtkohgndmhgcgeaaGreatDoor
open Go Go.RowKit
set_option linter.unusedVariables false
set_option linter.unusedSimpArgs false

abbrev valP (_ : Tr) (r : Nat) : Value := pp r
abbrev valI (x : Tr) (r : Nat) : Value := kv x.kind r

theorem cnt_pos (t : Tr) : 1 ≤ t.count := by
  cases t with
  | mk k t m n ks => rw [Tr.count_mk]; omega
theorem cnt_mem {x : Tr} : ∀ {l : List Tr}, x ∈ l → x.count ≤ (l.map Tr.count).sum
  | y :: l, h => by
    rw [List.map_cons, List.sum_cons]
    rcases List.mem_cons.1 h with rfl | h
    · omega
    · have := cnt_mem h
      omega
theorem cnt_len : ∀ (l : List Tr), l.length ≤ (l.map Tr.count).sum
  | [] => Nat.le_refl _
  | y :: l => by
    have := cnt_len l
    have := cnt_pos y
    rw [List.map_cons, List.sum_cons, List.length_cons]
    omega

/-- Plain nodes in a row, wherever the row lies. -/
def RowN (w : World) (N : Nat) (ad : Option Addr) (l : List Tr) : Prop := 0 < l.length → ∃ b o : Nat, ad = some ⟨b, o, none⟩ ∧ b < N ∧ ∀ wr, Keep (· < N) w wr → ∀ j (hj : j < l.length), ∃ (a' : Option Addr) (c' : Nat), NodeIn wr (· < N) l[j] (nodeU l[j].kind l[j].text l[j].more l[j].num a' l[j].kids.length c') ∧
      wr.cell? ⟨b, o + j * 5, none⟩ = some (.int .i64 l[j].kind) ∧ wr.cell? ⟨b, o + j * 5 + 1, none⟩ = some (.string l[j].text) ∧ wr.cell? ⟨b, o + j * 5 + 2, none⟩ = some (.string l[j].more) ∧ wr.cell? ⟨b, o + j * 5 + 3, none⟩ = some (.int .u64 l[j].num) ∧ wr.cell? ⟨b, o + j * 5 + 4, none⟩ = some (.slice a' l[j].kids.length c')

theorem RowN.of {w : World} {N : Nat} {k : Int} {t m : ByteArray} {n : Int} {ks : List Tr} {a : Option Addr} {l c : Nat} (h : NodeIn w (· < N) (.mk k t m n ks) (nodeU k t m n a l c)) : RowN w N a ks := fun hp => h.kidsAt hp

theorem RowN.keep {w w1 : World} {N : Nat} {ad : Option Addr} {l : List Tr} (h : RowN w N ad l) (hk : Keep (· < N) w w1) : RowN w1 N ad l := fun hp => by
  obtain ⟨b, o, e, hb, hq⟩ := h hp
  exact ⟨b, o, e, hb, fun wr hr => hq wr (hk.trans hr)⟩

theorem RowN.tail {w : World} {N b o : Nat} {x : Tr} {l : List Tr} (h : RowN w N (some ⟨b, o, none⟩) (x :: l)) : RowN w N (some ⟨b, o + 5, none⟩) l := fun hp => by
  obtain ⟨b', o', e, hb, hq⟩ := h (by simp)
  cases e
  refine ⟨b, o + 5, rfl, hb, fun wr hr j hj => ?_⟩
  have := hq wr hr (j + 1) (by simpa using hj)
  simp only [List.getElem_cons_succ] at this
  rw [show o + 5 + j * 5 = o + (j + 1) * 5 by omega]
  exact this

/-- The package's nodes in a row that grows. -/
structure RowA (E : TypeId) (val : Tr → Nat → Value) (w : World) (lo : Nat) (v : Value) (l : List Tr) (s : List Nat) : Prop where
  len : s.length = l.length
  own : w.ownsRow lo E 1 v l.length (List.zipWith val l s)
  kids : ∀ i (h : i < l.length) (h2 : i < s.length), AIn w (fun b => lo ≤ b ∧ b < w.heap.size ∧ v.ownBlock ≠ some b) l[i] s[i]

theorem RowA.nil (E : TypeId) (val : Tr → Nat → Value) (w : World) (lo : Nat) : RowA E val w lo (.slice none 0 0) [] [] := ⟨rfl, World.ownsRow_nil _ _ _ _, fun i h _ => absurd h (Nat.not_lt_zero _)⟩

theorem RowA.snoc {E : TypeId} {val : Tr → Nat → Value} {w w4 w5 : World} {lo : Nat} {v v' : Value} {l : List Tr} {s : List Nat} {tr : Tr} {r : Nat} (h : RowA E val w lo v l s) (hlo : lo ≤ w.heap.size) (hb4 : Below w.heap.size w w4) (hn4 : AIn w4 (fun b => w.heap.size ≤ b ∧ b < w4.heap.size) tr r)
    (hg : ∀ b, b < w4.heap.size → v.ownBlock ≠ some b → w5.heap[b]? = w4.heap[b]?) (hs : w4.heap.size ≤ w5.heap.size) (hv : v'.ownBlock = v.ownBlock ∨ ∃ g, v'.ownBlock = some g ∧ w4.heap.size ≤ g) (hown : w5.ownsRow lo E 1 v' (l.length + 1) (List.zipWith val l s ++ [val tr r])) : RowA E val w5 lo v' (l ++ [tr]) (s ++ [r]) := by
  have hs4 := hb4.size
  have hvlt : ∀ b, v.ownBlock = some b → b < w.heap.size := fun b e => (h.own.lt b e).2
  have hne : ∀ b, b < w4.heap.size → v.ownBlock ≠ some b → v'.ownBlock ≠ some b := fun b hb h => by
    rcases hv with e | ⟨g, e, hg⟩
    · rw [e]; exact h
    · rw [e]; intro e2; cases e2; omega
  have hnew : AIn w5 (fun b => lo ≤ b ∧ b < w5.heap.size ∧ v'.ownBlock ≠ some b) tr r := by
    refine AIn.mono (B := fun b => w.heap.size ≤ b ∧ b < w4.heap.size) (fun b hb => ?_) (AIn.keep (w := w4) (fun b hb => hg b hb.2 fun e => ?_) hn4)
    · exact ⟨by omega, by omega, hne b hb.2 fun e => by have := hvlt b e; omega⟩
    · have := hvlt b e
      omega
  have hlen := h.len
  refine ⟨by simp [hlen], ?_, fun i hi hi2 => ?_⟩
  · rw [List.length_append, List.zipWith_append hlen.symm]
    exact hown
  · by_cases hil : i < l.length
    · have e0 : (l ++ [tr])[i] = l[i] := List.getElem_append_left hil
      have e : (s ++ [r])[i] = s[i]'(by omega) := List.getElem_append_left (by omega)
      rw [e0, e]
      refine AIn.mono (B := fun b => lo ≤ b ∧ b < w.heap.size ∧ v.ownBlock ≠ some b) (fun b hb => ⟨hb.1, by omega, hne b (by omega) hb.2.2⟩) (AIn.keep (w := w) (fun b hb => ?_) (h.kids i hil (by omega)))
      exact (hg b (by omega) hb.2.2).trans (hb4.block b hb.2.1)
    · have hie : i = l.length := by simp at hi; omega
      subst hie
      have e1 : (l ++ [tr])[l.length] = tr := by simp
      have e2 : (s ++ [r])[l.length]'hi2 = r := by simp [← hlen]
      rw [e1, e2]
      exact hnew

/-- The package's nodes in a row, all above a bound. -/
structure ListQ (E : TypeId) (val : Tr → Nat → Value) (l : List Tr) (s : List Nat) (v : Value) (w : World) (lo : Nat) : Prop where
  len : s.length = l.length
  row : RowB w (fun b => lo ≤ b ∧ b < w.heap.size) E (List.zipWith val l s) v
  kids : ∀ i (h : i < l.length) (h2 : i < s.length), AIn w (fun b => lo ≤ b ∧ b < w.heap.size) l[i] s[i]

theorem RowB.up {w1 w2 : World} {lo lo1 : Nat} {T : TypeId} {xs : List Value} {v : Value} (h : RowB w1 (fun b => lo1 ≤ b ∧ b < w1.heap.size) T xs v) (hb : Below w1.heap.size w1 w2) (hl : lo ≤ lo1) : RowB w2 (fun b => lo ≤ b ∧ b < w2.heap.size) T xs v :=
  RowB.mono (B := fun b => lo1 ≤ b ∧ b < w1.heap.size) (fun b h => ⟨by omega, Nat.lt_of_lt_of_le h.2 hb.size⟩) (RowB.keep (w := w1) (fun b h => hb.block b h.2) h)
theorem ListQ.up {w1 w2 : World} {lo lo1 : Nat} {E : TypeId} {val : Tr → Nat → Value} {l : List Tr} {s : List Nat} {v : Value} (h : ListQ E val l s v w1 lo1) (hb : Below w1.heap.size w1 w2) (hl : lo ≤ lo1) : ListQ E val l s v w2 lo := ⟨h.len, h.row.up hb hl, fun i h1 h2 => (h.kids i h1 h2).up hb hl⟩

theorem heap_set_other {w : World} {g i b : Nat} (x : Value) (h : b ≠ g) : (w.setCell ⟨g, i, none⟩ x).heap[b]? = w.heap[b]? := Below.heap_setCell _ _ _ _ (by show b ≠ g; exact h)
theorem heap_set_size (w : World) (g i : Nat) (x : Value) : (w.setCell ⟨g, i, none⟩ x).heap.size = w.heap.size := by simp [World.setCell]

/-- A cell is set elsewhere. -/
theorem AIn.setUp {w1 w3 : World} {lo lo1 g i : Nat} {x : Value} {t : Tr} {r : Nat} (h : AIn w1 (fun b => lo1 ≤ b ∧ b < w1.heap.size) t r) (hb : Below w1.heap.size w1 w3) (hl : lo ≤ lo1) (hg : g < lo1 ∨ w1.heap.size ≤ g) :
    AIn (w3.setCell ⟨g, i, none⟩ x) (fun b => lo ≤ b ∧ b < (w3.setCell ⟨g, i, none⟩ x).heap.size) t r :=
  AIn.mono (B := fun b => lo1 ≤ b ∧ b < w1.heap.size) (fun b hq => ⟨by omega, by rw [heap_set_size]; exact Nat.lt_of_lt_of_le hq.2 hb.size⟩) (AIn.keep (w := w1) (fun b hq => (heap_set_other x (by omega)).trans (hb.block b hq.2)) h)
theorem RowB.setUp {w1 w3 : World} {lo lo1 g i : Nat} {x : Value} {T : TypeId} {xs : List Value} {v : Value} (h : RowB w1 (fun b => lo1 ≤ b ∧ b < w1.heap.size) T xs v) (hb : Below w1.heap.size w1 w3) (hl : lo ≤ lo1) (hg : g < lo1 ∨ w1.heap.size ≤ g) :
    RowB (w3.setCell ⟨g, i, none⟩ x) (fun b => lo ≤ b ∧ b < (w3.setCell ⟨g, i, none⟩ x).heap.size) T xs v :=
  RowB.mono (B := fun b => lo1 ≤ b ∧ b < w1.heap.size) (fun b hq => ⟨by omega, by rw [heap_set_size]; exact Nat.lt_of_lt_of_le hq.2 hb.size⟩) (RowB.keep (w := w1) (fun b hq => (heap_set_other x (by omega)).trans (hb.block b hq.2)) h)
theorem ListQ.setUp {w1 w3 : World} {lo lo1 g i : Nat} {x : Value} {E : TypeId} {val : Tr → Nat → Value} {l : List Tr} {s : List Nat} {v : Value} (h : ListQ E val l s v w1 lo1) (hb : Below w1.heap.size w1 w3) (hl : lo ≤ lo1) (hg : g < lo1 ∨ w1.heap.size ≤ g) :
    ListQ E val l s v (w3.setCell ⟨g, i, none⟩ x) lo := ⟨h.len, h.row.setUp hb hl hg, fun i h1 h2 => (h.kids i h1 h2).setUp hb hl hg⟩

/-- The package's nodes are returned in a row. -/
def ListP (E : TypeId) (val : Tr → Nat → Value) (l : List Tr) (w : World) (e : Ending) (w' : World) : Prop := ∃ s a c, e = .returned (.slice a l.length c) ∧ ListQ E val l s (.slice a l.length c) w' w.heap.size ∧ Below w.heap.size w w'

theorem RowA.done {E : TypeId} {val : Tr → Nat → Value} {w w' : World} {l : List Tr} {s : List Nat} {a : Option Addr} {c : Nat} (h : RowA E val w' w.heap.size (.slice a l.length c) l s) (hb : Below w.heap.size w w') : ListP E val l w (.returned (.slice a l.length c)) w' := by
  refine ⟨s, a, c, rfl, ⟨h.len, ⟨w.heap.size, ?_, fun r e => h.own.lt r e⟩, fun i h1 h2 => (h.kids i h1 h2).mono fun b hb => ⟨hb.1, hb.2.1⟩⟩, hb⟩
  have e : (List.zipWith val l s).length = l.length := by rw [List.length_zipWith, h.len, Nat.min_self]
  rw [e]
  exact h.own


set_option maxHeartbeats 4000000 in
set_option maxRecDepth 100000 in
theorem nodesOf_File {N : Nat} {l : List Tr} (hl : ∀ x ∈ l, UnH N x) (hk : ∀ x ∈ l, x.kind = 3) (hlen : l.length ≤ 1000) (ad : Option Addr) (c : Nat) (w : World) (hN : N ≤ w.heap.size) (hrow : RowN w N ad l) :
    Calls Tryz.prog 29 #[.slice ad l.length c] w (ListP 35 valP l w) := by
  obtain ⟨i0, hi, hz0, hz1, hz2⟩ := info_parts (show (Tryz.prog.info? 35).map (fun i => (i.zero, i.size, i.bytes)) = some (some (.pointer none), 1, 8) by kernel_rfl)
  have HROW := Lib.hid hrow
  have HN := Lib.hid hN
  have HC : Hid (∀ x ∈ l, ∀ v W, NodeIn W (· < N) x v → N ≤ W.heap.size → Calls Tryz.prog 14 #[v] W (PtrP x W)) := Lib.hid fun x hx v W h1 h2 => nodeOf_File (hl x hx) (hk x hx) v W h1 h2
  have HP : Hid (∀ s a c w', RowA 35 valP w' w.heap.size (.slice a l.length c) (l.take l.length) s → Below w.heap.size w w' → ListP 35 valP l w (.returned (.slice a l.length c)) w') := Lib.hid fun s a c w' h1 h2 => by
    rw [List.take_length] at h1
    exact h1.done h2
  clear hrow hN hl hk
  go_enter Tryz.func29, Tryz.ntmps29
  go_wp2
  go_loopw [3, 8] (fun vv i wr => ∃ j : Nat, j ≤ l.length ∧ i = .int .i64 j ∧ ∃ s, Hid (RowA 35 valP wr w.heap.size vv (l.take j) s) ∧ Hid (Below w.heap.size w wr)) (fun _ i _ => l.length - (intOf i).toNat)
  case atStart => exact ⟨0, Nat.zero_le _, rfl, [], Lib.hid (RowA.nil _ _ _ _), Lib.hid (Below.refl _ _)⟩
  case round =>
    obtain ⟨j, hj, rfl, s, HRA, HB⟩ := hrel
    have hlj : (l.take j).length = j := by rw [List.length_take]; omega
    have r3 := HRA.out.own
    rw [hlj] at r3
    obtain ⟨a2, c2, rfl⟩ := slice_form r3
    by_cases hlt : j < l.length
    · obtain ⟨b, o, rfl, hbN, hkid⟩ := HROW.out (by omega)
      obtain ⟨x1, y1, hin, d0, d1, d2, d3, d4⟩ := hkid wr (Keep.of_below HB.out HN.out) j hlt
      have HIN := Lib.hid hin
      have HCK := Lib.hid (HC.out l[j] (List.getElem_mem hlt))
      have HTK : Hid (l.take (j + 1) = l.take j ++ [l[j]]) := Lib.hid (List.take_succ_eq_append_getElem hlt)
      clear hkid hin HC HROW
      generalize l[j] = tr at *
      have hi1 : (j : Int) < l.length := by omega
      have hi0 : (0 : Int) ≤ j := by omega
      have HR3 := Lib.hid r3
      have HLJ := Lib.hid hlj
      clear r3 hlj
      have hNr : N ≤ wr.heap.size := Nat.le_trans HN.out HB.out.size
      have hbq := (Below.refl wr.heap.size wr).alloc (Nat.le_refl _) (.cells #[.int .i64 tr.kind, .string tr.text, .string tr.more, .int .u64 tr.num, .slice x1 tr.kids.length y1] 25)
      have hih := HCK.out _ _ (HIN.out.keep (Keep.of_below hbq hNr)) (Nat.le_trans hNr hbq.size)
      unfold nodeU at hih
      have HIH := Lib.hid hih
      have HBQ := Lib.hid hbq
      clear hih hbq HCK HIN
      go_wp2_with fail
      ((with_reducible refine HIH.out.mono ?_))
      rintro e w4 ⟨r, he, hr, hb4⟩
      have he2 : e = .returned (.pointer (some ⟨r, 0, none⟩)) := he
      subst he2
      clear he
      have HB4 := Lib.hid (HBQ.out.trans (hb4.mono HBQ.out.size))
      have HN4 := Lib.hid (hr.up (lo := wr.heap.size) (Below.refl _ _) HBQ.out.size)
      have HO4 := Lib.hid (World.ownsRow.kept HR3.out (grownBy_below HB4.out) (hown_or HR3.out))
      have hsz : w.heap.size ≤ w4.heap.size := Nat.le_trans HB.out.size HB4.out.size
      have hmx : j + 1 ≤ maxLen := by unfold maxLen; omega
      have hbl : (j + 1) * 8 ≤ 140737488355328 := by omega
      clear hb4 hr HIH d0 d1 d2 d3 d4
      go_wp2_with (at_builtin; refine wpList_append_own2 rfl _ _ 85 rfl w.heap.size 35 i0 _ 1 8 Tryz.underlying85 hi hz0 hz1 hz2 rfl (by decide) _ _ _ rfl (World.ownsRow.kept HO4.out (grownBy_below ((Below.refl _ w4).alloc (Nat.le_refl _) _)) (hown_or HO4.out)) _ 1 1 [.pointer (some ⟨r, 0, none⟩)] rfl rfl ?c1 ?c2 hmx hbl ?c3 ?_)
      case c1 => exact World.news_of_block (cs := #[.pointer (some ⟨r, 0, none⟩)]) (t := 35) (fr := (0, 0)) (heap_alloc_new w4 _)
      case c2 => intro u hu; rw [List.mem_singleton] at hu; subst hu; rfl
      case c3 => exact Nat.le_trans hsz (by rw [alloc_size]; omega)
      intro v' w5 hown' hgrow hgb
      obtain ⟨a', c', rfl⟩ := slice_form hown'
      have hal := (Below.refl w4.heap.size w4).alloc (Nat.le_refl _) (.cells #[.pointer (some ⟨r, 0, none⟩)] 35)
      have hs4 := alloc_size w4 (.cells #[.pointer (some ⟨r, 0, none⟩)] 35)
      have hb5 : Below w.heap.size w w5 := ((HB.out.trans (HB4.out.mono HB.out.size)).alloc hsz _).grown hgrow (by rw [hs4]; omega) (fun k e => (HO4.out.lt k e).1)
      have hrn := HRA.out.snoc (w4 := w4) (w5 := w5) (v' := .slice a' (j + 1) c') (tr := tr) (r := r) HB.out.size HB4.out HN4.out (fun b hb hne => (hgrow.block b (by omega) (fun e => hne e.symm)).trans (hal.block b hb)) (by have := hgrow.size; omega) (hgb.imp id fun ⟨g', e1, e2⟩ => ⟨g', e1, by omega⟩) (by rw [HLJ.out]; exact hown')
      rw [← HTK.out] at hrn
      have HRN := Lib.hid hrn
      have HB5 := Lib.hid hb5
      clear hown' hgrow hgb hb5 hrn hal hs4
      go_wp2
      go_roundw
      case rel => exact ⟨j + 1, by omega, by go_num, _, HRN, HB5⟩
      case measure => simp [intOf]; omega
    · have hje : j = l.length := by omega
      subst hje
      clear r3
      go_wp2
      go_ret
      exact HP.out _ _ _ _ HRA.out HB.out


set_option maxHeartbeats 4000000 in
set_option maxRecDepth 100000 in
theorem nodesOf_ImportDeclaration {N : Nat} {l : List Tr} (hl : ∀ x ∈ l, UnH N x) (hk : ∀ x ∈ l, x.kind = 5) (hlen : l.length ≤ 1000) (ad : Option Addr) (c : Nat) (w : World) (hN : N ≤ w.heap.size) (hrow : RowN w N ad l) :
    Calls Tryz.prog 31 #[.slice ad l.length c] w (ListP 91 valP l w) := by
  obtain ⟨i0, hi, hz0, hz1, hz2⟩ := info_parts (show (Tryz.prog.info? 91).map (fun i => (i.zero, i.size, i.bytes)) = some (some (.pointer none), 1, 8) by kernel_rfl)
  have HROW := Lib.hid hrow
  have HN := Lib.hid hN
  have HC : Hid (∀ x ∈ l, ∀ v W, NodeIn W (· < N) x v → N ≤ W.heap.size → Calls Tryz.prog 65 #[v] W (PtrP x W)) := Lib.hid fun x hx v W h1 h2 => nodeOf_ImportDeclaration (hl x hx) (hk x hx) v W h1 h2
  have HP : Hid (∀ s a c w', RowA 91 valP w' w.heap.size (.slice a l.length c) (l.take l.length) s → Below w.heap.size w w' → ListP 91 valP l w (.returned (.slice a l.length c)) w') := Lib.hid fun s a c w' h1 h2 => by
    rw [List.take_length] at h1
    exact h1.done h2
  clear hrow hN hl hk
  go_enter Tryz.func31, Tryz.ntmps31
  go_wp2
  go_loopw [3, 8] (fun vv i wr => ∃ j : Nat, j ≤ l.length ∧ i = .int .i64 j ∧ ∃ s, Hid (RowA 91 valP wr w.heap.size vv (l.take j) s) ∧ Hid (Below w.heap.size w wr)) (fun _ i _ => l.length - (intOf i).toNat)
  case atStart => exact ⟨0, Nat.zero_le _, rfl, [], Lib.hid (RowA.nil _ _ _ _), Lib.hid (Below.refl _ _)⟩
  case round =>
    obtain ⟨j, hj, rfl, s, HRA, HB⟩ := hrel
    have hlj : (l.take j).length = j := by rw [List.length_take]; omega
    have r3 := HRA.out.own
    rw [hlj] at r3
    obtain ⟨a2, c2, rfl⟩ := slice_form r3
    by_cases hlt : j < l.length
    · obtain ⟨b, o, rfl, hbN, hkid⟩ := HROW.out (by omega)
      obtain ⟨x1, y1, hin, d0, d1, d2, d3, d4⟩ := hkid wr (Keep.of_below HB.out HN.out) j hlt
      have HIN := Lib.hid hin
      have HCK := Lib.hid (HC.out l[j] (List.getElem_mem hlt))
      have HTK : Hid (l.take (j + 1) = l.take j ++ [l[j]]) := Lib.hid (List.take_succ_eq_append_getElem hlt)
      clear hkid hin HC HROW
      generalize l[j] = tr at *
      have hi1 : (j : Int) < l.length := by omega
      have hi0 : (0 : Int) ≤ j := by omega
      have HR3 := Lib.hid r3
      have HLJ := Lib.hid hlj
      clear r3 hlj
      have hNr : N ≤ wr.heap.size := Nat.le_trans HN.out HB.out.size
      have hbq := (Below.refl wr.heap.size wr).alloc (Nat.le_refl _) (.cells #[.int .i64 tr.kind, .string tr.text, .string tr.more, .int .u64 tr.num, .slice x1 tr.kids.length y1] 25)
      have hih := HCK.out _ _ (HIN.out.keep (Keep.of_below hbq hNr)) (Nat.le_trans hNr hbq.size)
      unfold nodeU at hih
      have HIH := Lib.hid hih
      have HBQ := Lib.hid hbq
      clear hih hbq HCK HIN
      go_wp2_with fail
      ((with_reducible refine HIH.out.mono ?_))
      rintro e w4 ⟨r, he, hr, hb4⟩
      have he2 : e = .returned (.pointer (some ⟨r, 0, none⟩)) := he
      subst he2
      clear he
      have HB4 := Lib.hid (HBQ.out.trans (hb4.mono HBQ.out.size))
      have HN4 := Lib.hid (hr.up (lo := wr.heap.size) (Below.refl _ _) HBQ.out.size)
      have HO4 := Lib.hid (World.ownsRow.kept HR3.out (grownBy_below HB4.out) (hown_or HR3.out))
      have hsz : w.heap.size ≤ w4.heap.size := Nat.le_trans HB.out.size HB4.out.size
      have hmx : j + 1 ≤ maxLen := by unfold maxLen; omega
      have hbl : (j + 1) * 8 ≤ 140737488355328 := by omega
      clear hb4 hr HIH d0 d1 d2 d3 d4
      go_wp2_with (at_builtin; refine wpList_append_own2 rfl _ _ 50 rfl w.heap.size 91 i0 _ 1 8 Tryz.underlying50 hi hz0 hz1 hz2 rfl (by decide) _ _ _ rfl (World.ownsRow.kept HO4.out (grownBy_below ((Below.refl _ w4).alloc (Nat.le_refl _) _)) (hown_or HO4.out)) _ 1 1 [.pointer (some ⟨r, 0, none⟩)] rfl rfl ?c1 ?c2 hmx hbl ?c3 ?_)
      case c1 => exact World.news_of_block (cs := #[.pointer (some ⟨r, 0, none⟩)]) (t := 91) (fr := (0, 0)) (heap_alloc_new w4 _)
      case c2 => intro u hu; rw [List.mem_singleton] at hu; subst hu; rfl
      case c3 => exact Nat.le_trans hsz (by rw [alloc_size]; omega)
      intro v' w5 hown' hgrow hgb
      obtain ⟨a', c', rfl⟩ := slice_form hown'
      have hal := (Below.refl w4.heap.size w4).alloc (Nat.le_refl _) (.cells #[.pointer (some ⟨r, 0, none⟩)] 91)
      have hs4 := alloc_size w4 (.cells #[.pointer (some ⟨r, 0, none⟩)] 91)
      have hb5 : Below w.heap.size w w5 := ((HB.out.trans (HB4.out.mono HB.out.size)).alloc hsz _).grown hgrow (by rw [hs4]; omega) (fun k e => (HO4.out.lt k e).1)
      have hrn := HRA.out.snoc (w4 := w4) (w5 := w5) (v' := .slice a' (j + 1) c') (tr := tr) (r := r) HB.out.size HB4.out HN4.out (fun b hb hne => (hgrow.block b (by omega) (fun e => hne e.symm)).trans (hal.block b hb)) (by have := hgrow.size; omega) (hgb.imp id fun ⟨g', e1, e2⟩ => ⟨g', e1, by omega⟩) (by rw [HLJ.out]; exact hown')
      rw [← HTK.out] at hrn
      have HRN := Lib.hid hrn
      have HB5 := Lib.hid hb5
      clear hown' hgrow hgb hb5 hrn hal hs4
      go_wp2
      go_roundw
      case rel => exact ⟨j + 1, by omega, by go_num, _, HRN, HB5⟩
      case measure => simp [intOf]; omega
    · have hje : j = l.length := by omega
      subst hje
      clear r3
      go_wp2
      go_ret
      exact HP.out _ _ _ _ HRA.out HB.out


set_option maxHeartbeats 4000000 in
set_option maxRecDepth 100000 in
theorem nodesOf_Statement {N : Nat} {l : List Tr} (hl : ∀ x ∈ l, UnH N x) (hk : ∀ x ∈ l, (stmtB x.kind ∧ x.kind ≠ 13)) (hlen : l.length ≤ 1000) (ad : Option Addr) (c : Nat) (w : World) (hN : N ≤ w.heap.size) (hrow : RowN w N ad l) :
    Calls Tryz.prog 32 #[.slice ad l.length c] w (ListP 55 valI l w) := by
  obtain ⟨i0, hi, hz0, hz1, hz2⟩ := info_parts (show (Tryz.prog.info? 55).map (fun i => (i.zero, i.size, i.bytes)) = some (some (.nilIface), 1, 16) by kernel_rfl)
  have HROW := Lib.hid hrow
  have HN := Lib.hid hN
  have HC : Hid (∀ x ∈ l, ∀ v W, NodeIn W (· < N) x v → N ≤ W.heap.size → Calls Tryz.prog 66 #[v] W (UnP x W)) := Lib.hid fun x hx v W h1 h2 => nodeOf_Statement (hl x hx) (hk x hx) v W h1 h2
  have HP : Hid (∀ s a c w', RowA 55 valI w' w.heap.size (.slice a l.length c) (l.take l.length) s → Below w.heap.size w w' → ListP 55 valI l w (.returned (.slice a l.length c)) w') := Lib.hid fun s a c w' h1 h2 => by
    rw [List.take_length] at h1
    exact h1.done h2
  clear hrow hN hl hk
  go_enter Tryz.func32, Tryz.ntmps32
  go_wp2
  go_loopw [3, 8] (fun vv i wr => ∃ j : Nat, j ≤ l.length ∧ i = .int .i64 j ∧ ∃ s, Hid (RowA 55 valI wr w.heap.size vv (l.take j) s) ∧ Hid (Below w.heap.size w wr)) (fun _ i _ => l.length - (intOf i).toNat)
  case atStart => exact ⟨0, Nat.zero_le _, rfl, [], Lib.hid (RowA.nil _ _ _ _), Lib.hid (Below.refl _ _)⟩
  case round =>
    obtain ⟨j, hj, rfl, s, HRA, HB⟩ := hrel
    have hlj : (l.take j).length = j := by rw [List.length_take]; omega
    have r3 := HRA.out.own
    rw [hlj] at r3
    obtain ⟨a2, c2, rfl⟩ := slice_form r3
    by_cases hlt : j < l.length
    · obtain ⟨b, o, rfl, hbN, hkid⟩ := HROW.out (by omega)
      obtain ⟨x1, y1, hin, d0, d1, d2, d3, d4⟩ := hkid wr (Keep.of_below HB.out HN.out) j hlt
      have HIN := Lib.hid hin
      have HCK := Lib.hid (HC.out l[j] (List.getElem_mem hlt))
      have HTK : Hid (l.take (j + 1) = l.take j ++ [l[j]]) := Lib.hid (List.take_succ_eq_append_getElem hlt)
      clear hkid hin HC HROW
      generalize l[j] = tr at *
      have hi1 : (j : Int) < l.length := by omega
      have hi0 : (0 : Int) ≤ j := by omega
      have HR3 := Lib.hid r3
      have HLJ := Lib.hid hlj
      clear r3 hlj
      have hNr : N ≤ wr.heap.size := Nat.le_trans HN.out HB.out.size
      have hbq := (Below.refl wr.heap.size wr).alloc (Nat.le_refl _) (.cells #[.int .i64 tr.kind, .string tr.text, .string tr.more, .int .u64 tr.num, .slice x1 tr.kids.length y1] 25)
      have hih := HCK.out _ _ (HIN.out.keep (Keep.of_below hbq hNr)) (Nat.le_trans hNr hbq.size)
      unfold nodeU at hih
      have HIH := Lib.hid hih
      have HBQ := Lib.hid hbq
      clear hih hbq HCK HIN
      go_wp2_with fail
      ((with_reducible refine HIH.out.mono ?_))
      rintro e w4 ⟨r, he, hr, hb4⟩
      have he2 : e = .returned (.iface (astP tr.kind) (.pointer (some ⟨r, 0, none⟩))) := he
      subst he2
      clear he
      have HB4 := Lib.hid (HBQ.out.trans (hb4.mono HBQ.out.size))
      have HN4 := Lib.hid (hr.up (lo := wr.heap.size) (Below.refl _ _) HBQ.out.size)
      have HO4 := Lib.hid (World.ownsRow.kept HR3.out (grownBy_below HB4.out) (hown_or HR3.out))
      have hsz : w.heap.size ≤ w4.heap.size := Nat.le_trans HB.out.size HB4.out.size
      have hmx : j + 1 ≤ maxLen := by unfold maxLen; omega
      have hbl : (j + 1) * 16 ≤ 140737488355328 := by omega
      clear hb4 hr HIH d0 d1 d2 d3 d4
      go_wp2_with (at_builtin; refine wpList_append_own2 rfl _ _ 51 rfl w.heap.size 55 i0 _ 1 16 Tryz.underlying51 hi hz0 hz1 hz2 rfl (by decide) _ _ _ rfl (World.ownsRow.kept HO4.out (grownBy_below ((Below.refl _ w4).alloc (Nat.le_refl _) _)) (hown_or HO4.out)) _ 1 1 [.iface (astP tr.kind) (.pointer (some ⟨r, 0, none⟩))] rfl rfl ?c1 ?c2 hmx hbl ?c3 ?_)
      case c1 => exact World.news_of_block (cs := #[.iface (astP tr.kind) (.pointer (some ⟨r, 0, none⟩))]) (t := 55) (fr := (0, 0)) (heap_alloc_new w4 _)
      case c2 => intro u hu; rw [List.mem_singleton] at hu; subst hu; rfl
      case c3 => exact Nat.le_trans hsz (by rw [alloc_size]; omega)
      intro v' w5 hown' hgrow hgb
      obtain ⟨a', c', rfl⟩ := slice_form hown'
      have hal := (Below.refl w4.heap.size w4).alloc (Nat.le_refl _) (.cells #[.iface (astP tr.kind) (.pointer (some ⟨r, 0, none⟩))] 55)
      have hs4 := alloc_size w4 (.cells #[.iface (astP tr.kind) (.pointer (some ⟨r, 0, none⟩))] 55)
      have hb5 : Below w.heap.size w w5 := ((HB.out.trans (HB4.out.mono HB.out.size)).alloc hsz _).grown hgrow (by rw [hs4]; omega) (fun k e => (HO4.out.lt k e).1)
      have hrn := HRA.out.snoc (w4 := w4) (w5 := w5) (v' := .slice a' (j + 1) c') (tr := tr) (r := r) HB.out.size HB4.out HN4.out (fun b hb hne => (hgrow.block b (by omega) (fun e => hne e.symm)).trans (hal.block b hb)) (by have := hgrow.size; omega) (hgb.imp id fun ⟨g', e1, e2⟩ => ⟨g', e1, by omega⟩) (by rw [HLJ.out]; exact hown')
      rw [← HTK.out] at hrn
      have HRN := Lib.hid hrn
      have HB5 := Lib.hid hb5
      clear hown' hgrow hgb hb5 hrn hal hs4
      go_wp2
      go_roundw
      case rel => exact ⟨j + 1, by omega, by go_num, _, HRN, HB5⟩
      case measure => simp [intOf]; omega
    · have hje : j = l.length := by omega
      subst hje
      clear r3
      go_wp2
      go_ret
      exact HP.out _ _ _ _ HRA.out HB.out


set_option maxHeartbeats 4000000 in
set_option maxRecDepth 100000 in
theorem nodesOf_Expression {N : Nat} {l : List Tr} (hl : ∀ x ∈ l, UnH N x) (hk : ∀ x ∈ l, exprB x.kind) (hlen : l.length ≤ 1000) (ad : Option Addr) (c : Nat) (w : World) (hN : N ≤ w.heap.size) (hrow : RowN w N ad l) :
    Calls Tryz.prog 46 #[.slice ad l.length c] w (ListP 68 valI l w) := by
  obtain ⟨i0, hi, hz0, hz1, hz2⟩ := info_parts (show (Tryz.prog.info? 68).map (fun i => (i.zero, i.size, i.bytes)) = some (some (.nilIface), 1, 16) by kernel_rfl)
  have HROW := Lib.hid hrow
  have HN := Lib.hid hN
  have HC : Hid (∀ x ∈ l, ∀ v W, NodeIn W (· < N) x v → N ≤ W.heap.size → Calls Tryz.prog 44 #[v] W (UnP x W)) := Lib.hid fun x hx v W h1 h2 => nodeOf_Expression (hl x hx) (hk x hx) v W h1 h2
  have HP : Hid (∀ s a c w', RowA 68 valI w' w.heap.size (.slice a l.length c) (l.take l.length) s → Below w.heap.size w w' → ListP 68 valI l w (.returned (.slice a l.length c)) w') := Lib.hid fun s a c w' h1 h2 => by
    rw [List.take_length] at h1
    exact h1.done h2
  clear hrow hN hl hk
  go_enter Tryz.func46, Tryz.ntmps46
  go_wp2
  go_loopw [3, 8] (fun vv i wr => ∃ j : Nat, j ≤ l.length ∧ i = .int .i64 j ∧ ∃ s, Hid (RowA 68 valI wr w.heap.size vv (l.take j) s) ∧ Hid (Below w.heap.size w wr)) (fun _ i _ => l.length - (intOf i).toNat)
  case atStart => exact ⟨0, Nat.zero_le _, rfl, [], Lib.hid (RowA.nil _ _ _ _), Lib.hid (Below.refl _ _)⟩
  case round =>
    obtain ⟨j, hj, rfl, s, HRA, HB⟩ := hrel
    have hlj : (l.take j).length = j := by rw [List.length_take]; omega
    have r3 := HRA.out.own
    rw [hlj] at r3
    obtain ⟨a2, c2, rfl⟩ := slice_form r3
    by_cases hlt : j < l.length
    · obtain ⟨b, o, rfl, hbN, hkid⟩ := HROW.out (by omega)
      obtain ⟨x1, y1, hin, d0, d1, d2, d3, d4⟩ := hkid wr (Keep.of_below HB.out HN.out) j hlt
      have HIN := Lib.hid hin
      have HCK := Lib.hid (HC.out l[j] (List.getElem_mem hlt))
      have HTK : Hid (l.take (j + 1) = l.take j ++ [l[j]]) := Lib.hid (List.take_succ_eq_append_getElem hlt)
      clear hkid hin HC HROW
      generalize l[j] = tr at *
      have hi1 : (j : Int) < l.length := by omega
      have hi0 : (0 : Int) ≤ j := by omega
      have HR3 := Lib.hid r3
      have HLJ := Lib.hid hlj
      clear r3 hlj
      have hNr : N ≤ wr.heap.size := Nat.le_trans HN.out HB.out.size
      have hbq := (Below.refl wr.heap.size wr).alloc (Nat.le_refl _) (.cells #[.int .i64 tr.kind, .string tr.text, .string tr.more, .int .u64 tr.num, .slice x1 tr.kids.length y1] 25)
      have hih := HCK.out _ _ (HIN.out.keep (Keep.of_below hbq hNr)) (Nat.le_trans hNr hbq.size)
      unfold nodeU at hih
      have HIH := Lib.hid hih
      have HBQ := Lib.hid hbq
      clear hih hbq HCK HIN
      go_wp2_with fail
      ((with_reducible refine HIH.out.mono ?_))
      rintro e w4 ⟨r, he, hr, hb4⟩
      have he2 : e = .returned (.iface (astP tr.kind) (.pointer (some ⟨r, 0, none⟩))) := he
      subst he2
      clear he
      have HB4 := Lib.hid (HBQ.out.trans (hb4.mono HBQ.out.size))
      have HN4 := Lib.hid (hr.up (lo := wr.heap.size) (Below.refl _ _) HBQ.out.size)
      have HO4 := Lib.hid (World.ownsRow.kept HR3.out (grownBy_below HB4.out) (hown_or HR3.out))
      have hsz : w.heap.size ≤ w4.heap.size := Nat.le_trans HB.out.size HB4.out.size
      have hmx : j + 1 ≤ maxLen := by unfold maxLen; omega
      have hbl : (j + 1) * 16 ≤ 140737488355328 := by omega
      clear hb4 hr HIH d0 d1 d2 d3 d4
      go_wp2_with (at_builtin; refine wpList_append_own2 rfl _ _ 140 rfl w.heap.size 68 i0 _ 1 16 Tryz.underlying140 hi hz0 hz1 hz2 rfl (by decide) _ _ _ rfl (World.ownsRow.kept HO4.out (grownBy_below ((Below.refl _ w4).alloc (Nat.le_refl _) _)) (hown_or HO4.out)) _ 1 1 [.iface (astP tr.kind) (.pointer (some ⟨r, 0, none⟩))] rfl rfl ?c1 ?c2 hmx hbl ?c3 ?_)
      case c1 => exact World.news_of_block (cs := #[.iface (astP tr.kind) (.pointer (some ⟨r, 0, none⟩))]) (t := 68) (fr := (0, 0)) (heap_alloc_new w4 _)
      case c2 => intro u hu; rw [List.mem_singleton] at hu; subst hu; rfl
      case c3 => exact Nat.le_trans hsz (by rw [alloc_size]; omega)
      intro v' w5 hown' hgrow hgb
      obtain ⟨a', c', rfl⟩ := slice_form hown'
      have hal := (Below.refl w4.heap.size w4).alloc (Nat.le_refl _) (.cells #[.iface (astP tr.kind) (.pointer (some ⟨r, 0, none⟩))] 68)
      have hs4 := alloc_size w4 (.cells #[.iface (astP tr.kind) (.pointer (some ⟨r, 0, none⟩))] 68)
      have hb5 : Below w.heap.size w w5 := ((HB.out.trans (HB4.out.mono HB.out.size)).alloc hsz _).grown hgrow (by rw [hs4]; omega) (fun k e => (HO4.out.lt k e).1)
      have hrn := HRA.out.snoc (w4 := w4) (w5 := w5) (v' := .slice a' (j + 1) c') (tr := tr) (r := r) HB.out.size HB4.out HN4.out (fun b hb hne => (hgrow.block b (by omega) (fun e => hne e.symm)).trans (hal.block b hb)) (by have := hgrow.size; omega) (hgb.imp id fun ⟨g', e1, e2⟩ => ⟨g', e1, by omega⟩) (by rw [HLJ.out]; exact hown')
      rw [← HTK.out] at hrn
      have HRN := Lib.hid hrn
      have HB5 := Lib.hid hb5
      clear hown' hgrow hgb hb5 hrn hal hs4
      go_wp2
      go_roundw
      case rel => exact ⟨j + 1, by omega, by go_num, _, HRN, HB5⟩
      case measure => simp [intOf]; omega
    · have hje : j = l.length := by omega
      subst hje
      clear r3
      go_wp2
      go_ret
      exact HP.out _ _ _ _ HRA.out HB.out


set_option maxHeartbeats 4000000 in
set_option maxRecDepth 100000 in
theorem nodesOf_Property {N : Nat} {l : List Tr} (hl : ∀ x ∈ l, UnH N x) (hk : ∀ x ∈ l, x.kind = 29) (hlen : l.length ≤ 1000) (ad : Option Addr) (c : Nat) (w : World) (hN : N ≤ w.heap.size) (hrow : RowN w N ad l) :
    Calls Tryz.prog 49 #[.slice ad l.length c] w (ListP 159 valP l w) := by
  obtain ⟨i0, hi, hz0, hz1, hz2⟩ := info_parts (show (Tryz.prog.info? 159).map (fun i => (i.zero, i.size, i.bytes)) = some (some (.pointer none), 1, 8) by kernel_rfl)
  have HROW := Lib.hid hrow
  have HN := Lib.hid hN
  have HC : Hid (∀ x ∈ l, ∀ v W, NodeIn W (· < N) x v → N ≤ W.heap.size → Calls Tryz.prog 67 #[v] W (PtrP x W)) := Lib.hid fun x hx v W h1 h2 => nodeOf_Property (hl x hx) (hk x hx) v W h1 h2
  have HP : Hid (∀ s a c w', RowA 159 valP w' w.heap.size (.slice a l.length c) (l.take l.length) s → Below w.heap.size w w' → ListP 159 valP l w (.returned (.slice a l.length c)) w') := Lib.hid fun s a c w' h1 h2 => by
    rw [List.take_length] at h1
    exact h1.done h2
  clear hrow hN hl hk
  go_enter Tryz.func49, Tryz.ntmps49
  go_wp2
  go_loopw [3, 8] (fun vv i wr => ∃ j : Nat, j ≤ l.length ∧ i = .int .i64 j ∧ ∃ s, Hid (RowA 159 valP wr w.heap.size vv (l.take j) s) ∧ Hid (Below w.heap.size w wr)) (fun _ i _ => l.length - (intOf i).toNat)
  case atStart => exact ⟨0, Nat.zero_le _, rfl, [], Lib.hid (RowA.nil _ _ _ _), Lib.hid (Below.refl _ _)⟩
  case round =>
    obtain ⟨j, hj, rfl, s, HRA, HB⟩ := hrel
    have hlj : (l.take j).length = j := by rw [List.length_take]; omega
    have r3 := HRA.out.own
    rw [hlj] at r3
    obtain ⟨a2, c2, rfl⟩ := slice_form r3
    by_cases hlt : j < l.length
    · obtain ⟨b, o, rfl, hbN, hkid⟩ := HROW.out (by omega)
      obtain ⟨x1, y1, hin, d0, d1, d2, d3, d4⟩ := hkid wr (Keep.of_below HB.out HN.out) j hlt
      have HIN := Lib.hid hin
      have HCK := Lib.hid (HC.out l[j] (List.getElem_mem hlt))
      have HTK : Hid (l.take (j + 1) = l.take j ++ [l[j]]) := Lib.hid (List.take_succ_eq_append_getElem hlt)
      clear hkid hin HC HROW
      generalize l[j] = tr at *
      have hi1 : (j : Int) < l.length := by omega
      have hi0 : (0 : Int) ≤ j := by omega
      have HR3 := Lib.hid r3
      have HLJ := Lib.hid hlj
      clear r3 hlj
      have hNr : N ≤ wr.heap.size := Nat.le_trans HN.out HB.out.size
      have hbq := (Below.refl wr.heap.size wr).alloc (Nat.le_refl _) (.cells #[.int .i64 tr.kind, .string tr.text, .string tr.more, .int .u64 tr.num, .slice x1 tr.kids.length y1] 25)
      have hih := HCK.out _ _ (HIN.out.keep (Keep.of_below hbq hNr)) (Nat.le_trans hNr hbq.size)
      unfold nodeU at hih
      have HIH := Lib.hid hih
      have HBQ := Lib.hid hbq
      clear hih hbq HCK HIN
      go_wp2_with fail
      ((with_reducible refine HIH.out.mono ?_))
      rintro e w4 ⟨r, he, hr, hb4⟩
      have he2 : e = .returned (.pointer (some ⟨r, 0, none⟩)) := he
      subst he2
      clear he
      have HB4 := Lib.hid (HBQ.out.trans (hb4.mono HBQ.out.size))
      have HN4 := Lib.hid (hr.up (lo := wr.heap.size) (Below.refl _ _) HBQ.out.size)
      have HO4 := Lib.hid (World.ownsRow.kept HR3.out (grownBy_below HB4.out) (hown_or HR3.out))
      have hsz : w.heap.size ≤ w4.heap.size := Nat.le_trans HB.out.size HB4.out.size
      have hmx : j + 1 ≤ maxLen := by unfold maxLen; omega
      have hbl : (j + 1) * 8 ≤ 140737488355328 := by omega
      clear hb4 hr HIH d0 d1 d2 d3 d4
      go_wp2_with (at_builtin; refine wpList_append_own2 rfl _ _ 157 rfl w.heap.size 159 i0 _ 1 8 Tryz.underlying157 hi hz0 hz1 hz2 rfl (by decide) _ _ _ rfl (World.ownsRow.kept HO4.out (grownBy_below ((Below.refl _ w4).alloc (Nat.le_refl _) _)) (hown_or HO4.out)) _ 1 1 [.pointer (some ⟨r, 0, none⟩)] rfl rfl ?c1 ?c2 hmx hbl ?c3 ?_)
      case c1 => exact World.news_of_block (cs := #[.pointer (some ⟨r, 0, none⟩)]) (t := 159) (fr := (0, 0)) (heap_alloc_new w4 _)
      case c2 => intro u hu; rw [List.mem_singleton] at hu; subst hu; rfl
      case c3 => exact Nat.le_trans hsz (by rw [alloc_size]; omega)
      intro v' w5 hown' hgrow hgb
      obtain ⟨a', c', rfl⟩ := slice_form hown'
      have hal := (Below.refl w4.heap.size w4).alloc (Nat.le_refl _) (.cells #[.pointer (some ⟨r, 0, none⟩)] 159)
      have hs4 := alloc_size w4 (.cells #[.pointer (some ⟨r, 0, none⟩)] 159)
      have hb5 : Below w.heap.size w w5 := ((HB.out.trans (HB4.out.mono HB.out.size)).alloc hsz _).grown hgrow (by rw [hs4]; omega) (fun k e => (HO4.out.lt k e).1)
      have hrn := HRA.out.snoc (w4 := w4) (w5 := w5) (v' := .slice a' (j + 1) c') (tr := tr) (r := r) HB.out.size HB4.out HN4.out (fun b hb hne => (hgrow.block b (by omega) (fun e => hne e.symm)).trans (hal.block b hb)) (by have := hgrow.size; omega) (hgb.imp id fun ⟨g', e1, e2⟩ => ⟨g', e1, by omega⟩) (by rw [HLJ.out]; exact hown')
      rw [← HTK.out] at hrn
      have HRN := Lib.hid hrn
      have HB5 := Lib.hid hb5
      clear hown' hgrow hgb hb5 hrn hal hs4
      go_wp2
      go_roundw
      case rel => exact ⟨j + 1, by omega, by go_num, _, HRN, HB5⟩
      case measure => simp [intOf]; omega
    · have hje : j = l.length := by omega
      subst hje
      clear r3
      go_wp2
      go_ret
      exact HP.out _ _ _ _ HRA.out HB.out


set_option maxHeartbeats 4000000 in
set_option maxRecDepth 100000 in
theorem nodesOf_StringExpressionPart {N : Nat} {l : List Tr} (hl : ∀ x ∈ l, UnH N x) (hk : ∀ x ∈ l, (x.kind = 31 ∨ x.kind = 32)) (hlen : l.length ≤ 1000) (ad : Option Addr) (c : Nat) (w : World) (hN : N ≤ w.heap.size) (hrow : RowN w N ad l) :
    Calls Tryz.prog 52 #[.slice ad l.length c] w (ListP 200 valI l w) := by
  obtain ⟨i0, hi, hz0, hz1, hz2⟩ := info_parts (show (Tryz.prog.info? 200).map (fun i => (i.zero, i.size, i.bytes)) = some (some (.nilIface), 1, 16) by kernel_rfl)
  have HROW := Lib.hid hrow
  have HN := Lib.hid hN
  have HC : Hid (∀ x ∈ l, ∀ v W, NodeIn W (· < N) x v → N ≤ W.heap.size → Calls Tryz.prog 70 #[v] W (UnP x W)) := Lib.hid fun x hx v W h1 h2 => nodeOf_StringExpressionPart (hl x hx) (hk x hx) v W h1 h2
  have HP : Hid (∀ s a c w', RowA 200 valI w' w.heap.size (.slice a l.length c) (l.take l.length) s → Below w.heap.size w w' → ListP 200 valI l w (.returned (.slice a l.length c)) w') := Lib.hid fun s a c w' h1 h2 => by
    rw [List.take_length] at h1
    exact h1.done h2
  clear hrow hN hl hk
  go_enter Tryz.func52, Tryz.ntmps52
  go_wp2
  go_loopw [3, 8] (fun vv i wr => ∃ j : Nat, j ≤ l.length ∧ i = .int .i64 j ∧ ∃ s, Hid (RowA 200 valI wr w.heap.size vv (l.take j) s) ∧ Hid (Below w.heap.size w wr)) (fun _ i _ => l.length - (intOf i).toNat)
  case atStart => exact ⟨0, Nat.zero_le _, rfl, [], Lib.hid (RowA.nil _ _ _ _), Lib.hid (Below.refl _ _)⟩
  case round =>
    obtain ⟨j, hj, rfl, s, HRA, HB⟩ := hrel
    have hlj : (l.take j).length = j := by rw [List.length_take]; omega
    have r3 := HRA.out.own
    rw [hlj] at r3
    obtain ⟨a2, c2, rfl⟩ := slice_form r3
    by_cases hlt : j < l.length
    · obtain ⟨b, o, rfl, hbN, hkid⟩ := HROW.out (by omega)
      obtain ⟨x1, y1, hin, d0, d1, d2, d3, d4⟩ := hkid wr (Keep.of_below HB.out HN.out) j hlt
      have HIN := Lib.hid hin
      have HCK := Lib.hid (HC.out l[j] (List.getElem_mem hlt))
      have HTK : Hid (l.take (j + 1) = l.take j ++ [l[j]]) := Lib.hid (List.take_succ_eq_append_getElem hlt)
      clear hkid hin HC HROW
      generalize l[j] = tr at *
      have hi1 : (j : Int) < l.length := by omega
      have hi0 : (0 : Int) ≤ j := by omega
      have HR3 := Lib.hid r3
      have HLJ := Lib.hid hlj
      clear r3 hlj
      have hNr : N ≤ wr.heap.size := Nat.le_trans HN.out HB.out.size
      have hbq := (Below.refl wr.heap.size wr).alloc (Nat.le_refl _) (.cells #[.int .i64 tr.kind, .string tr.text, .string tr.more, .int .u64 tr.num, .slice x1 tr.kids.length y1] 25)
      have hih := HCK.out _ _ (HIN.out.keep (Keep.of_below hbq hNr)) (Nat.le_trans hNr hbq.size)
      unfold nodeU at hih
      have HIH := Lib.hid hih
      have HBQ := Lib.hid hbq
      clear hih hbq HCK HIN
      go_wp2_with fail
      ((with_reducible refine HIH.out.mono ?_))
      rintro e w4 ⟨r, he, hr, hb4⟩
      have he2 : e = .returned (.iface (astP tr.kind) (.pointer (some ⟨r, 0, none⟩))) := he
      subst he2
      clear he
      have HB4 := Lib.hid (HBQ.out.trans (hb4.mono HBQ.out.size))
      have HN4 := Lib.hid (hr.up (lo := wr.heap.size) (Below.refl _ _) HBQ.out.size)
      have HO4 := Lib.hid (World.ownsRow.kept HR3.out (grownBy_below HB4.out) (hown_or HR3.out))
      have hsz : w.heap.size ≤ w4.heap.size := Nat.le_trans HB.out.size HB4.out.size
      have hmx : j + 1 ≤ maxLen := by unfold maxLen; omega
      have hbl : (j + 1) * 16 ≤ 140737488355328 := by omega
      clear hb4 hr HIH d0 d1 d2 d3 d4
      go_wp2_with (at_builtin; refine wpList_append_own2 rfl _ _ 197 rfl w.heap.size 200 i0 _ 1 16 Tryz.underlying197 hi hz0 hz1 hz2 rfl (by decide) _ _ _ rfl (World.ownsRow.kept HO4.out (grownBy_below ((Below.refl _ w4).alloc (Nat.le_refl _) _)) (hown_or HO4.out)) _ 1 1 [.iface (astP tr.kind) (.pointer (some ⟨r, 0, none⟩))] rfl rfl ?c1 ?c2 hmx hbl ?c3 ?_)
      case c1 => exact World.news_of_block (cs := #[.iface (astP tr.kind) (.pointer (some ⟨r, 0, none⟩))]) (t := 200) (fr := (0, 0)) (heap_alloc_new w4 _)
      case c2 => intro u hu; rw [List.mem_singleton] at hu; subst hu; rfl
      case c3 => exact Nat.le_trans hsz (by rw [alloc_size]; omega)
      intro v' w5 hown' hgrow hgb
      obtain ⟨a', c', rfl⟩ := slice_form hown'
      have hal := (Below.refl w4.heap.size w4).alloc (Nat.le_refl _) (.cells #[.iface (astP tr.kind) (.pointer (some ⟨r, 0, none⟩))] 200)
      have hs4 := alloc_size w4 (.cells #[.iface (astP tr.kind) (.pointer (some ⟨r, 0, none⟩))] 200)
      have hb5 : Below w.heap.size w w5 := ((HB.out.trans (HB4.out.mono HB.out.size)).alloc hsz _).grown hgrow (by rw [hs4]; omega) (fun k e => (HO4.out.lt k e).1)
      have hrn := HRA.out.snoc (w4 := w4) (w5 := w5) (v' := .slice a' (j + 1) c') (tr := tr) (r := r) HB.out.size HB4.out HN4.out (fun b hb hne => (hgrow.block b (by omega) (fun e => hne e.symm)).trans (hal.block b hb)) (by have := hgrow.size; omega) (hgb.imp id fun ⟨g', e1, e2⟩ => ⟨g', e1, by omega⟩) (by rw [HLJ.out]; exact hown')
      rw [← HTK.out] at hrn
      have HRN := Lib.hid hrn
      have HB5 := Lib.hid hb5
      clear hown' hgrow hgb hb5 hrn hal hs4
      go_wp2
      go_roundw
      case rel => exact ⟨j + 1, by omega, by go_num, _, HRN, HB5⟩
      case measure => simp [intOf]; omega
    · have hje : j = l.length := by omega
      subst hje
      clear r3
      go_wp2
      go_ret
      exact HP.out _ _ _ _ HRA.out HB.out


end Go.Proofs.YtkohgndmhgcgeaaGreatDoor
