/- spec's lexer: a text in quotes. -/
import Derived.Test.YtciaahpocaejhaaGreatDoorLexRegexp
import Derived.Test.YtciaahpocaejhaaGreatDoorEsc
import Derived.Test.YtciaahpocaejhaaGreatDoorOwn2
import Derived.Laws.IdiomStrings
import Derived.Lib.BufferRead
namespace Go.Proofs.YtciaahpocaejhaaGreatDoor
open Go Go.RowKit
set_option linter.unusedVariables false
set_option linter.unusedSimpArgs false

/-- A row of bytes as a text. -/
theorem conv_own {w : World} {base : Nat} {v : Value} {l : List UInt8} (h : w.ownsRow base 5 1 v l.length (Lib.byteCells l)) :
    (convert 96 9 v).run Tryz.prog w = .ok (.string ⟨l.toArray⟩) w := by
  rcases h.2 with ⟨rfl, h0⟩ | ⟨g, cap, cur, rfl, _, hg, _, _, hcs, htake⟩
  · have : l = [] := List.eq_nil_of_length_eq_zero h0
    subst this
    exact Lib.run_convert_nil_bytes w 96 9 5 0 Tryz.underlying96 Tryz.underlying5 Tryz.underlying9
  · refine run_convert_bytes_back w 96 9 5 ⟨g, 0, none⟩ cap l Tryz.underlying96 Tryz.underlying5 Tryz.underlying9 fun j hj => ?_
    exact h.cells (g := g) rfl j _ (by simp [Lib.byteCells, hj])

theorem grownBy_own {a w w' : World} {b : Nat} {row : Option Nat} (h : a.grownBy w (some b)) (hg : w.grownBy w' row) (hr : ∀ k, row = some k → a.heap.size ≤ k) : a.grownBy w' (some b) :=
  ⟨hg.os.trans h.os, hg.tape.trans h.tape, hg.output.trans h.output, Nat.le_trans h.size hg.size, fun k hk hne => (hg.block k (Nat.lt_of_lt_of_le hk h.size) (fun e => by have := hr k e.symm; omega)).trans (h.block k hk hne)⟩

/-- What stands behind a backslash: a quote or a backslash. -/
def EscPost (b : Nat) (s : ByteArray) (p : Nat) (k : Int) (t : ByteArray) (d : Int) (c : UInt8) (w : World) (e : Ending) (w' : World) : Prop :=
  ∃ g : Nat, e = .returned (.tuple #[.slice (some ⟨g, 0, none⟩) 1 1, .bool true]) ∧ w'.heap[g]? = some (.cells #[.int .u8 (c.toNat : Int)] 5 (0, 0)) ∧ RdAt b s (p + 1) k t d w' ∧ w.grownBy w' (some b) ∧ w.heap.size ≤ g

theorem esc_close {b p n : Nat} {s t : ByteArray} {k d : Int} {w : World} (h : RdAt b s p k t d w) (c : Value) :
    (((w.drewN n).setCell ⟨b, 1, none⟩ (.int .i64 ((p : Int) + 1))).alloc (.cells #[c] 5)).heap[w.heap.size]? = some (.cells #[c] 5 (0, 0)) ∧
      RdAt b s (p + 1) k t d (((w.drewN n).setCell ⟨b, 1, none⟩ (.int .i64 ((p : Int) + 1))).alloc (.cells #[c] 5)) ∧
      w.grownBy (((w.drewN n).setCell ⟨b, 1, none⟩ (.int .i64 ((p : Int) + 1))).alloc (.cells #[c] 5)) (some b) := by
  refine ⟨?_, ?_, Lib.grownBy_allocR (Lib.grownBy_setB (grownBy_drewN (World.grownBy.refl w _) n) 1 _) _⟩
  · have := heap_alloc_new ((w.drewN n).setCell ⟨b, 1, none⟩ (.int .i64 ((p : Int) + 1))) (.cells #[c] 5)
    have hs : ((w.drewN n).setCell ⟨b, 1, none⟩ (.int .i64 ((p : Int) + 1))).heap.size = w.heap.size := by
      have : (w.drewN n).heap.size = w.heap.size := rfl
      simp [World.setCell]
    rwa [hs] at this
  · have h1 : RdAt b s p k t d (w.drewN n) := h
    exact (h1.put1 (p + 1)).alloc _

set_option maxHeartbeats 4000000 in
set_option maxRecDepth 100000 in
theorem escape_any (b p : Nat) (s t : ByteArray) (k d : Int) (hsz : s.size ≤ 10000) (hp : p < s.size) (hc : s[p] = 34 ∨ s[p] = 92) (w : World) (h : RdAt b s p k t d w) :
    Calls Tryz.prog 113 #[.pointer (some ⟨b, 0, none⟩)] w (EscPost b s p k t d s[p] w) := by
  have c0 := h.c0
  have c1 := h.c1
  have f1 := h.fz 1
  have hlt := h.lt
  have hin : (0 : Int) ≤ p ∧ (p : Int) < s.size := by omega
  have hge : ¬ (s.size : Int) ≤ p := by omega
  have H := Lib.hid h
  have hb : s[p].toNat = 34 ∨ s[p].toNat = 92 := by
    rcases hc with e | e
    · left; rw [e]; rfl
    · right; rw [e]; rfl
  have HP : Hid (∀ e w', (∃ g : Nat, e = .returned (.tuple #[.slice (some ⟨g, 0, none⟩) 1 1, .bool true]) ∧ w'.heap[g]? = some (.cells #[.int .u8 (s[p].toNat : Int)] 5 (0, 0)) ∧ RdAt b s (p + 1) k t d w' ∧ w.grownBy w' (some b) ∧ w.heap.size ≤ g) → EscPost b s p k t d s[p] w e w') := Lib.hid fun _ _ h => h
  clear h hc
  go_enter Tryz.func113, Tryz.ntmps113
  go_wp2
  go_quiet (fail)
  go_wp2
  go_quiet (fail)
  go_wp2
  all_goals
    obtain ⟨e1, e2, e3⟩ := esc_close (n := _) H.out (.int .u8 (s[p].toNat : Int))
    go_ret2
    exact HP.out _ _ ⟨w.heap.size, rfl, e1, e2, e3, Nat.le_refl _⟩

theorem escT_le : ∀ l : List UInt8, l.length ≤ (escT l).length
  | [] => by simp [escT]
  | c :: l => by
    have := escT_le l
    rw [show c :: l = [c] ++ l from rfl, escT_append, List.length_append, List.length_append, escT_one]
    split <;> simp <;> omega

/-- A text as it may stand in quotes: no '$' ahead of an opening bracket. -/
def TxtOk (l : List UInt8) : Prop := ∀ i : Nat, l[i]? = some 36 → l[i + 1]? ≠ some 123

def sliceLen : Value → Nat
  | .slice _ n _ => n
  | _ => 0

def TextPost (b : Nat) (s : ByteArray) (k : Int) (t : ByteArray) (d : Int) (l : List UInt8) (w : World) (e : Ending) (w' : World) : Prop :=
  e = .returned (.agg #[.int .i64 4, .string ⟨l.toArray⟩]) ∧ RdAt b s s.size k t d w' ∧ w.grownBy w' (some b)

theorem RdAt.of_heap {b p : Nat} {s t : ByteArray} {k d : Int} {w w' : World} (h : RdAt b s p k t d w) (e : w'.heap[b]? = w.heap[b]?) : RdAt b s p k t d w' := by
  unfold RdAt at h ⊢
  rw [e]
  exact h

theorem cell_new (w : World) (n m b : Nat) (v c : Value) (T : TypeId) : ((((w.drewN n).setCell ⟨b, 1, none⟩ v).drewN m).alloc (.cells #[c] T)).cell? ((⟨w.heap.size, 0, none⟩ : Addr).add 0) = some c := by
  have h : ((((w.drewN n).setCell ⟨b, 1, none⟩ v).drewN m).alloc (.cells #[c] T)).heap[w.heap.size]? = some (.cells #[c] T (0, 0)) := by
    have h1 := heap_alloc_new (((w.drewN n).setCell ⟨b, 1, none⟩ v).drewN m) (.cells #[c] T)
    have hs : (((w.drewN n).setCell ⟨b, 1, none⟩ v).drewN m).heap.size = w.heap.size := by
      show ((w.drewN n).setCell ⟨b, 1, none⟩ v).heap.size = w.heap.size
      have : (w.drewN n).heap.size = w.heap.size := rfl
      simp [World.setCell]
    rwa [hs] at h1
  show World.cell? _ ⟨w.heap.size, 0 + 0, none⟩ = _
  rw [Lib.cell_of_heap h]
  rfl

theorem row_kept_alloc {w : World} {r : Nat} {o : Obj} (h : w.heap[r]? = some o) (x : Obj) : (w.alloc x).heap[r]? = some o :=
  (Lib.alloc_old w x r (Array.getElem?_eq_some_iff.1 h).1).trans h

/-- A round's end: the row is appended to. -/
theorem round_end {b p n : Nat} {s t : ByteArray} {k d : Int} {w w3 w2 : World} {v : Value} {xs : List Value} {tok : Obj} {e : TypeId} (hb : b < w.heap.size) (hr : RdAt b s p k t d w3) (hown : w3.ownsRow (w.heap.size + 1) e 1 v n xs)
    (hg : w.grownBy w3 (some b)) (hk : w3.heap[w.heap.size]? = some tok) (hap : w3.grownBy w2 v.ownBlock) :
    RdAt b s p k t d w2 ∧ w.grownBy w2 (some b) ∧ w2.heap[w.heap.size]? = some tok ∧ w.heap.size + 1 ≤ w2.heap.size := by
  have h3 : w.heap.size < w3.heap.size := (Array.getElem?_eq_some_iff.1 hk).1
  have hne : ∀ j, j ≤ w.heap.size → some j ≠ v.ownBlock := fun j hj e => by have := (hown.lt j e.symm).1; omega
  refine ⟨hr.of_heap (hap.block b (by omega) (hne b (by omega))), grownBy_own hg hap fun j hj => ?_, (hap.block _ h3 (hne _ (Nat.le_refl _))).trans hk, Nat.le_trans h3 hap.size⟩
  have := (hown.lt j hj).1
  omega

set_option maxHeartbeats 8000000 in
set_option maxRecDepth 100000 in
theorem text_any (b : Nat) (s t : ByteArray) (k d : Int) (l : List UInt8) (hs : s.data.toList = [34] ++ escT l ++ [34]) (hl : TxtOk l) (hsz : s.size ≤ 10000) (w : World) (h : RdAt b s 1 k t d w) :
    Calls Tryz.prog 91 #[.pointer (some ⟨b, 0, none⟩)] w (TextPost b s k t d l w) := by
  obtain ⟨i0, hi, hz0, hz1, hz2⟩ := info_parts bld_byte
  have hlen : s.size = (escT l).length + 2 := by
    have := congrArg List.length hs
    simp at this
    omega
  have hlt := h.lt
  have H1 := Lib.hid (h.alloc (.cells #[.int .i64 0, .string ⟨#[]⟩] 61))
  have G1 := Lib.hid (World.grownBy_alloc w (.cells #[.int .i64 0, .string ⟨#[]⟩] 61) (some b))
  have K1 : Hid ((w.alloc (.cells #[.int .i64 0, .string ⟨#[]⟩] 61)).heap[w.heap.size]? = some (.cells #[.int .i64 0, .string ⟨#[]⟩] 61 (0, 0))) := Lib.hid (heap_alloc_new w _)
  have HS := Lib.hid hs
  have HL := Lib.hid hl
  clear h hs hl
  go_enter Tryz.func91, Tryz.ntmps91
  go_wp2
  go_loopw [3] (fun o wr => ∃ pre post : List UInt8, Hid (pre ++ post = l) ∧ Hid (wr.ownsRow (w.heap.size + 1) 5 1 o pre.length (Lib.byteCells pre)) ∧ Hid (RdAt b s (1 + (escT pre).length) k t d wr) ∧ Hid (w.grownBy wr (some b)) ∧ Hid (wr.heap[w.heap.size]? = some (.cells #[.int .i64 0, .string ⟨#[]⟩] 61 (0, 0))) ∧ sliceLen o = pre.length ∧ Hid (w.heap.size + 1 ≤ wr.heap.size)) (fun o _ => l.length - sliceLen o)
  case atStart => exact ⟨[], l, Lib.hid rfl, Lib.hid (World.ownsRow_nil _ _ _ _), H1, G1, K1, rfl, Lib.hid (by simp)⟩
  case round =>
    obtain ⟨pre, post, hpp, hown, hrd, hgr, hk, hsl, hsz2⟩ := hrel
    have hpl : (escT pre).length + (escT post).length = (escT l).length := by rw [← hpp.out, escT_append, List.length_append]
    have hql : 1 + (escT pre).length < s.size := by omega
    have hdrop : s.data.toList.drop (1 + (escT pre).length) = escT post ++ [34] := by
      rw [HS.out, ← hpp.out, escT_append, List.append_assoc, List.append_assoc]
      rw [show 1 + (escT pre).length = ([34] ++ escT pre).length by simp; omega, ← List.append_assoc, List.drop_left]
    generalize hq : 1 + (escT pre).length = q at *
    have hat : ∀ j (hj : q + j < s.size), s[q + j] = (escT post ++ [34]).getD j 0 := fun j hj => by
      rw [at_list s _ hj, ← hdrop]
      simp [List.getD, List.getElem?_drop]
    have hin : (0 : Int) ≤ q ∧ (q : Int) < s.size := by omega
    have hlt1 : (q : Int) < s.size := by omega
    have c0 := hrd.out.c0
    have c1 := hrd.out.c1
    have f1 := hrd.out.fz 1
    obtain ⟨ao, cap, rfl⟩ : ∃ a c, u3 = .slice a pre.length c := by
      rcases hown.out.2 with ⟨rfl, h0⟩ | ⟨g, cap, cur, hv, _⟩
      · exact ⟨none, 0, by rw [h0]⟩
      · exact ⟨_, _, hv⟩
    have hob : (Value.slice ao pre.length cap).ownBlock = none ∨ (Value.slice ao pre.length cap).ownBlock ≠ some b := by
      cases ho : (Value.slice ao pre.length cap).ownBlock with
      | none => exact .inl rfl
      | some g => exact .inr fun e => by cases e; have := (hown.out.lt b ho).1; omega
    have hown1 : ∀ n, ((wr.drewN n).setCell ⟨b, 1, none⟩ (.int .i64 ((q : Int) + 1))).ownsRow (w.heap.size + 1) 5 1 (.slice ao pre.length cap) pre.length (Lib.byteCells pre) := fun n =>
      World.ownsRow.kept (w := wr.drewN n) (row := some b) hown.out (Lib.grownBy_setB (World.grownBy.refl _ _) 1 _) hob
    have hrd1 : ∀ n, RdAt b s (q + 1) k t d ((wr.drewN n).setCell ⟨b, 1, none⟩ (.int .i64 ((q : Int) + 1))) := fun n => by
      have h1 : RdAt b s q k t d (wr.drewN n) := hrd.out
      exact h1.put1 (q + 1)
    have hgr1 : ∀ n, w.grownBy ((wr.drewN n).setCell ⟨b, 1, none⟩ (.int .i64 ((q : Int) + 1))) (some b) := fun n => Lib.grownBy_setB (grownBy_drewN hgr.out n) 1 _
    have hk1 : ∀ n, ((wr.drewN n).setCell ⟨b, 1, none⟩ (.int .i64 ((q : Int) + 1))).heap[w.heap.size]? = some (.cells #[.int .i64 0, .string ⟨#[]⟩] 61 (0, 0)) := fun n => by
      have h1 : (wr.drewN n).heap[w.heap.size]? = _ := hk.out
      exact row_kept h1 b 1 _ (by omega)
    have HO1 := Lib.hid hown1
    have HR1 := Lib.hid hrd1
    have HG1 := Lib.hid hgr1
    have HK1 := Lib.hid hk1
    have HQ := Lib.hid hq
    have HSL := Lib.hid hsl
    have HO2 := Lib.hid (show ∀ n m, (((wr.drewN n).setCell ⟨b, 1, none⟩ (.int .i64 ((q : Int) + 1))).drewN m).ownsRow (w.heap.size + 1) 5 1 (.slice ao pre.length cap) pre.length (Lib.byteCells pre) from fun n m => hown1 n)
    have HR2 := Lib.hid (show ∀ n m, RdAt b s (q + 1) k t d (((wr.drewN n).setCell ⟨b, 1, none⟩ (.int .i64 ((q : Int) + 1))).drewN m) from fun n m => hrd1 n)
    have HG2 := Lib.hid (show ∀ n m, w.grownBy (((wr.drewN n).setCell ⟨b, 1, none⟩ (.int .i64 ((q : Int) + 1))).drewN m) (some b) from fun n m => grownBy_drewN (hgr1 n) m)
    have HK2 := Lib.hid (show ∀ n m, (((wr.drewN n).setCell ⟨b, 1, none⟩ (.int .i64 ((q : Int) + 1))).drewN m).heap[w.heap.size]? = some (.cells #[.int .i64 0, .string ⟨#[]⟩] 61 (0, 0)) from fun n m => hk1 n)
    clear hown1 hrd1 hgr1 hk1 hq hob hsl
    cases post with
    | nil =>
      have e0 : s[q] = 34 := hat 0 hql
      have m34 : ((s[q].toNat : Int) == 34) = true := by rw [e0]; rfl
      have hn : s.size = q + 1 := by
        have : (escT ([] : List UInt8)).length = 0 := rfl
        have := HQ.out
        omega
      have HN := Lib.hid hn
      have hcv := fun n => conv_own (HO1.out n)
      have HLL := Lib.hid (show pre = l by rw [← hpp.out]; simp)
      have z0 : wr.cell? ⟨w.heap.size, 0, none⟩ = some (.int .i64 0) := by rw [Lib.cell_of_heap hk.out]; rfl
      have z1 : wr.cell? ⟨w.heap.size, 1, none⟩ = some (.string ⟨#[]⟩) := by rw [Lib.cell_of_heap hk.out]; rfl
      have y0 := Lib.frozen_of_heap hk.out 0
      have y1 := Lib.frozen_of_heap hk.out 1
      have HL2 := Lib.hid hlen
      clear e0 hn hat hdrop hpl hlen
      go_wp2
      go_quiet (fail)
      go_wp2
      go_quiet (fail)
      go_wp2
      have hs1 : q + 1 = s.size := HN.out.symm
      refine bodyPost_ret (v := .agg #[.int .i64 4, .string ⟨pre.toArray⟩]) (by simp [results, Tryz.results91, go_sem, z0, z1]) rfl ⟨by rw [HLL.out], ?_, ?_⟩
      · rw [← hs1]
        exact row_kept (row_kept (HR1.out _) _ _ _ (by omega)) _ _ _ (by omega)
      · exact grownBy_new (grownBy_new (HG1.out _) (Nat.le_refl _) _ _) (Nat.le_refl _) _ _
    | cons c post =>
      have hcs : escT (c :: post) = escT [c] ++ escT post := escT_append [c] post
      have hel : (escT pre).length + (escT [c]).length = (escT (pre ++ [c])).length := by rw [escT_append, List.length_append]
      have hrest : (escT [c]).length + (escT post).length = (escT (c :: post)).length := by rw [hcs, List.length_append]
      have hnx : pre ++ [c] ++ post = l := by rw [← hpp.out]; simp
      have HNX := Lib.hid hnx
      clear hnx
      have hpn : pre.length + 1 ≤ 10000 := by
        have h1 := escT_le pre
        omega
      have hmx : pre.length + 1 ≤ maxLen := by unfold maxLen; omega
      have hbl : pre.length + 1 ≤ 140737488355328 := by omega
      by_cases hc : c = 34 ∨ c = 92
      · have hE : escT [c] = [92, c] := by rw [escT_one, if_pos hc]
        have hq1 : q + 1 < s.size := by have := HQ.out; rw [hE] at hrest; simp only [List.length_cons, List.length_nil] at hrest; omega
        have e0 : s[q] = 92 := by have := hat 0 hql; rw [hcs, hE] at this; exact this
        have e1 : s[q + 1] = c := by have := hat 1 hq1; rw [hcs, hE] at this; exact this
        have m34 : ((s[q].toNat : Int) == 34) = false := by rw [e0]; rfl
        have m36 : ((s[q].toNat : Int) == 36) = false := by rw [e0]; rfl
        have m92 : ((s[q].toNat : Int) == 92) = true := by rw [e0]; rfl
        have HC1 := Lib.hid (show s[q + 1] = 34 ∨ s[q + 1] = 92 by rw [e1]; exact hc)
        have HQ1 := Lib.hid hq1
        have HE1 := Lib.hid e1
        have HEL : Hid (1 + (escT (pre ++ [c])).length = q + 2) := Lib.hid (by have := HQ.out; rw [hE] at hel; simp at hel; omega)
        clear e0 e1 hat hdrop hpl hcs hel hrest hE hc hlen
        go_wp2
        go_quiet (fail)
        go_wp2
        go_quiet (fail)
        go_wp2
        go_quiet (fail)
        go_wp2_with fail
        refine (escape_any b (q + 1) s t k d hsz HQ1.out HC1.out _ (HR2.out _ _)).mono ?_
        rintro e w3 ⟨g, rfl, hg3, hr3, hgr3, hgge⟩
        have hob : (Value.slice ao pre.length cap).ownBlock = none ∨ (Value.slice ao pre.length cap).ownBlock ≠ some b := by
          cases ho : (Value.slice ao pre.length cap).ownBlock with
          | none => exact .inl rfl
          | some g => exact .inr fun e => by cases e; have := (hown.out.lt b ho).1; omega
        have HO3 := Lib.hid (World.ownsRow.kept (HO2.out _ _) hgr3 hob)
        have HG3 := Lib.hid (Lib.grownBy_trans (HG2.out _ _) hgr3)
        have hk3 := (hgr3.block _ (Array.getElem?_eq_some_iff.1 (HK2.out _ _)).1 (by intro e; cases e; omega)).trans (HK2.out _ _)
        have HK3 := Lib.hid hk3
        have HR3 := Lib.hid hr3
        have HGL := Lib.hid (show w.heap.size + 1 ≤ w3.heap.size from (Array.getElem?_eq_some_iff.1 hk3).1)
        have g0 : w3.cell? ⟨g, 0, none⟩ = some (.int .u8 (s[q + 1].toNat : Int)) := by rw [Lib.cell_of_heap hg3]; rfl
        have HG0 := Lib.hid g0
        clear hob hk3 hr3 hgr3 hg3 g0
        go_wp2_with (at_builtin; refine wpList_append_own2 rfl _ _ 96 rfl (w.heap.size + 1) 5 i0 (.int .u8 0) 1 1 Tryz.underlying96 hi hz0 hz1 hz2 rfl (by decide) _ _ _ rfl HO3.out ⟨g, 0, none⟩ 1 1 [.int .u8 (s[q + 1].toNat : Int)] rfl rfl ?c1 ?c2 hmx (by omega) HGL.out ?_)
        case c1 =>
          intro j u hj
          match j, hj with
          | 0, hj => simp at hj; subst hj; exact HG0.out
        case c2 => intro u hu; simp at hu; subst hu; rfl
        intro v' w2 hown' hap _
        obtain ⟨r1, r2, r3, r4⟩ := round_end hlt HR3.out HO3.out HG3.out HK3.out hap
        obtain ⟨ao', cap', rfl⟩ : ∃ a c, v' = .slice a (pre.length + 1) c := by
          rcases hown'.2 with ⟨hv, h0⟩ | ⟨g, cap, cur, hv, _⟩
          · omega
          · exact ⟨_, _, hv⟩
        go_wp2
        go_roundw
        case rel =>
          refine ⟨pre ++ [c], post, HNX, Lib.hid ?_, Lib.hid ?_, Lib.hid r2, Lib.hid r3, by simp [sliceLen], Lib.hid r4⟩
          · have hbc : ∀ x y : UInt8, x = y → Lib.byteCells (pre ++ [y]) = Lib.byteCells pre ++ [.int .u8 (x.toNat : Int)] := fun x y e => by simp [Lib.byteCells, e]
            rw [hbc _ _ HE1.out, show (pre ++ [c]).length = pre.length + 1 by simp]
            exact hown'
          · rw [HEL.out]
            exact r1
        case measure =>
          have h1 := congrArg List.length HNX.out
          simp at h1
          simp [sliceLen]
          omega
      · have hE : escT [c] = [c] := by rw [escT_one, if_neg hc]
        have e0 : s[q] = c := by have := hat 0 hql; rw [hcs, hE] at this; exact this
        have m34 : ((s[q].toNat : Int) == 34) = false := by
          rw [e0]; simp; intro h; apply hc; left; apply UInt8.toNat_inj.1; simp; omega
        have m92 : ((s[q].toNat : Int) == 92) = false := by
          rw [e0]; simp; intro h; apply hc; right; apply UInt8.toNat_inj.1; simp; omega
        have HEL : Hid (1 + (escT (pre ++ [c])).length = q + 1) := Lib.hid (by have := HQ.out; rw [hE] at hel; simp at hel; omega)
        by_cases h36 : c = 36
        · have m36 : ((s[q].toNat : Int) == 36) = true := by rw [e0, h36]; rfl
          have hq1 : q + 1 < s.size := by have := HQ.out; rw [hE] at hrest; simp only [List.length_cons, List.length_nil] at hrest; omega
          have hlt2 : (q : Int) + 1 < s.size := by omega
          have hge2 : (0 : Int) ≤ (q : Int) + 1 ∧ (q : Int) + 1 < s.size := by omega
          have m123 : ((s[q + 1].toNat : Int) == 123) = false := by
            have e1 : s[q + 1] ≠ 123 := by
              have := hat 1 hq1
              rw [hcs, hE] at this
              rw [this]
              cases post with
              | nil => simp [escT]
              | cons x post =>
                have hx := HL.out pre.length (by rw [← HNX.out]; simp [h36])
                rw [← HNX.out] at hx
                have hx1 : x ≠ 123 := by
                  intro e
                  apply hx
                  rw [e]
                  simp
                by_cases hxx : x = 34 ∨ x = 92
                · have : escT (x :: post) = [92, x] ++ escT post := by rw [show x :: post = [x] ++ post from rfl, escT_append, escT_one, if_pos hxx]
                  rw [this]
                  simp
                · have : escT (x :: post) = [x] ++ escT post := by rw [show x :: post = [x] ++ post from rfl, escT_append, escT_one, if_neg hxx]
                  rw [this]
                  exact hx1
            simp
            intro h
            apply e1
            apply UInt8.toNat_inj.1
            simp
            omega
          have HE0 := Lib.hid e0
          clear e0 hat hdrop hpl hcs hel hrest hE hc h36 hlen
          go_wp2
          go_quiet (fail)
          go_wp2
          go_quiet (fail)
          go_wp2
          go_quiet (fail)
          go_wp2_with (at_builtin; refine wpList_append_own2 rfl _ _ 96 rfl (w.heap.size + 1) 5 i0 (.int .u8 0) 1 1 Tryz.underlying96 hi hz0 hz1 hz2 rfl (by decide) _ _ _ rfl ((HO2.out _ _).alloc _) ⟨wr.heap.size, 0, none⟩ 1 1 [.int .u8 (s[q].toNat : Int)] rfl rfl ?c1 ?c2 hmx (by omega) ?c3 ?_)
          case c1 =>
            intro j u hj
            match j, hj with
            | 0, hj => simp at hj; subst hj; exact cell_new wr _ _ b _ _ _
          case c2 => intro u hu; simp at hu; subst hu; rfl
          case c3 => have := hsz2.out; have h2 : ∀ n, (wr.drewN n).heap.size = wr.heap.size := fun _ => rfl; show w.heap.size + 1 ≤ (World.alloc _ _).heap.size; refine Nat.le_trans this ?_; simp only [World.drewN, World.setCell, World.alloc, Array.size_push, Array.size_modify]; omega
          intro v' w2 hown' hap _
          obtain ⟨r1, r2, r3, r4⟩ := round_end hlt ((HR2.out _ _).alloc _) ((HO2.out _ _).alloc _) (Lib.grownBy_allocR (HG2.out _ _) _) (row_kept_alloc (HK2.out _ _) _) hap
          obtain ⟨ao', cap', rfl⟩ : ∃ a c, v' = .slice a (pre.length + 1) c := by
            rcases hown'.2 with ⟨hv, h0⟩ | ⟨g, cap, cur, hv, _⟩
            · omega
            · exact ⟨_, _, hv⟩
          go_wp2
          go_roundw
          case rel =>
            refine ⟨pre ++ [c], post, HNX, Lib.hid ?_, Lib.hid ?_, Lib.hid r2, Lib.hid r3, by simp [sliceLen], Lib.hid r4⟩
            · rw [HE0.out] at hown'
              simpa [Lib.byteCells] using hown'
            · rw [HEL.out]
              exact r1
          case measure =>
            have h1 := congrArg List.length HNX.out
            simp at h1
            simp [sliceLen]
            omega
        · have m36 : ((s[q].toNat : Int) == 36) = false := by
            rw [e0]; simp; intro h; apply h36; apply UInt8.toNat_inj.1; simp; omega
          have HE0 := Lib.hid e0
          clear e0 hat hdrop hpl hcs hel hrest hE hc h36 hlen
          go_wp2
          go_quiet (fail)
          go_wp2
          go_quiet (fail)
          go_wp2
          go_quiet (fail)
          go_wp2_with (at_builtin; refine wpList_append_own2 rfl _ _ 96 rfl (w.heap.size + 1) 5 i0 (.int .u8 0) 1 1 Tryz.underlying96 hi hz0 hz1 hz2 rfl (by decide) _ _ _ rfl ((HO2.out _ _).alloc _) ⟨wr.heap.size, 0, none⟩ 1 1 [.int .u8 (s[q].toNat : Int)] rfl rfl ?c1 ?c2 hmx (by omega) ?c3 ?_)
          case c1 =>
            intro j u hj
            match j, hj with
            | 0, hj => simp at hj; subst hj; exact cell_new wr _ _ b _ _ _
          case c2 => intro u hu; simp at hu; subst hu; rfl
          case c3 => have := hsz2.out; have h2 : ∀ n, (wr.drewN n).heap.size = wr.heap.size := fun _ => rfl; show w.heap.size + 1 ≤ (World.alloc _ _).heap.size; refine Nat.le_trans this ?_; simp only [World.drewN, World.setCell, World.alloc, Array.size_push, Array.size_modify]; omega
          intro v' w2 hown' hap _
          obtain ⟨r1, r2, r3, r4⟩ := round_end hlt ((HR2.out _ _).alloc _) ((HO2.out _ _).alloc _) (Lib.grownBy_allocR (HG2.out _ _) _) (row_kept_alloc (HK2.out _ _) _) hap
          obtain ⟨ao', cap', rfl⟩ : ∃ a c, v' = .slice a (pre.length + 1) c := by
            rcases hown'.2 with ⟨hv, h0⟩ | ⟨g, cap, cur, hv, _⟩
            · omega
            · exact ⟨_, _, hv⟩
          go_wp2
          go_roundw
          case rel =>
            refine ⟨pre ++ [c], post, HNX, Lib.hid ?_, Lib.hid ?_, Lib.hid r2, Lib.hid r3, by simp [sliceLen], Lib.hid r4⟩
            · rw [HE0.out] at hown'
              simpa [Lib.byteCells] using hown'
            · rw [HEL.out]
              exact r1
          case measure =>
            have h1 := congrArg List.length HNX.out
            simp at h1
            simp [sliceLen]
            omega

end Go.Proofs.YtciaahpocaejhaaGreatDoor
