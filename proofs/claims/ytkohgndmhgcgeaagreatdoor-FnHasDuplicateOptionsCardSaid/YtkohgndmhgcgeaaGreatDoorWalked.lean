/- laws.walked: what it asks of a tree. -/
import Derived.Test.YtkohgndmhgcgeaaGreatDoorAstFits
namespace Go.Proofs.YtkohgndmhgcgeaaGreatDoor
open Go Go.RowKit
set_option linter.unusedVariables false
set_option linter.unusedSimpArgs false

/-- No backslash and no line's end. -/
def PatOk (s : ByteArray) : Prop := (∀ c ∈ s.data.toList, c ≠ 92 ∧ c ≠ 10) ∧ s ≠ ⟨#[]⟩

theorem byte_take (s : ByteArray) (k : Nat) (h : k < s.size) : s.data.toList.take (k + 1) = s.data.toList.take k ++ [s[k]] := by
  rw [List.take_succ_eq_append_getElem (by simpa using h)]; rfl

set_option maxHeartbeats 4000000 in
set_option maxRecDepth 100000 in
theorem plainPattern_any (s : ByteArray) (hs : s.size ≤ 2147483647) (w : World) :
    Calls Tryz.prog 63 #[.string s] w (HasB (PatOk s) w) := by
  have HF : Hid (HasB (PatOk s) w (.returned (.bool false)) w) := Lib.hid ⟨false, rfl, (fun h => by cases h), rfl⟩
  go_enter Tryz.func63, Tryz.ntmps63
  go_wp2
  go_loop [3] (fun i => ∃ k : Nat, k ≤ s.size ∧ i = .int .i64 k ∧ ∀ c ∈ s.data.toList.take k, c ≠ 92 ∧ c ≠ 10) (fun i => s.size - (intOf i).toNat)
  case atStart => exact ⟨0, Nat.zero_le _, rfl, by simp⟩
  case round =>
    obtain ⟨k, hk, rfl, hall⟩ := hrel
    have HA := Lib.hid hall
    clear hall
    by_cases hlt : k < s.size
    · have htk := Lib.hid (byte_take s k hlt)
      generalize hx : s[k] = x at *
      by_cases h92 : x = 92
      · subst h92
        have hx' : s[k].toNat = 92 := by rw [hx]; rfl
        clear hx
        go_wp2
        go_ret
        exact HF.out
      · by_cases h10 : x = 10
        · subst h10
          have hx' : s[k].toNat = 10 := by rw [hx]; rfl
          clear hx
          go_wp2
          go_ret
          exact HF.out
        · have HX : Hid (x ≠ 92 ∧ x ≠ 10) := Lib.hid ⟨h92, h10⟩
          clear hx h92 h10
          go_wp2
          all_goals first
            | (go_ret; exact HF.out)
            | (go_round
               case rel => exact ⟨k + 1, by omega, by go_num, by rw [htk.out]; intro c hc; rcases List.mem_append.1 hc with h | h; exact HA.out c h; simp at h; subst h; exact HX.out⟩
               case measure => simp [intOf]; omega)
    · have hfull : s.data.toList.take k = s.data.toList := List.take_of_length_le (by simp; omega)
      by_cases he : s = ⟨#[]⟩
      · subst he
        go_wp2
        go_ret
        exact HF.out
      · have he1 := notEmpty_of he
        have HP : Hid (PatOk s) := Lib.hid ⟨by have := HA.out; rwa [hfull] at this, he⟩
        clear hfull he
        go_wp2
        go_ret
        exact ⟨_, rfl, fun _ => HP.out, rfl⟩

def typeNames : List (Int × ByteArray) := [(2, ⟨#[80, 97, 99, 107, 97, 103, 101]⟩), (3, ⟨#[70, 105, 108, 101]⟩), (4, ⟨#[80, 97, 99, 107, 97, 103, 101, 67, 108, 97, 117, 115, 101]⟩), (5, ⟨#[73, 109, 112, 111, 114, 116, 68, 101, 99, 108, 97, 114, 97, 116, 105, 111, 110]⟩), (6, ⟨#[66, 108, 111, 99, 107]⟩), (7, ⟨#[66, 97, 100, 83, 116, 97, 116, 101, 109, 101, 110, 116]⟩), (8, ⟨#[69, 120, 112, 114, 101, 115, 115, 105, 111, 110, 83, 116, 97, 116, 101, 109, 101, 110, 116]⟩), (9, ⟨#[82, 101, 116, 117, 114, 110, 83, 116, 97, 116, 101, 109, 101, 110, 116]⟩), (10, ⟨#[86, 97, 114, 105, 97, 98, 108, 101, 65, 115, 115, 105, 103, 110, 109, 101, 110, 116]⟩), (11, ⟨#[77, 101, 109, 98, 101, 114, 65, 115, 115, 105, 103, 110, 109, 101, 110, 116]⟩), (12, ⟨#[79, 112, 116, 105, 111, 110, 83, 116, 97, 116, 101, 109, 101, 110, 116]⟩), (13, ⟨#[66, 117, 105, 108, 116, 105, 110, 83, 116, 97, 116, 101, 109, 101, 110, 116]⟩), (14, ⟨#[84, 101, 115, 116, 83, 116, 97, 116, 101, 109, 101, 110, 116]⟩), (15, ⟨#[84, 101, 115, 116, 67, 97, 115, 101, 83, 116, 97, 116, 101, 109, 101, 110, 116]⟩), (16, ⟨#[67, 97, 108, 108, 69, 120, 112, 114, 101, 115, 115, 105, 111, 110]⟩), (17, ⟨#[77, 101, 109, 98, 101, 114, 69, 120, 112, 114, 101, 115, 115, 105, 111, 110]⟩), (18, ⟨#[73, 110, 100, 101, 120, 69, 120, 112, 114, 101, 115, 115, 105, 111, 110]⟩), (19, ⟨#[80, 105, 112, 101, 69, 120, 112, 114, 101, 115, 115, 105, 111, 110]⟩), (20, ⟨#[70, 117, 110, 99, 116, 105, 111, 110, 69, 120, 112, 114, 101, 115, 115, 105, 111, 110]⟩), (21, ⟨#[66, 105, 110, 97, 114, 121, 69, 120, 112, 114, 101, 115, 115, 105, 111, 110]⟩), (22, ⟨#[85, 110, 97, 114, 121, 69, 120, 112, 114, 101, 115, 115, 105, 111, 110]⟩), (23, ⟨#[76, 111, 103, 105, 99, 97, 108, 69, 120, 112, 114, 101, 115, 115, 105, 111, 110]⟩), (24, ⟨#[67, 111, 110, 100, 105, 116, 105, 111, 110, 97, 108, 69, 120, 112, 114, 101, 115, 115, 105, 111, 110]⟩), (25, ⟨#[80, 97, 114, 101, 110, 69, 120, 112, 114, 101, 115, 115, 105, 111, 110]⟩), (26, ⟨#[65, 114, 114, 97, 121, 69, 120, 112, 114, 101, 115, 115, 105, 111, 110]⟩), (27, ⟨#[68, 105, 99, 116, 69, 120, 112, 114, 101, 115, 115, 105, 111, 110]⟩), (28, ⟨#[79, 98, 106, 101, 99, 116, 69, 120, 112, 114, 101, 115, 115, 105, 111, 110]⟩), (29, ⟨#[80, 114, 111, 112, 101, 114, 116, 121]⟩), (30, ⟨#[83, 116, 114, 105, 110, 103, 69, 120, 112, 114, 101, 115, 115, 105, 111, 110]⟩), (33, ⟨#[73, 100, 101, 110, 116, 105, 102, 105, 101, 114]⟩), (34, ⟨#[83, 116, 114, 105, 110, 103, 76, 105, 116, 101, 114, 97, 108]⟩), (35, ⟨#[66, 111, 111, 108, 101, 97, 110, 76, 105, 116, 101, 114, 97, 108]⟩), (36, ⟨#[73, 110, 116, 101, 103, 101, 114, 76, 105, 116, 101, 114, 97, 108]⟩), (37, ⟨#[85, 110, 115, 105, 103, 110, 101, 100, 73, 110, 116, 101, 103, 101, 114, 76, 105, 116, 101, 114, 97, 108]⟩), (38, ⟨#[70, 108, 111, 97, 116, 76, 105, 116, 101, 114, 97, 108]⟩), (39, ⟨#[68, 117, 114, 97, 116, 105, 111, 110, 76, 105, 116, 101, 114, 97, 108]⟩), (41, ⟨#[68, 97, 116, 101, 84, 105, 109, 101, 76, 105, 116, 101, 114, 97, 108]⟩), (42, ⟨#[82, 101, 103, 101, 120, 112, 76, 105, 116, 101, 114, 97, 108]⟩), (43, ⟨#[80, 105, 112, 101, 76, 105, 116, 101, 114, 97, 108]⟩)]
def typeNameOf (k : Int) : ByteArray := ((typeNames.find? (fun p => p.1 == k)).map (·.2)).getD ⟨#[]⟩

theorem lookI_texts (k : Int) : ∀ (l : List (Int × ByteArray)), lookI (l.map fun p => (p.1, Value.string p.2)) k = ((l.find? (fun p => p.1 == k)).map (·.2)).map Value.string
  | [] => rfl
  | p :: l => by
    by_cases h : p.1 = k
    · simp [lookI, h]
    · have := lookI_texts k l
      simp [lookI, h] at this ⊢
      exact this

theorem zero_str (w : World) : (zeroValue 9).run Tryz.prog w = .ok (.string ⟨#[]⟩) w := by kernel_rfl

theorem typeName_kinds {k : Int} (h : typeNameOf k ≠ ⟨#[]⟩) : 2 ≤ k ∧ k ≤ 43 ∧ k ≠ 40 := by
  unfold typeNameOf at h
  cases hf : typeNames.find? (fun p => p.1 == k) with
  | none => rw [hf] at h; exact absurd rfl h
  | some p =>
    have hm := List.mem_of_find?_eq_some hf
    have hk := List.find?_some hf
    have : ∀ p ∈ typeNames, 2 ≤ p.1 ∧ p.1 ≤ 43 ∧ p.1 ≠ 40 := by decide
    have e : p.1 = k := by simpa using hk
    rw [← e]
    exact this p hm

set_option maxHeartbeats 2000000 in
set_option maxRecDepth 100000 in
theorem typeName_any (k : Int) (w : World) :
    Calls Tryz.prog 16 #[.int .i64 k] w fun e w' => e = .returned (.string (typeNameOf k)) ∧ Below w.heap.size w w' := by
  have hmm := @run_makeMap Tryz.prog
  have hS := Lib.hid (MapJ.made w)
  go_enter Tryz.func16, Tryz.ntmps16
  iterate 39 (go_wp2_with fail; ((with_reducible refine upon_insJ hS.out Tryz.underlying78 Tryz.underlying3 ?_ ?_)); rfl; clear hS; intro w2 hS0; have hS := Lib.hid hS0; clear hS0)
  change Hid (MapJ w w2 w.heap.size (typeNames.map fun p => (p.1, Value.string p.2))) at hS
  have hrun := run_lookI Tryz.underlying78 Tryz.underlying3 hS.out.2.2 _ (zero_str _) k
  have hval : (lookI (typeNames.map fun p => (p.1, Value.string p.2)) k).getD (.string ⟨#[]⟩) = .string (typeNameOf k) := by
    rw [lookI_texts]
    unfold typeNameOf
    cases (typeNames.find? (fun p => p.1 == k)) <;> rfl
  rw [hval] at hrun
  have HB2 := Lib.hid hS.out.1
  clear hval
  go_wp2
  clear hS hrun
  go_ret
  exact ⟨rfl, HB2.out⟩

set_option maxHeartbeats 4000000 in
set_option maxRecDepth 100000 in
theorem holds_any (t : Tr) : ∀ (v : Value) (N g : Nat) (w : World), NodeIn w (· < N) t v → N ≤ w.heap.size → w.heap[g]? = some (.cells #[.int .i64 13] 3 (0, 0)) →
    Calls Tryz.prog 17 #[v, .slice (some ⟨g, 0, none⟩) 1 1] w fun e w' => ∃ b, e = .returned (.bool b) ∧ (b = false → NoB t) ∧ Below w.heap.size w w' := by
  induction t using Tr.ind with
  | h k x m n ks ih =>
    intro v N g w hv hN hg
    obtain ⟨k', x', m', n', ks', a1, c1, heq, rfl⟩ := hv.form
    cases heq
    obtain ⟨_, hl, _⟩ := hv.len
    have HK1 := Lib.hid hv.kidsAt
    have HI := Lib.hid ih
    have hb0 : Below w.heap.size w (w.alloc (.cells #[.int .i64 k, .string x, .string m, .int .u64 n, .slice a1 ks.length c1] 25)) := (Below.refl _ w).alloc (Nat.le_refl _) _
    have hx1 : BoxAt w.heap.size k x m n a1 ks.length c1 (w.alloc (.cells #[.int .i64 k, .string x, .string m, .int .u64 n, .slice a1 ks.length c1] 25)) := heap_alloc_new w _
    have hgl := (Array.getElem?_eq_some_iff.1 hg).1
    have hin : Calls Tryz.prog 26 #[.int .i64 k, .slice (some ⟨g, 0, none⟩) 1 1] (w.alloc (.cells #[.int .i64 k, .string x, .string m, .int .u64 n, .slice a1 ks.length c1] 25)) fun e w' => e = .returned (.bool (decide (k ∈ ([13] : List Int)))) ∧ w' = w.alloc (.cells #[.int .i64 k, .string x, .string m, .int .u64 n, .slice a1 ks.length c1] 25) := in_some k [13] g (w.alloc (.cells #[.int .i64 k, .string x, .string m, .int .u64 n, .slice a1 ks.length c1] 25)) ((hb0.block _ hgl).trans hg) (by decide)
    have HB0 := Lib.hid hb0
    have HX1 := Lib.hid hx1
    have HG := Lib.hid hg
    have HGL := Lib.hid hgl
    have HIN0 := Lib.hid hin
    have HQ : Hid (k ≠ 13 → (∀ y ∈ ks.take ks.length, NoB y) → NoB (.mk k x m n ks)) := Lib.hid fun h1 h2 => .mk h1 (by rw [List.take_length] at h2; exact h2)
    unfold nodeU
    clear hv ih hb0 hx1 hg hgl hin
    by_cases h13 : k = 13
    · subst h13
      go_enter Tryz.func17, Tryz.ntmps17
      go_wp2_with fail
      ((with_reducible refine HIN0.out.mono ?_))
      rintro e w1 ⟨rfl, rfl⟩
      go_wp2
      go_ret
      exact ⟨true, rfl, (fun h => by cases h), HB0.out⟩
    have hd : decide (k ∈ ([13] : List Int)) = false := by simp [h13]
    rw [hd] at HIN0
    go_enter Tryz.func17, Tryz.ntmps17
    go_wp2_with fail
    ((with_reducible refine HIN0.out.mono ?_))
    rintro e w1 ⟨rfl, rfl⟩
    go_wp2
    go_loopw [14] (fun i wr => ∃ j : Nat, i = .int .i64 j ∧ j ≤ ks.length ∧ Hid (∀ y ∈ ks.take j, NoB y) ∧ Hid (Below w.heap.size w wr)) (fun i _ => ks.length - (intOf i).toNat)
    case atStart => exact ⟨0, rfl, Nat.zero_le _, Lib.hid (fun y hy => by cases hy), HB0⟩
    case round =>
      obtain ⟨j, rfl, hj, HNB, HB⟩ := hrel
      by_cases hlt : j < ks.length
      · obtain ⟨b1, o1, rfl, _, hkid1⟩ := HK1.out (by omega)
        obtain ⟨e1, g1, hin1, d0, d1, d2, d3, d4⟩ := hkid1 wr (Keep.of_below HB.out hN) j hlt
        have HIN := Lib.hid hin1
        have HIK := Lib.hid (HI.out ks[j] (List.getElem_mem hlt))
        have HNX : Hid (NoB ks[j] → ∀ y ∈ ks.take (j + 1), NoB y) := Lib.hid fun h y hy => by
          rw [List.take_succ_eq_append_getElem hlt] at hy
          rcases List.mem_append.1 hy with hy | hy
          · exact HNB.out y hy
          · rw [List.mem_singleton] at hy
            rw [hy]
            exact h
        clear hkid1 hin1
        generalize ks[j] = q at *
        have hi1 : (j : Int) < ks.length := by omega
        have hi0 : (0 : Int) ≤ j := by omega
        have hbq := (Below.refl wr.heap.size wr).alloc (Nat.le_refl _) (.cells #[.int .i64 q.kind, .string q.text, .string q.more, .int .u64 q.num, .slice e1 q.kids.length g1] 25)
        have hih := HIK.out _ N g _ (HIN.out.keep (Keep.of_below hbq (Nat.le_trans hN HB.out.size))) (Nat.le_trans (Nat.le_trans hN HB.out.size) hbq.size) ((hbq.block _ (Nat.lt_of_lt_of_le HGL.out HB.out.size)).trans ((HB.out.block _ HGL.out).trans HG.out))
        unfold nodeU at hih
        have HIH := Lib.hid hih
        have HBQ := Lib.hid (HB.out.trans (hbq.mono HB.out.size))
        clear hih hbq
        go_wp2_with fail
        ((with_reducible refine HIH.out.mono ?_))
        rintro e w4 ⟨b, rfl, hnb, hb4⟩
        have HB4 := Lib.hid (HBQ.out.trans (hb4.mono HBQ.out.size))
        clear hb4 d0 d1 d2 d3 d4
        cases b with
        | true =>
          clear hnb
          go_wp2
          go_ret
          exact ⟨true, rfl, (fun h => by cases h), HB4.out⟩
        | false =>
          have HN4 := Lib.hid (HNX.out (hnb rfl))
          clear hnb
          go_wp2
          go_roundw
          case rel => exact ⟨j + 1, by go_num, by omega, HN4, HB4⟩
          case measure => simp [intOf]; omega
      · have hje : j = ks.length := by omega
        subst hje
        go_wp2
        go_ret
        exact ⟨false, rfl, (fun _ => HQ.out h13 HNB.out), HB.out⟩

/-- Some boolean is returned. -/
def SomeB (w : World) (e : Ending) (w' : World) : Prop := ∃ b, e = .returned (.bool b) ∧ Below w.heap.size w w'

set_option maxHeartbeats 4000000 in
theorem literal41 (x m : ByteArray) (n : Int) (a : Option Addr) (l c : Nat) (w : World) :
    Calls Tryz.prog 27 #[.agg #[.int .i64 41, .string x, .string m, .int .u64 n, .slice a l c]] w (SomeB w) := by
  have HB := Lib.hid ((Below.refl w.heap.size w).alloc (Nat.le_refl _) (.cells #[.int .i64 41, .string x, .string m, .int .u64 n, .slice a l c] 25))
  go_enter Tryz.func27, Tryz.ntmps27
  by_cases h1 : wrap64 n > -8000000000000000000
  · by_cases h2 : wrap64 n < 7000000000000000000
    · go_wp2
      go_ret
      exact ⟨_, rfl, HB.out⟩
    · go_wp2
      go_ret
      exact ⟨_, rfl, HB.out⟩
  · go_wp2
    go_ret
    exact ⟨_, rfl, HB.out⟩

set_option maxHeartbeats 4000000 in
theorem literal42 (x m : ByteArray) (hx : x.size ≤ 300) (n : Int) (a : Option Addr) (l c : Nat) (w : World) :
    Calls Tryz.prog 27 #[.agg #[.int .i64 42, .string x, .string m, .int .u64 n, .slice a l c]] w (SomeB w) := by
  have HB := Lib.hid ((Below.refl w.heap.size w).alloc (Nat.le_refl _) (.cells #[.int .i64 42, .string x, .string m, .int .u64 n, .slice a l c] 25))
  have ht : x.size ≤ 2147483647 := by omega
  go_enter Tryz.func27, Tryz.ntmps27
  go_wp2_with fail
  ((with_reducible refine (plainPattern_any x ht _).mono ?_))
  rintro e w1 ⟨b, rfl, _, rfl⟩
  go_wp2
  go_ret
  exact ⟨b, rfl, HB.out⟩

/-- Texts of a tree are short. -/
def TextsS (t : Tr) : Prop := t.text.size ≤ 300

set_option maxHeartbeats 8000000 in
set_option maxRecDepth 100000 in
theorem plainAny (t : Tr) : ∀ (v : Value) (N : Nat) (w : World), FitsT t → NodeIn w (· < N) t v → N ≤ w.heap.size →
    Calls Tryz.prog 18 #[v] w (SomeB w) := by
  induction t using Tr.ind with
  | h k x m n ks ih =>
    intro v N w hf hv hN
    obtain ⟨k', x', m', n', ks', a1, c1, heq, rfl⟩ := hv.form
    cases heq
    obtain ⟨_, hl, _⟩ := hv.len
    have hks : ∀ y ∈ ks, FitsT y := by
      cases hf with
      | none => intro y hy; cases hy
      | node _ _ _ h _ => exact h
    have hx3 : x.size ≤ 300 := by
      cases hf with
      | none => decide
      | node _ h _ _ _ => exact h.1.2.2.2.1
    have HK1 := Lib.hid hv.kidsAt
    have HI := Lib.hid ih
    have HS := Lib.hid hks
    have hb0 : Below w.heap.size w (w.alloc (.cells #[.int .i64 k, .string x, .string m, .int .u64 n, .slice a1 ks.length c1] 25)) := (Below.refl _ w).alloc (Nat.le_refl _) _
    have hx1 : BoxAt w.heap.size k x m n a1 ks.length c1 (w.alloc (.cells #[.int .i64 k, .string x, .string m, .int .u64 n, .slice a1 ks.length c1] 25)) := heap_alloc_new w _
    have HB0 := Lib.hid hb0
    have HX1 := Lib.hid hx1
    have HL : Hid (k = 41 ∨ k = 42 → Calls Tryz.prog 27 #[.agg #[.int .i64 k, .string x, .string m, .int .u64 n, .slice a1 ks.length c1]] (w.alloc (.cells #[.int .i64 k, .string x, .string m, .int .u64 n, .slice a1 ks.length c1] 25)) (SomeB (w.alloc (.cells #[.int .i64 k, .string x, .string m, .int .u64 n, .slice a1 ks.length c1] 25)))) := Lib.hid fun h => by
      rcases h with rfl | rfl
      · exact literal41 _ _ _ _ _ _ _
      · exact literal42 _ _ hx3 _ _ _ _ _
    unfold nodeU
    clear hv ih hb0 hx1 hks hf hx3
    go_enter Tryz.func18, Tryz.ntmps18
    have HGO : Hid (∀ W, Below w.heap.size w W → True) := Lib.hid fun _ _ => trivial
    by_cases h4 : k = 41 ∨ k = 42
    · have HLL := Lib.hid (HL.out h4)
      rcases h4 with rfl | rfl
      all_goals
        go_wp2_with fail
        ((with_reducible refine HLL.out.mono ?_))
        rintro e w1 ⟨b, rfl, hb1⟩
        have HB1 := Lib.hid (HB0.out.trans (hb1.mono HB0.out.size))
        have HY1 := Lib.hid ((HX1.out.below hb1))
        obtain ⟨p0, p1, p2, p3, p4⟩ := HY1.out.five
        clear hb1
        cases b with
        | false =>
          go_wp2
          go_ret
          exact ⟨false, rfl, HB1.out⟩
        | true =>
          go_wp2
          go_loopw [21] (fun i wr => ∃ j : Nat, i = .int .i64 j ∧ j ≤ ks.length ∧ Hid (Below w.heap.size w wr)) (fun i _ => ks.length - (intOf i).toNat)
          case atStart => exact ⟨0, rfl, Nat.zero_le _, HB1⟩
          case round =>
            obtain ⟨j, rfl, hj, HB⟩ := hrel
            by_cases hlt : j < ks.length
            · obtain ⟨b1, o1, rfl, _, hkid1⟩ := HK1.out (by omega)
              obtain ⟨e1, g1, hin1, d0, d1, d2, d3, d4⟩ := hkid1 wr (Keep.of_below HB.out hN) j hlt
              have HQS := Lib.hid (HS.out ks[j] (List.getElem_mem hlt))
              have HIN := Lib.hid hin1
              have HIK := Lib.hid (HI.out ks[j] (List.getElem_mem hlt))
              clear hkid1 hin1
              generalize ks[j] = q at *
              have hi1 : (j : Int) < ks.length := by omega
              have hi0 : (0 : Int) ≤ j := by omega
              have hbq := (Below.refl wr.heap.size wr).alloc (Nat.le_refl _) (.cells #[.int .i64 q.kind, .string q.text, .string q.more, .int .u64 q.num, .slice e1 q.kids.length g1] 25)
              have hih := HIK.out _ N _ HQS.out (HIN.out.keep (Keep.of_below hbq (Nat.le_trans hN HB.out.size))) (Nat.le_trans (Nat.le_trans hN HB.out.size) hbq.size)
              unfold nodeU at hih
              have HIH := Lib.hid hih
              have HBQ := Lib.hid (HB.out.trans (hbq.mono HB.out.size))
              clear hih hbq
              go_wp2_with fail
              ((with_reducible refine HIH.out.mono ?_))
              rintro e w4 ⟨b, rfl, hb4⟩
              have HB4 := Lib.hid (HBQ.out.trans (hb4.mono HBQ.out.size))
              clear hb4 d0 d1 d2 d3 d4
              cases b with
              | false =>
                go_wp2
                go_ret
                exact ⟨false, rfl, HB4.out⟩
              | true =>
                go_wp2
                go_roundw
                case rel => exact ⟨j + 1, by go_num, by omega, HB4⟩
                case measure => simp [intOf]; omega
            · go_wp2
              go_ret
              exact ⟨true, rfl, HB.out⟩
    · have h41 : (k == 41) = false := beq_eq_false_iff_ne.2 (by omega)
      have h42 : (k == 42) = false := beq_eq_false_iff_ne.2 (by omega)
      go_wp2
      go_loopw [21] (fun i wr => ∃ j : Nat, i = .int .i64 j ∧ j ≤ ks.length ∧ Hid (Below w.heap.size w wr)) (fun i _ => ks.length - (intOf i).toNat)
      case atStart => exact ⟨0, rfl, Nat.zero_le _, HB0⟩
      case round =>
        obtain ⟨j, rfl, hj, HB⟩ := hrel
        by_cases hlt : j < ks.length
        · obtain ⟨b1, o1, rfl, _, hkid1⟩ := HK1.out (by omega)
          obtain ⟨e1, g1, hin1, d0, d1, d2, d3, d4⟩ := hkid1 wr (Keep.of_below HB.out hN) j hlt
          have HQS := Lib.hid (HS.out ks[j] (List.getElem_mem hlt))
          have HIN := Lib.hid hin1
          have HIK := Lib.hid (HI.out ks[j] (List.getElem_mem hlt))
          clear hkid1 hin1
          generalize ks[j] = q at *
          have hi1 : (j : Int) < ks.length := by omega
          have hi0 : (0 : Int) ≤ j := by omega
          have hbq := (Below.refl wr.heap.size wr).alloc (Nat.le_refl _) (.cells #[.int .i64 q.kind, .string q.text, .string q.more, .int .u64 q.num, .slice e1 q.kids.length g1] 25)
          have hih := HIK.out _ N _ HQS.out (HIN.out.keep (Keep.of_below hbq (Nat.le_trans hN HB.out.size))) (Nat.le_trans (Nat.le_trans hN HB.out.size) hbq.size)
          unfold nodeU at hih
          have HIH := Lib.hid hih
          have HBQ := Lib.hid (HB.out.trans (hbq.mono HB.out.size))
          clear hih hbq
          go_wp2_with fail
          ((with_reducible refine HIH.out.mono ?_))
          rintro e w4 ⟨b, rfl, hb4⟩
          have HB4 := Lib.hid (HBQ.out.trans (hb4.mono HBQ.out.size))
          clear hb4 d0 d1 d2 d3 d4
          cases b with
          | false =>
            go_wp2
            go_ret
            exact ⟨false, rfl, HB4.out⟩
          | true =>
            go_wp2
            go_roundw
            case rel => exact ⟨j + 1, by go_num, by omega, HB4⟩
            case measure => simp [intOf]; omega
        · go_wp2
          go_ret
          exact ⟨true, rfl, HB.out⟩

set_option maxHeartbeats 4000000 in
set_option maxRecDepth 100000 in
theorem walked_any (tr : Tr) (v : Value) (N : Nat) (w : World) (hv : NodeIn w (· < N) tr v) (hN : N ≤ w.heap.size) (hT : Lib.Utf8Tabs 1 2 w) :
    Calls Tryz.prog 7 #[v] w (YesB (AstT tr ∧ tr.count ≤ 400) w) := by
  have hlies : Lies tr := ⟨w, _, v, hv⟩
  have HEND : Hid (FitsT tr → tr.count ≤ 400 → typeNameOf tr.kind ≠ ⟨#[]⟩ → NoB tr → AstT tr ∧ tr.count ≤ 400) := Lib.hid fun h1 h2 h3 h4 => ⟨fits_ast tr hlies h1 h4 (by
    obtain ⟨a, b, c⟩ := typeName_kinds h3
    exact ⟨a, b, h4.kind, c⟩), h2⟩
  clear hlies
  obtain ⟨k, x, m, n, ks, a1, c1, rfl, rfl⟩ := hv.form
  have hb0 : Below w.heap.size w (w.alloc (.cells #[.int .i64 k, .string x, .string m, .int .u64 n, .slice a1 ks.length c1] 25)) := (Below.refl _ w).alloc (Nat.le_refl _) _
  have hx0 : BoxAt w.heap.size k x m n a1 ks.length c1 (w.alloc (.cells #[.int .i64 k, .string x, .string m, .int .u64 n, .slice a1 ks.length c1] 25)) := heap_alloc_new w _
  have hF := Fits_any _ _ N _ (hv.keep (Keep.of_below hb0 hN)) (Nat.le_trans hN hb0.size) (Utf8Tabs_below hT hb0)
  have HNO : Hid (∀ w', Below w.heap.size w w' → YesB (AstT (.mk k x m n ks) ∧ (Tr.mk k x m n ks).count ≤ 400) w (.returned (.bool false)) w') := Lib.hid fun w' h => ⟨false, rfl, (fun h => by cases h), h⟩
  have HH : Hid (∀ W g, Below w.heap.size w W → W.heap[g]? = some (.cells #[.int .i64 13] 3 (0, 0)) → Calls Tryz.prog 17 #[nodeU k x m n a1 ks.length c1, .slice (some ⟨g, 0, none⟩) 1 1] W fun e w' => ∃ b, e = .returned (.bool b) ∧ (b = false → NoB (.mk k x m n ks)) ∧ Below W.heap.size W w') := Lib.hid fun W g hb hg => holds_any _ _ N g W (hv.keep (Keep.of_below hb hN)) (Nat.le_trans hN hb.size) hg
  have HPL : Hid (∀ W, FitsT (.mk k x m n ks) → Below w.heap.size w W → Calls Tryz.prog 18 #[nodeU k x m n a1 ks.length c1] W (SomeB W)) := Lib.hid fun W hf hb => plainAny _ _ N W hf (hv.keep (Keep.of_below hb hN)) (Nat.le_trans hN hb.size)
  have HTN := Lib.hid (typeName_any k)
  unfold nodeU at hF HH HPL ⊢
  have HB0 := Lib.hid hb0
  have HX0 := Lib.hid hx0
  have HF := Lib.hid hF
  have HEND2 : Hid (FitsT (.mk k x m n ks) → (Tr.mk k x m n ks).count ≤ 400 → typeNameOf k ≠ ⟨#[]⟩ → NoB (.mk k x m n ks) → AstT (.mk k x m n ks) ∧ (Tr.mk k x m n ks).count ≤ 400) := Lib.hid HEND.out
  clear hv hT hb0 hx0 hF HEND
  go_enter Tryz.func7, Tryz.ntmps7
  by_cases h0 : k = 0
  · subst h0
    go_wp2
    go_ret
    exact HNO.out _ HB0.out
  by_cases h1 : k = 1
  · subst h1
    go_wp2
    go_ret
    exact HNO.out _ HB0.out
  have h0b : (k == 0) = false := beq_eq_false_iff_ne.2 h0
  have h1b : (k == 1) = false := beq_eq_false_iff_ne.2 h1
  have h0c : (k != 0) = true := by simp [bne, h0b]
  have h1c : (k != 1) = true := by simp [bne, h1b]
  go_wp2_with fail
  ((with_reducible refine HF.out.mono ?_))
  rintro e w1 ⟨b, rfl, hb, hb1⟩
  have HB1 := Lib.hid (HB0.out.trans (hb1.mono HB0.out.size))
  have HX1 := Lib.hid (HX0.out.below hb1)
  obtain ⟨c0, c1', c2, c3, c4⟩ := HX1.out.five
  clear hb1
  cases b with
  | false =>
    go_wp2
    go_ret
    exact HNO.out _ HB1.out
  | true =>
    have HBF := Lib.hid (hb rfl)
    clear hb
    go_wp2_with fail
    ((with_reducible refine (HTN.out _).mono ?_))
    rintro e w2 ⟨rfl, hb2⟩
    have HB2 := Lib.hid (HB1.out.trans (hb2.mono HB1.out.size))
    have HX2 := Lib.hid (HX1.out.below hb2)
    clear c0 c1' c2 c3 c4 hb2
    obtain ⟨c0, c1', c2, c3, c4⟩ := HX2.out.five
    by_cases hn : typeNameOf k = ⟨#[]⟩
    · rw [hn]
      go_wp2
      go_ret
      exact HNO.out _ HB2.out
    · have hnb := text_nel (l := []) hn
      have hne : (typeNameOf k).toList.isEmpty = false := by cases h : (typeNameOf k).toList with | nil => rw [h] at hnb; simp at hnb | cons a l => rfl
      have hbh : Below w.heap.size w (w2.alloc (.cells #[.int .i64 13] 3)) := HB2.out.alloc HB2.out.size _
      have HHC := Lib.hid (HH.out _ w2.heap.size hbh (heap_alloc_new w2 _))
      have HBH := Lib.hid hbh
      clear hbh
      go_wp2_with fail
      ((with_reducible refine HHC.out.mono ?_))
      rintro e w3 ⟨b, rfl, hnb3, hb3⟩
      have HB3 := Lib.hid (HBH.out.trans (hb3.mono HBH.out.size))
      have HX3 := Lib.hid ((HX2.out.below ((Below.refl w2.heap.size w2).alloc (Nat.le_refl _) (.cells #[.int .i64 13] 3))).below hb3)
      clear c0 c1' c2 c3 c4 hb3
      obtain ⟨c0, c1', c2, c3, c4⟩ := HX3.out.five
      cases b with
      | true =>
        clear hnb3
        go_wp2
        go_ret
        exact HNO.out _ HB3.out
      | false =>
        have HNB := Lib.hid (hnb3 rfl)
        have HPC := Lib.hid (HPL.out w3 HBF.out.1 HB3.out)
        clear hnb3
        go_wp2_with fail
        ((with_reducible refine HPC.out.mono ?_))
        rintro e w4 ⟨b, rfl, hb4⟩
        have HB4 := Lib.hid (HB3.out.trans (hb4.mono HB3.out.size))
        clear hb4
        cases b with
        | false =>
          go_wp2
          go_ret
          exact HNO.out _ HB4.out
        | true =>
          have HE := Lib.hid (HEND2.out HBF.out.1 HBF.out.2 hn HNB.out)
          go_wp2
          go_ret
          exact ⟨true, rfl, fun _ => HE.out, HB4.out⟩

end Go.Proofs.YtkohgndmhgcgeaaGreatDoor
