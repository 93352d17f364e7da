/- spec.ofClass and what it rests on: what a yes says. spec.listOf and spec.ofClass at every class: what a yes says. -/
import Derived.Test.YtkohgndmhgcgeaaGreatDoorPlain
import Derived.Deep.DeepCutAuto
namespace Go.Proofs.YtkohgndmhgcgeaaGreatDoor
open Go Go.RowKit
set_option linter.unusedVariables false
set_option linter.unusedSimpArgs false

set_option maxHeartbeats 1000000 in
theorem isExpr_any (k : Int) (w : World) : Calls Tryz.prog 81 #[.int .i64 k] w (YesB (exprB k) w) := by
  have HF : Hid (∀ w', Below w.heap.size w w' → YesB (exprB k) w (.returned (.bool false)) w') := Lib.hid fun w' h => ⟨false, rfl, (fun h => by cases h), h⟩
  by_cases h1 : 16 ≤ k
  · by_cases h2 : k ≤ 43
    · have HI := Lib.hid (show Calls Tryz.prog 26 #[.int .i64 k, .slice (some ⟨w.heap.size, 0, none⟩) 4 4] _ _ from in_some k [29, 31, 32, 40] w.heap.size (w.alloc (.cells #[.int .i64 29, .int .i64 31, .int .i64 32, .int .i64 40] 3)) (heap_alloc_new w _) (by decide))
      have hb : Below w.heap.size w (w.alloc (.cells #[.int .i64 29, .int .i64 31, .int .i64 32, .int .i64 40] 3)) := (Below.refl _ w).alloc (Nat.le_refl _) _
      have HB := Lib.hid hb
      clear hb
      go_enter Tryz.func81, Tryz.ntmps81
      go_wp2_with fail
      ((with_reducible refine HI.out.mono ?_))
      rintro e w1 ⟨rfl, rfl⟩
      cases hd : decide (k ∈ ([29, 31, 32, 40] : List Int)) with
      | true =>
        go_wp2
        go_ret
        exact HF.out _ HB.out
      | false =>
        have HP : Hid (exprB k) := Lib.hid (by simp at hd; exact ⟨h1, h2, hd.1, hd.2.1, hd.2.2.1, hd.2.2.2⟩)
        clear hd
        go_wp2
        go_ret
        exact ⟨true, rfl, fun _ => HP.out, HB.out⟩
    · have h2' : decide (k ≤ 43) = false := by simpa using h2
      go_enter Tryz.func81, Tryz.ntmps81
      go_wp2
      go_ret
      exact HF.out _ (Below.refl _ _)
  · have h1' : decide (16 ≤ k) = false := by simpa using h1
    go_enter Tryz.func81, Tryz.ntmps81
    go_wp2
    go_ret
    exact HF.out _ (Below.refl _ _)

set_option maxHeartbeats 1000000 in
theorem isStmt_any (k : Int) (w : World) : Calls Tryz.prog 82 #[.int .i64 k] w (YesB (stmtB k) w) := by
  have HF : Hid (YesB (stmtB k) w (.returned (.bool false)) w) := Lib.hid ⟨false, rfl, (fun h => by cases h), Below.refl _ _⟩
  by_cases h1 : 7 ≤ k
  · by_cases h2 : k ≤ 15
    · have h2' : decide (k ≤ 15) = true := by simpa using h2
      have HP : Hid (stmtB k) := Lib.hid ⟨h1, h2⟩
      go_enter Tryz.func82, Tryz.ntmps82
      go_wp2
      go_ret
      exact ⟨true, rfl, fun _ => HP.out, Below.refl _ _⟩
    · have h2' : decide (k ≤ 15) = false := by simpa using h2
      go_enter Tryz.func82, Tryz.ntmps82
      go_wp2
      go_ret
      exact HF.out
  · have h1' : decide (7 ≤ k) = false := by simpa using h1
    go_enter Tryz.func82, Tryz.ntmps82
    go_wp2
    go_ret
    exact HF.out

set_option maxHeartbeats 1000000 in
theorem isType_any (k : Int) (w : World) : Calls Tryz.prog 83 #[.int .i64 k] w (YesB (typeB k) w) := by
  have HI := Lib.hid (show Calls Tryz.prog 26 #[.int .i64 k, .slice (some ⟨w.heap.size, 0, none⟩) 6 6] _ _ from in_some k [45, 46, 47, 48, 49, 51] w.heap.size (w.alloc (.cells #[.int .i64 45, .int .i64 46, .int .i64 47, .int .i64 48, .int .i64 49, .int .i64 51] 3)) (heap_alloc_new w _) (by decide))
  have hb : Below w.heap.size w (w.alloc (.cells #[.int .i64 45, .int .i64 46, .int .i64 47, .int .i64 48, .int .i64 49, .int .i64 51] 3)) := (Below.refl _ w).alloc (Nat.le_refl _) _
  have HB := Lib.hid hb
  clear hb
  go_enter Tryz.func83, Tryz.ntmps83
  go_wp2_with fail
  ((with_reducible refine HI.out.mono ?_))
  rintro e w1 ⟨rfl, rfl⟩
  have HP : Hid (decide (k ∈ ([45, 46, 47, 48, 49, 51] : List Int)) = true → typeB k) := Lib.hid (by unfold typeB; simp)
  generalize decide (k ∈ ([45, 46, 47, 48, 49, 51] : List Int)) = d at *
  go_wp2
  go_ret
  exact ⟨d, rfl, HP.out, HB.out⟩

/-- All kids are of a kind. -/
def KidsAre (t : Tr) (kind : Int) : Prop := ∀ x ∈ t.kids, x.kind = kind

set_option maxHeartbeats 2000000 in
set_option maxRecDepth 100000 in
theorem kidsAre_any (t : Tr) (v : Value) (kind : Int) (N : Nat) (w : World) (hv : NodeIn w (· < N) t v) (hN : N ≤ w.heap.size) :
    Calls Tryz.prog 85 #[v, .int .i64 kind] w (YesB (KidsAre t kind) w) := by
  obtain ⟨k, x, m, n, ks, a, c, rfl, rfl⟩ := hv.form
  obtain ⟨_, hl, _⟩ := hv.len
  have HK := Lib.hid (hv.kidsAt)
  have hbx : (w.alloc (.cells #[.int .i64 k, .string x, .string m, .int .u64 n, .slice a ks.length c] 25)).heap[w.heap.size]? = some (.cells #[.int .i64 k, .string x, .string m, .int .u64 n, .slice a ks.length c] 25 (0, 0)) := heap_alloc_new w _
  have HBX := Lib.hid hbx
  clear hbx hv
  unfold nodeU
  go_enter Tryz.func85, Tryz.ntmps85
  go_wp2
  go_loopw [10] (fun i wr => ∃ j : Nat, i = .int .i64 j ∧ j ≤ ks.length ∧ (∀ y ∈ ks.take j, y.kind = kind) ∧ Below w.heap.size w wr) (fun i _ => ks.length - (intOf i).toNat)
  case atStart => exact ⟨0, rfl, Nat.zero_le _, by simp, (Below.refl _ w).alloc (Nat.le_refl _) _⟩
  case round =>
    obtain ⟨j, rfl, hj, hall, hb⟩ := hrel
    have HB := Lib.hid hb
    have HA := Lib.hid hall
    clear hb hall
    by_cases hlt : j < ks.length
    · obtain ⟨b, o, rfl, hbN, hkid⟩ := HK.out (by omega)
      obtain ⟨a', c', _, d0, d1, d2, d3, d4⟩ := hkid wr (Keep.of_below HB.out hN) j hlt
      have htk := Lib.hid (List.take_succ_eq_append_getElem hlt)
      clear hkid
      generalize ks[j] = q at *
      have hBn := HB.out.alloc HB.out.size (.cells #[.int .i64 q.kind, .string q.text, .string q.more, .int .u64 q.num, .slice a' q.kids.length c'] 25)
      have HBn := Lib.hid hBn
      clear hBn
      by_cases hq : q.kind = kind
      · have hq' : (q.kind != kind) = false := by simpa using hq
        have HQ := Lib.hid hq
        clear hq
        go_wp2
        go_roundw
        case rel => exact ⟨j + 1, by go_num, by omega, by rw [htk.out]; intro y hy; rcases List.mem_append.1 hy with h | h; exact HA.out y h; simp at h; subst h; exact HQ.out, HBn.out⟩
        case measure => simp [intOf]; omega
      · have hq' : (q.kind != kind) = true := by simpa using hq
        go_wp2
        go_ret
        exact ⟨false, rfl, (fun h => by cases h), HBn.out⟩
    · have hall : ∀ y ∈ ks, y.kind = kind := by
        have := HA.out
        rwa [List.take_of_length_le (by omega)] at this
      have HALL := Lib.hid hall
      clear hall
      go_wp2
      go_ret
      exact ⟨true, rfl, fun _ => HALL.out, HB.out⟩

/-- What nodes of a class are: those that are no lists. -/
def FlatC (t : Tr) (c : Int) : Prop :=
  (c = 0 → exprB t.kind) ∧ (c = 1 → stmtB t.kind) ∧ (c = 2 → typeB t.kind) ∧ (c = 7 → t.kind = 6 ∨ exprB t.kind) ∧ (c = 8 → t.kind = 0 ∨ exprB t.kind) ∧ (c ≠ 0 → c ≠ 1 → c ≠ 2 → c ≠ 7 → c ≠ 8 → t.kind ∈ classFew c)

theorem classFew_len (c : Int) : (classFew c).length ≤ 1000 := by
  unfold classFew lookL
  cases h : classInts.find? (fun p => p.1 == c) with
  | none => decide
  | some p =>
    have hm := List.mem_of_find?_eq_some h
    have : ∀ p ∈ classInts, p.2.length ≤ 1000 := by decide
    exact this p hm

set_option maxHeartbeats 4000000 in
set_option maxRecDepth 100000 in
theorem ofClass_flat (t : Tr) (v : Value) (c : Int) (N : Nat) (w : World) (hv : NodeIn w (· < N) t v) (hN : N ≤ w.heap.size) (h16 : c ≠ 16) (h17 : c ≠ 17) (h18 : c ≠ 18) (hc : -9223372036854775808 ≤ c ∧ c ≤ 9223372036854775807) :
    Calls Tryz.prog 60 #[v, .int .i64 c] w (YesB (FlatC t c) w) := by
  obtain ⟨k, x, m, n, ks, a, cc, rfl, rfl⟩ := hv.form
  have HF : Hid (∀ w', Below w.heap.size w w' → YesB (FlatC (.mk k x m n ks) c) w (.returned (.bool false)) w') := Lib.hid fun w' h => ⟨false, rfl, (fun h => by cases h), h⟩
  have hb0 : Below w.heap.size w (w.alloc (.cells #[.int .i64 k, .string x, .string m, .int .u64 n, .slice a ks.length cc] 25)) := (Below.refl _ w).alloc (Nat.le_refl _) _
  have HB := Lib.hid hb0
  have hs : w.heap.size ≤ (w.alloc (.cells #[.int .i64 k, .string x, .string m, .int .u64 n, .slice a ks.length cc] 25)).heap.size := by simp
  have HS := Lib.hid hs
  have n16 : (c == 16) = false := by simpa using h16
  have n17 : (c == 17) = false := by simpa using h17
  have n18 : (c == 18) = false := by simpa using h18
  clear hv hb0 hs h16 h17 h18
  unfold nodeU
  by_cases h0 : c = 0
  · subst h0
    go_enter Tryz.func60, Tryz.ntmps60
    go_wp2_with fail
    ((with_reducible refine (isExpr_any k _).mono ?_))
    rintro e w1 ⟨b, rfl, hb, hb1⟩
    have HP : Hid (b = true → FlatC (.mk k x m n ks) 0) := Lib.hid fun h => ⟨fun _ => hb h, (fun h => by omega), (fun h => by omega), (fun h => by omega), (fun h => by omega), (fun h => absurd rfl h)⟩
    have HB1 := Lib.hid (HB.out.trans (hb1.mono HS.out))
    clear hb hb1
    go_wp2
    go_ret
    exact ⟨b, rfl, HP.out, HB1.out⟩
  have n0 : (c == 0) = false := by simpa using h0
  by_cases h1 : c = 1
  · subst h1
    go_enter Tryz.func60, Tryz.ntmps60
    go_wp2_with fail
    ((with_reducible refine (isStmt_any k _).mono ?_))
    rintro e w1 ⟨b, rfl, hb, hb1⟩
    have HP : Hid (b = true → FlatC (.mk k x m n ks) 1) := Lib.hid fun h => ⟨(fun h => by omega), fun _ => hb h, (fun h => by omega), (fun h => by omega), (fun h => by omega), (fun _ h => absurd rfl h)⟩
    have HB1 := Lib.hid (HB.out.trans (hb1.mono HS.out))
    clear hb hb1
    go_wp2
    go_ret
    exact ⟨b, rfl, HP.out, HB1.out⟩
  have n1 : (c == 1) = false := by simpa using h1
  by_cases h2 : c = 2
  · subst h2
    go_enter Tryz.func60, Tryz.ntmps60
    go_wp2_with fail
    ((with_reducible refine (isType_any k _).mono ?_))
    rintro e w1 ⟨b, rfl, hb, hb1⟩
    have HP : Hid (b = true → FlatC (.mk k x m n ks) 2) := Lib.hid fun h => ⟨(fun h => by omega), (fun h => by omega), fun _ => hb h, (fun h => by omega), (fun h => by omega), (fun _ _ h => absurd rfl h)⟩
    have HB1 := Lib.hid (HB.out.trans (hb1.mono HS.out))
    clear hb hb1
    go_wp2
    go_ret
    exact ⟨b, rfl, HP.out, HB1.out⟩
  have n2 : (c == 2) = false := by simpa using h2
  by_cases h7 : c = 7
  · subst h7
    by_cases hk : k = 6
    · have HP : Hid (FlatC (.mk k x m n ks) 7) := Lib.hid ⟨(fun h => by omega), (fun h => by omega), (fun h => by omega), (fun _ => .inl hk), (fun h => by omega), (fun _ _ _ h => absurd rfl h)⟩
      subst hk
      go_enter Tryz.func60, Tryz.ntmps60
      go_wp2
      go_ret
      exact ⟨true, rfl, fun _ => HP.out, HB.out⟩
    · have hk' : (k == 6) = false := by simpa using hk
      clear hk
      go_enter Tryz.func60, Tryz.ntmps60
      go_wp2_with fail
      ((with_reducible refine (isExpr_any k _).mono ?_))
      rintro e w1 ⟨b, rfl, hb, hb1⟩
      have HP : Hid (b = true → FlatC (.mk k x m n ks) 7) := Lib.hid fun h => ⟨(fun h => by omega), (fun h => by omega), (fun h => by omega), fun _ => .inr (hb h), (fun h => by omega), (fun _ _ _ h => absurd rfl h)⟩
      have HB1 := Lib.hid (HB.out.trans (hb1.mono HS.out))
      clear hb hb1
      go_wp2
      go_ret
      exact ⟨b, rfl, HP.out, HB1.out⟩
  have n7 : (c == 7) = false := by simpa using h7
  by_cases h8 : c = 8
  · subst h8
    by_cases hk : k = 0
    · have HP : Hid (FlatC (.mk k x m n ks) 8) := Lib.hid ⟨(fun h => by omega), (fun h => by omega), (fun h => by omega), (fun h => by omega), (fun _ => .inl hk), (fun _ _ _ _ h => absurd rfl h)⟩
      subst hk
      go_enter Tryz.func60, Tryz.ntmps60
      go_wp2
      go_ret
      exact ⟨true, rfl, fun _ => HP.out, HB.out⟩
    · have hk' : (k == 0) = false := by simpa using hk
      clear hk
      go_enter Tryz.func60, Tryz.ntmps60
      go_wp2_with fail
      ((with_reducible refine (isExpr_any k _).mono ?_))
      rintro e w1 ⟨b, rfl, hb, hb1⟩
      have HP : Hid (b = true → FlatC (.mk k x m n ks) 8) := Lib.hid fun h => ⟨(fun h => by omega), (fun h => by omega), (fun h => by omega), (fun h => by omega), fun _ => .inr (hb h), (fun _ _ _ _ h => absurd rfl h)⟩
      have HB1 := Lib.hid (HB.out.trans (hb1.mono HS.out))
      clear hb hb1
      go_wp2
      go_ret
      exact ⟨b, rfl, HP.out, HB1.out⟩
  have n8 : (c == 8) = false := by simpa using h8
  have HP : Hid (k ∈ classFew c → FlatC (.mk k x m n ks) c) := Lib.hid fun h => ⟨(fun h => absurd h h0), (fun h => absurd h h1), (fun h => absurd h h2), (fun h => absurd h h7), (fun h => absurd h h8), fun _ _ _ _ _ => h⟩
  clear h0 h1 h2 h7 h8
  have hlen := classFew_len c
  have hbox : (w.alloc (.cells #[.int .i64 k, .string x, .string m, .int .u64 n, .slice a ks.length cc] 25)).heap[w.heap.size]? = some (.cells #[.int .i64 k, .string x, .string m, .int .u64 n, .slice a ks.length cc] 25 (0, 0)) := heap_alloc_new w _
  have hkc : ∀ w', Below (w.heap.size + 1) (w.alloc (.cells #[.int .i64 k, .string x, .string m, .int .u64 n, .slice a ks.length cc] 25)) w' → w'.cell? ⟨w.heap.size, 0, none⟩ = some (.int .i64 k) := fun w' h => (h.cell (p := ⟨w.heap.size, 0, none⟩) (by simp)).trans (by rw [Lib.cell_of_heap hbox]; rfl)
  have hkd : ∀ w', Below (w.heap.size + 1) (w.alloc (.cells #[.int .i64 k, .string x, .string m, .int .u64 n, .slice a ks.length cc] 25)).drew w' → w'.cell? ⟨w.heap.size, 0, none⟩ = some (.int .i64 k) := fun w' h => (h.cell (p := ⟨w.heap.size, 0, none⟩) (by simp)).trans (by show (w.alloc (.cells #[.int .i64 k, .string x, .string m, .int .u64 n, .slice a ks.length cc] 25)).cell? _ = _; rw [Lib.cell_of_heap hbox]; rfl)
  have HKC := Lib.hid hkc
  have HKD := Lib.hid hkd
  have HL := Lib.hid hlen
  clear hbox hkc hkd hlen
  go_enter Tryz.func60, Tryz.ntmps60
  go_wp2_with fail
  go_region_held3 (fun w' => w'.cell? ⟨w.heap.size, 0, none⟩ = some (.int .i64 k)) (first | go_keep | (exact HKC.out _ (by simpa using hbA)) | (exact HKD.out _ (by simpa using hbA))) (first | (go_at_call 86; ((with_reducible refine (classKinds_any c _).mono ?_)); rintro e wA ⟨vA, rfl, hvA, hbA⟩) | (go_at_call 26; ((with_reducible refine (in_any k (classFew c) _ _ (by exact hvA.here) HL.out).mono ?_)); rintro e wB ⟨rfl, rfl⟩))
  all_goals
    have hb1 := (Below.drew HB.out).trans (hbA.mono (by simp))
    have HB1 := Lib.hid hb1
    have HQ : Hid (decide (k ∈ classFew c) = true → FlatC (.mk k x m n ks) c) := Lib.hid fun h => HP.out (by simpa using h)
    clear hb1 hbA hvA
    generalize decide (k ∈ classFew c) = d at *
    go_wp2
    go_ret
    exact ⟨d, rfl, HQ.out, HB1.out⟩

/-- A list of nodes of a class. -/
def ListC (t : Tr) (c : Int) : Prop := t.kind = 1 ∧ ∀ x ∈ t.kids, FlatC x c

set_option maxHeartbeats 2000000 in
set_option maxRecDepth 100000 in
theorem listOf_any (t : Tr) (v : Value) (c : Int) (N : Nat) (w : World) (hv : NodeIn w (· < N) t v) (hN : N ≤ w.heap.size) (hc : c = 1 ∨ c = 21) :
    Calls Tryz.prog 84 #[v, .int .i64 c] w (YesB (ListC t c) w) := by
  obtain ⟨k, x, m, n, ks, a, cc, rfl, rfl⟩ := hv.form
  obtain ⟨_, hl, _⟩ := hv.len
  have HK := Lib.hid (hv.kidsAt)
  have hb0 : Below w.heap.size w (w.alloc (.cells #[.int .i64 k, .string x, .string m, .int .u64 n, .slice a ks.length cc] 25)) := (Below.refl _ w).alloc (Nat.le_refl _) _
  have HB0 := Lib.hid hb0
  have HC : Hid (c = 1 ∨ c = 21) := Lib.hid hc
  clear hv hb0 hc
  unfold nodeU
  by_cases hk : k = 1
  · have hk' : (k != 1) = false := by simpa using hk
    have HK1 := Lib.hid hk
    clear hk
    go_enter Tryz.func84, Tryz.ntmps84
    go_wp2
    go_loopw [13] (fun i wr => ∃ j : Nat, i = .int .i64 j ∧ j ≤ ks.length ∧ (∀ y ∈ ks.take j, FlatC y c) ∧ Below w.heap.size w wr) (fun i _ => ks.length - (intOf i).toNat)
    case atStart => exact ⟨0, rfl, Nat.zero_le _, by simp, HB0.out⟩
    case round =>
      obtain ⟨j, rfl, hj, hall, hb⟩ := hrel
      have HB := Lib.hid hb
      have HA := Lib.hid hall
      clear hb hall
      by_cases hlt : j < ks.length
      · obtain ⟨b, o, rfl, hbN, hkid⟩ := HK.out (by omega)
        obtain ⟨a', c', hin, d0, d1, d2, d3, d4⟩ := hkid wr (Keep.of_below HB.out hN) j hlt
        have htk := Lib.hid (List.take_succ_eq_append_getElem hlt)
        clear hkid
        generalize ks[j] = q at *
        have hBn := HB.out.alloc HB.out.size (.cells #[.int .i64 q.kind, .string q.text, .string q.more, .int .u64 q.num, .slice a' q.kids.length c'] 25)
        have HBn := Lib.hid hBn
        have hin2 := hin.keep (Keep.of_below ((Below.refl wr.heap.size wr).alloc (Nat.le_refl _) (.cells #[.int .i64 q.kind, .string q.text, .string q.more, .int .u64 q.num, .slice a' q.kids.length c'] 25)) (Nat.le_trans hN HB.out.size))
        have hcl := ofClass_flat q _ c N _ hin2 (by have := HB.out.size; simp; omega) (by have := HC.out; omega) (by have := HC.out; omega) (by have := HC.out; omega) (by have := HC.out; omega)
        unfold nodeU at hcl
        have HCL := Lib.hid hcl
        clear hBn hin hin2 hcl
        go_wp2_with fail
        ((with_reducible refine HCL.out.mono ?_))
        rintro e w2 ⟨bb, rfl, hbb, hb2⟩
        have HB2 := Lib.hid (HBn.out.trans (hb2.mono HBn.out.size))
        have HBB := Lib.hid hbb
        clear hb2 hbb
        cases bb with
        | false =>
          go_wp2
          go_ret
          exact ⟨false, rfl, (fun h => by cases h), HB2.out⟩
        | true =>
          have HB3 := Lib.hid (HBB.out rfl)
          clear HBB
          go_wp2
          go_roundw
          case rel => exact ⟨j + 1, by go_num, by omega, by rw [htk.out]; intro y hy; rcases List.mem_append.1 hy with h | h; exact HA.out y h; simp at h; subst h; exact HB3.out, HB2.out⟩
          case measure => simp [intOf]; omega
      · have hall : ∀ y ∈ ks, FlatC y c := by
          have := HA.out
          rwa [List.take_of_length_le (by omega)] at this
        have HALL : Hid (ListC (.mk k x m n ks) c) := Lib.hid ⟨HK1.out, hall⟩
        clear hall
        go_wp2
        go_ret
        exact ⟨true, rfl, fun _ => HALL.out, HB.out⟩
  · have hk' : (k != 1) = true := by simpa using hk
    go_enter Tryz.func84, Tryz.ntmps84
    go_wp2
    go_ret
    exact ⟨false, rfl, (fun h => by cases h), HB0.out⟩

/-- What nodes of a class are. -/
def ClassP (t : Tr) (c : Int) : Prop :=
  (c = 16 → ListC t 21) ∧ (c = 17 → t.kind = 1 ∧ KidsAre t 5) ∧ (c = 18 → ListC t 1) ∧ (c ≠ 16 → c ≠ 17 → c ≠ 18 → FlatC t c)

set_option maxHeartbeats 2000000 in
set_option maxRecDepth 100000 in
theorem ofClass_any (t : Tr) (v : Value) (c : Int) (N : Nat) (w : World) (hv : NodeIn w (· < N) t v) (hN : N ≤ w.heap.size) (hc : -9223372036854775808 ≤ c ∧ c ≤ 9223372036854775807) :
    Calls Tryz.prog 60 #[v, .int .i64 c] w (YesB (ClassP t c) w) := by
  by_cases hflat : c ≠ 16 ∧ c ≠ 17 ∧ c ≠ 18
  · refine (ofClass_flat t v c N w hv hN hflat.1 hflat.2.1 hflat.2.2 hc).mono ?_
    rintro e w' ⟨b, rfl, hb, hb1⟩
    exact ⟨b, rfl, fun h => ⟨fun h => absurd h hflat.1, fun h => absurd h hflat.2.1, fun h => absurd h hflat.2.2, fun _ _ _ => hb h⟩, hb1⟩
  obtain ⟨k, x, m, n, ks, a, cc, rfl, rfl⟩ := hv.form
  have hb0 : Below w.heap.size w (w.alloc (.cells #[.int .i64 k, .string x, .string m, .int .u64 n, .slice a ks.length cc] 25)) := (Below.refl _ w).alloc (Nat.le_refl _) _
  have hin := hv.keep (Keep.of_below hb0 hN)
  have hNa : N ≤ (w.alloc (.cells #[.int .i64 k, .string x, .string m, .int .u64 n, .slice a ks.length cc] 25)).heap.size := by simp; omega
  have hL1 := listOf_any _ _ 1 N _ hin hNa (.inl rfl)
  have hL21 := listOf_any _ _ 21 N _ hin hNa (.inr rfl)
  have hK5 := kidsAre_any _ _ 5 N _ hin hNa
  unfold nodeU at hL1 hL21 hK5 ⊢
  have HL1 := Lib.hid hL1
  have HL21 := Lib.hid hL21
  have HK5 := Lib.hid hK5
  have HB0 := Lib.hid hb0
  have hs : w.heap.size ≤ (w.alloc (.cells #[.int .i64 k, .string x, .string m, .int .u64 n, .slice a ks.length cc] 25)).heap.size := by simp
  have HS := Lib.hid hs
  clear hv hin hL1 hL21 hK5 hb0 hs
  by_cases h16 : c = 16
  · subst h16
    clear hflat
    go_enter Tryz.func60, Tryz.ntmps60
    go_wp2_with fail
    ((with_reducible refine HL21.out.mono ?_))
    rintro e w1 ⟨b, rfl, hb, hb1⟩
    have HP : Hid (b = true → ClassP (.mk k x m n ks) 16) := Lib.hid fun h => ⟨fun _ => hb h, (fun h => by omega), (fun h => by omega), (fun h => absurd rfl h)⟩
    have HB1 := Lib.hid (HB0.out.trans (hb1.mono HS.out))
    clear hb hb1
    go_wp2
    go_ret
    exact ⟨b, rfl, HP.out, HB1.out⟩
  by_cases h17 : c = 17
  · subst h17
    clear hflat h16
    by_cases hk : k = 1
    · have HK1 := Lib.hid hk
      have hk' : (k == 1) = true := by simpa using hk
      clear hk
      go_enter Tryz.func60, Tryz.ntmps60
      go_wp2_with fail
      ((with_reducible refine HK5.out.mono ?_))
      rintro e w1 ⟨b, rfl, hb, hb1⟩
      have HP : Hid (b = true → ClassP (.mk k x m n ks) 17) := Lib.hid fun h => ⟨(fun h => by omega), fun _ => ⟨HK1.out, hb h⟩, (fun h => by omega), (fun _ h => absurd rfl h)⟩
      have HB1 := Lib.hid (HB0.out.trans (hb1.mono HS.out))
      clear hb hb1
      go_wp2
      go_ret
      exact ⟨b, rfl, HP.out, HB1.out⟩
    · have hk' : (k == 1) = false := by simpa using hk
      go_enter Tryz.func60, Tryz.ntmps60
      go_wp2
      go_ret
      exact ⟨false, rfl, (fun h => by cases h), HB0.out⟩
  obtain rfl : c = 18 := by omega
  clear hflat h16 h17
  go_enter Tryz.func60, Tryz.ntmps60
  go_wp2_with fail
  ((with_reducible refine HL1.out.mono ?_))
  rintro e w1 ⟨b, rfl, hb, hb1⟩
  have HP : Hid (b = true → ClassP (.mk k x m n ks) 18) := Lib.hid fun h => ⟨(fun h => by omega), (fun h => by omega), fun _ => hb h, (fun _ _ h => absurd rfl h)⟩
  have HB1 := Lib.hid (HB0.out.trans (hb1.mono HS.out))
  clear hb hb1
  go_wp2
  go_ret
  exact ⟨b, rfl, HP.out, HB1.out⟩

end Go.Proofs.YtkohgndmhgcgeaaGreatDoor
