/- laws.tree, laws.five, laws.aFile. -/
import Derived.Test.YtkohgndmhgcgeaaGreatDoorAstT
import Derived.Test.YtkohgndmhgcgeaaGreatDoorOwnB
import Derived.Deep.RegionHeld3
namespace Go.Proofs.YtkohgndmhgcgeaaGreatDoor
open Go Go.RowKit
set_option linter.unusedVariables false
set_option linter.unusedSimpArgs false

set_option maxHeartbeats 1000000 in
theorem tree_any (k : Int) (t : ByteArray) (a : Option Addr) (n c : Nat) (w : World) :
    Calls Tryz.prog 10 #[.int .i64 k, .string t, .slice a n c] w fun e w' => e = .returned (.agg #[.int .i64 k, .string t, .string ⟨#[]⟩, .int .u64 0, .slice a n c]) ∧ Below w.heap.size w w' := by
  go_enter Tryz.func10, Tryz.ntmps10
  go_wp2
  refine bodyPost_ret (v := .agg #[.int .i64 k, .string t, .string ⟨#[]⟩, .int .u64 0, .slice a n c]) (by simp [results, Tryz.results10, go_sem]) rfl ⟨rfl, ?_⟩
  exact (Below.refl _ w).alloc (Nat.le_refl _) _

set_option maxHeartbeats 1000000 in
theorem five_any (w : World) :
    Calls Tryz.prog 11 #[] w fun e w' => e = .returned (.agg #[.int .i64 36, .string ⟨#[]⟩, .string ⟨#[]⟩, .int .u64 5, .slice none 0 0]) ∧ Below w.heap.size w w' := by
  go_enter Tryz.func11, Tryz.ntmps11
  go_wp2
  refine bodyPost_ret (v := .agg #[.int .i64 36, .string ⟨#[]⟩, .string ⟨#[]⟩, .int .u64 5, .slice none 0 0]) (by simp [results, Tryz.results11, go_sem]) rfl ⟨rfl, ?_⟩
  exact (Below.refl _ w).alloc (Nat.le_refl _) _

def fiveT : Tr := .mk 36 ⟨#[]⟩ ⟨#[]⟩ 5 []
def nameT : Tr := .mk 33 ⟨#[97]⟩ ⟨#[]⟩ 0 []
def setT : Tr := .mk 10 ⟨#[]⟩ ⟨#[]⟩ 0 [nameT, fiveT]
def optT : Tr := .mk 12 ⟨#[]⟩ ⟨#[]⟩ 0 [setT]
def fileT (l : List Tr) : Tr := .mk 3 ⟨#[]⟩ ⟨#[]⟩ 0 [noT, .mk 1 ⟨#[]⟩ ⟨#[]⟩ 0 [], .mk 1 ⟨#[]⟩ ⟨#[]⟩ 0 l]

theorem optT_ast : AstT optT := .k12 setT (.k10 nameT (.k33 _ (by decide) (by decide)) rfl fiveT (.k36 5 (by decide)) (by unfold exprB; decide)) (.inl rfl)
theorem fileT_ast (l : List Tr) (h : ∀ x ∈ l, x = optT) : AstT (fileT l) :=
  .k3 _ (by decide) _ (by decide) noT (fun h => absurd rfl h) (fun _ => rfl) (.inr rfl) [] (fun x hx => by cases hx) (fun x hx => by cases hx) l (fun x hx => by rw [h x hx]; exact optT_ast) (fun x hx => by rw [h x hx]; exact ⟨by unfold stmtB; decide, by decide⟩)

theorem cellsAt_five {w : World} {g o : Nat} {k : Int} {t m : ByteArray} {n : Int} {a : Option Addr} {l c : Nat} (h0 : w.cell? ⟨g, o, none⟩ = some (.int .i64 k)) (h1 : w.cell? ⟨g, o + 1, none⟩ = some (.string t)) (h2 : w.cell? ⟨g, o + 2, none⟩ = some (.string m)) (h3 : w.cell? ⟨g, o + 3, none⟩ = some (.int .u64 n)) (h4 : w.cell? ⟨g, o + 4, none⟩ = some (.slice a l c)) : CellsAt w g o (nodeU k t m n a l c) := fun j hj => by
  have hj5 : j < 5 := hj
  match j, hj5 with
  | 0, _ => exact h0
  | 1, _ => exact h1
  | 2, _ => exact h2
  | 3, _ => exact h3
  | 4, _ => exact h4

theorem NodeIn.over1 {w : World} {B : Nat → Prop} {k : Int} {x : Tr} {v : Value} {g c : Nat} (hk : -9223372036854775808 ≤ k ∧ k ≤ 9223372036854775807) (hc : 1 ≤ c) (hB : B g) (h0 : CellsAt w g 0 v) (hx : NodeIn w B x v) : NodeIn w B (.mk k ⟨#[]⟩ ⟨#[]⟩ 0 [x]) (nodeU k ⟨#[]⟩ ⟨#[]⟩ 0 (some ⟨g, 0, none⟩) 1 c) :=
  .mk (ks := [x]) g 0 (fun _ => v) hk ⟨by decide, by decide⟩ (Nat.zero_le _) (Nat.zero_le _) (show 1 ≤ maxLen by decide) hc (fun _ => ⟨rfl, hB⟩) (fun i hi => by
    obtain rfl : i = 0 := by simpa using hi
    exact h0) (fun i hi => by
    obtain rfl : i = 0 := by simpa using hi
    exact hx)

theorem NodeIn.over2 {w : World} {B : Nat → Prop} {k : Int} {x y : Tr} {v u : Value} {g c : Nat} (hk : -9223372036854775808 ≤ k ∧ k ≤ 9223372036854775807) (hc : 2 ≤ c) (hB : B g) (h0 : CellsAt w g 0 v) (h1 : CellsAt w g 5 u) (hx : NodeIn w B x v) (hy : NodeIn w B y u) : NodeIn w B (.mk k ⟨#[]⟩ ⟨#[]⟩ 0 [x, y]) (nodeU k ⟨#[]⟩ ⟨#[]⟩ 0 (some ⟨g, 0, none⟩) 2 c) :=
  .mk (ks := [x, y]) g 0 (fun i => if i = 0 then v else u) hk ⟨by decide, by decide⟩ (Nat.zero_le _) (Nat.zero_le _) (show 2 ≤ maxLen by decide) hc (fun _ => ⟨rfl, hB⟩) (fun i hi => by
    have hi2 : i < 2 := hi
    match i, hi2 with
    | 0, _ => exact h0
    | 1, _ => exact h1) (fun i hi => by
    have hi2 : i < 2 := hi
    match i, hi2 with
    | 0, _ => exact hx
    | 1, _ => exact hy)

theorem NodeIn.over3 {w : World} {B : Nat → Prop} {k : Int} {x y z : Tr} {v u s : Value} {g c : Nat} (hk : -9223372036854775808 ≤ k ∧ k ≤ 9223372036854775807) (hc : 3 ≤ c) (hB : B g) (h0 : CellsAt w g 0 v) (h1 : CellsAt w g 5 u) (h2 : CellsAt w g 10 s) (hx : NodeIn w B x v) (hy : NodeIn w B y u) (hz : NodeIn w B z s) : NodeIn w B (.mk k ⟨#[]⟩ ⟨#[]⟩ 0 [x, y, z]) (nodeU k ⟨#[]⟩ ⟨#[]⟩ 0 (some ⟨g, 0, none⟩) 3 c) :=
  .mk (ks := [x, y, z]) g 0 (fun i => if i = 0 then v else if i = 1 then u else s) hk ⟨by decide, by decide⟩ (Nat.zero_le _) (Nat.zero_le _) (show 3 ≤ maxLen by decide) hc (fun _ => ⟨rfl, hB⟩) (fun i hi => by
    have hi2 : i < 3 := hi
    match i, hi2 with
    | 0, _ => exact h0
    | 1, _ => exact h1
    | 2, _ => exact h2) (fun i hi => by
    have hi2 : i < 3 := hi
    match i, hi2 with
    | 0, _ => exact hx
    | 1, _ => exact hy
    | 2, _ => exact hz)

theorem leafT {w : World} {B : Nat → Prop} (k : Int) (t : ByteArray) (n : Int) (hk : -9223372036854775808 ≤ k ∧ k ≤ 9223372036854775807) (hn : 0 ≤ n ∧ n ≤ 18446744073709551615) (ht : t.size ≤ maxLen) : NodeIn w B (.mk k t ⟨#[]⟩ n []) (nodeU k t ⟨#[]⟩ n none 0 0) := .leaf hk hn ht (Nat.zero_le _) none 0

def optV (g : Nat) : Value := nodeU 12 ⟨#[]⟩ ⟨#[]⟩ 0 (some ⟨g, 0, none⟩) 1 1

/-- The option of aFile, in two blocks. -/
structure OptIn (w : World) (g1 g2 : Nat) : Prop where
  h1 : w.heap[g1]? = some (.cells #[.int .i64 33, .string ⟨#[97]⟩, .string ⟨#[]⟩, .int .u64 0, .slice none 0 0, .int .i64 36, .string ⟨#[]⟩, .string ⟨#[]⟩, .int .u64 5, .slice none 0 0] 25 (0, 0))
  h2 : w.heap[g2]? = some (.cells #[.int .i64 10, .string ⟨#[]⟩, .string ⟨#[]⟩, .int .u64 0, .slice (some ⟨g1, 0, none⟩) 2 2] 25 (0, 0))

theorem OptIn.keep {w w' : World} {g1 g2 : Nat} (h : OptIn w g1 g2) (e1 : w'.heap[g1]? = w.heap[g1]?) (e2 : w'.heap[g2]? = w.heap[g2]?) : OptIn w' g1 g2 := ⟨e1.trans h.h1, e2.trans h.h2⟩

theorem OptIn.node {w : World} {B : Nat → Prop} {g1 g2 : Nat} (h : OptIn w g1 g2) (b1 : B g1) (b2 : B g2) : NodeIn w B optT (optV g2) := by
  refine .over1 (by decide) (Nat.le_refl _) b2 (v := nodeU 10 ⟨#[]⟩ ⟨#[]⟩ 0 (some ⟨g1, 0, none⟩) 2 2) ?_ ?_
  · refine cellsAt_five ?_ ?_ ?_ ?_ ?_ <;> (rw [Lib.cell_of_heap h.h2]; rfl)
  · refine .over2 (by decide) (Nat.le_refl _) b1 (v := nodeU 33 ⟨#[97]⟩ ⟨#[]⟩ 0 none 0 0) (u := nodeU 36 ⟨#[]⟩ ⟨#[]⟩ 5 none 0 0) ?_ ?_ (leafT 33 _ 0 (by decide) (by decide) (by decide)) (leafT 36 _ 5 (by decide) (by decide) (by decide))
    · refine cellsAt_five ?_ ?_ ?_ ?_ ?_ <;> (rw [Lib.cell_of_heap h.h1]; rfl)
    · refine cellsAt_five ?_ ?_ ?_ ?_ ?_ <;> (rw [Lib.cell_of_heap h.h1]; rfl)

/-- What aFile returns, in four blocks. -/
structure FileIn (w : World) (g1 g2 g3 g4 : Nat) : Prop where
  opt : OptIn w g1 g2
  h3 : w.heap[g3]? = some (.cells #[.int .i64 12, .string ⟨#[]⟩, .string ⟨#[]⟩, .int .u64 0, .slice (some ⟨g2, 0, none⟩) 1 1] 25 (0, 0))
  h4 : w.heap[g4]? = some (.cells #[.int .i64 0, .string ⟨#[]⟩, .string ⟨#[]⟩, .int .u64 0, .slice none 0 0, .int .i64 1, .string ⟨#[]⟩, .string ⟨#[]⟩, .int .u64 0, .slice none 0 0, .int .i64 1, .string ⟨#[]⟩, .string ⟨#[]⟩, .int .u64 0, .slice (some ⟨g3, 0, none⟩) 1 1] 25 (0, 0))

set_option maxHeartbeats 8000000 in
set_option maxRecDepth 100000 in
theorem aFile_any (w : World) :
    Calls Tryz.prog 5 #[] w fun e w' => ∃ g1 g2 g3 g4, e = .returned (.agg #[.int .i64 3, .string ⟨#[]⟩, .string ⟨#[]⟩, .int .u64 0, .slice (some ⟨g4, 0, none⟩) 3 3]) ∧ FileIn w' g1 g2 g3 g4 ∧ w.heap.size ≤ g1 ∧ g1 < g2 ∧ g2 < g3 ∧ g3 < g4 ∧ g4 < w'.heap.size ∧ Below w.heap.size w w' := by
  have HTR := Lib.hid tree_any
  have HFI := Lib.hid five_any
  have HB0 := Lib.hid ((Below.refl w.heap.size w).alloc (Nat.le_refl _) (.cells #[.int .i64 0, .string ⟨#[]⟩, .string ⟨#[]⟩, .int .u64 0, .slice none 0 0] 25))
  have HX0 := Lib.hid (heap_alloc_new w (.cells #[.int .i64 0, .string ⟨#[]⟩, .string ⟨#[]⟩, .int .u64 0, .slice none 0 0] 25))
  have HZ0 := Lib.hid (alloc_size w (.cells #[.int .i64 0, .string ⟨#[]⟩, .string ⟨#[]⟩, .int .u64 0, .slice none 0 0] 25))
  go_enter Tryz.func5, Tryz.ntmps5
  go_wp2_with fail
  ((with_reducible refine (HTR.out _ _ _ _ _ _).mono ?_))
  rintro e w1 ⟨rfl, hb1⟩
  have HB1 := Lib.hid hb1
  clear hb1
  go_wp2_with fail
  ((with_reducible refine (HTR.out _ _ _ _ _ _).mono ?_))
  rintro e w2 ⟨rfl, hb2⟩
  have HB2 := Lib.hid hb2
  clear hb2
  go_wp2_with fail
  ((with_reducible refine (HFI.out _).mono ?_))
  rintro e w3 ⟨rfl, hb3⟩
  have HB3 := Lib.hid hb3
  clear hb3
  have HA3 := Lib.hid ((Below.refl w3.heap.size w3).alloc (Nat.le_refl _) (.cells #[.int .i64 33, .string ⟨#[97]⟩, .string ⟨#[]⟩, .int .u64 0, .slice none 0 0, .int .i64 36, .string ⟨#[]⟩, .string ⟨#[]⟩, .int .u64 5, .slice none 0 0] 25))
  have HX3 := Lib.hid (heap_alloc_new w3 (.cells #[.int .i64 33, .string ⟨#[97]⟩, .string ⟨#[]⟩, .int .u64 0, .slice none 0 0, .int .i64 36, .string ⟨#[]⟩, .string ⟨#[]⟩, .int .u64 5, .slice none 0 0] 25))
  have HZ3 := Lib.hid (alloc_size w3 (.cells #[.int .i64 33, .string ⟨#[97]⟩, .string ⟨#[]⟩, .int .u64 0, .slice none 0 0, .int .i64 36, .string ⟨#[]⟩, .string ⟨#[]⟩, .int .u64 5, .slice none 0 0] 25))
  go_wp2_with fail
  ((with_reducible refine (HTR.out _ _ _ _ _ _).mono ?_))
  rintro e w4 ⟨rfl, hb4⟩
  have HB4 := Lib.hid hb4
  clear hb4
  have HA4 := Lib.hid ((Below.refl w4.heap.size w4).alloc (Nat.le_refl _) (.cells #[.int .i64 10, .string ⟨#[]⟩, .string ⟨#[]⟩, .int .u64 0, .slice (some ⟨w3.heap.size, 0, none⟩) 2 2] 25))
  have HX4 := Lib.hid (heap_alloc_new w4 (.cells #[.int .i64 10, .string ⟨#[]⟩, .string ⟨#[]⟩, .int .u64 0, .slice (some ⟨w3.heap.size, 0, none⟩) 2 2] 25))
  have HZ4 := Lib.hid (alloc_size w4 (.cells #[.int .i64 10, .string ⟨#[]⟩, .string ⟨#[]⟩, .int .u64 0, .slice (some ⟨w3.heap.size, 0, none⟩) 2 2] 25))
  go_wp2_with fail
  ((with_reducible refine (HTR.out _ _ _ _ _ _).mono ?_))
  rintro e w5 ⟨rfl, hb5⟩
  have HB5 := Lib.hid hb5
  clear hb5
  have HA5 := Lib.hid ((Below.refl w5.heap.size w5).alloc (Nat.le_refl _) (.cells #[.int .i64 12, .string ⟨#[]⟩, .string ⟨#[]⟩, .int .u64 0, .slice (some ⟨w4.heap.size, 0, none⟩) 1 1] 25))
  have HX5 := Lib.hid (heap_alloc_new w5 (.cells #[.int .i64 12, .string ⟨#[]⟩, .string ⟨#[]⟩, .int .u64 0, .slice (some ⟨w4.heap.size, 0, none⟩) 1 1] 25))
  have HZ5 := Lib.hid (alloc_size w5 (.cells #[.int .i64 12, .string ⟨#[]⟩, .string ⟨#[]⟩, .int .u64 0, .slice (some ⟨w4.heap.size, 0, none⟩) 1 1] 25))
  go_wp2_with fail
  ((with_reducible refine (HTR.out _ _ _ _ _ _).mono ?_))
  rintro e w6 ⟨rfl, hb6⟩
  have HB6 := Lib.hid hb6
  clear hb6
  have HA6 := Lib.hid ((Below.refl w6.heap.size w6).alloc (Nat.le_refl _) (.cells #[.int .i64 0, .string ⟨#[]⟩, .string ⟨#[]⟩, .int .u64 0, .slice none 0 0, .int .i64 1, .string ⟨#[]⟩, .string ⟨#[]⟩, .int .u64 0, .slice none 0 0, .int .i64 1, .string ⟨#[]⟩, .string ⟨#[]⟩, .int .u64 0, .slice (some ⟨w5.heap.size, 0, none⟩) 1 1] 25))
  have HX6 := Lib.hid (heap_alloc_new w6 (.cells #[.int .i64 0, .string ⟨#[]⟩, .string ⟨#[]⟩, .int .u64 0, .slice none 0 0, .int .i64 1, .string ⟨#[]⟩, .string ⟨#[]⟩, .int .u64 0, .slice none 0 0, .int .i64 1, .string ⟨#[]⟩, .string ⟨#[]⟩, .int .u64 0, .slice (some ⟨w5.heap.size, 0, none⟩) 1 1] 25))
  have HZ6 := Lib.hid (alloc_size w6 (.cells #[.int .i64 0, .string ⟨#[]⟩, .string ⟨#[]⟩, .int .u64 0, .slice none 0 0, .int .i64 1, .string ⟨#[]⟩, .string ⟨#[]⟩, .int .u64 0, .slice none 0 0, .int .i64 1, .string ⟨#[]⟩, .string ⟨#[]⟩, .int .u64 0, .slice (some ⟨w5.heap.size, 0, none⟩) 1 1] 25))
  go_wp2_with fail
  ((with_reducible refine (HTR.out _ _ _ _ _ _).mono ?_))
  rintro e w7 ⟨rfl, hb7⟩
  have q6 : Below w6.heap.size w6 w7 := HA6.out.trans (hb7.mono HA6.out.size)
  have q5 : Below w5.heap.size w5 w7 := (HA5.out.trans (HB6.out.mono HA5.out.size)).trans (q6.mono (Nat.le_trans HA5.out.size HB6.out.size))
  have q4 : Below w4.heap.size w4 w7 := (HA4.out.trans (HB5.out.mono HA4.out.size)).trans (q5.mono (Nat.le_trans HA4.out.size HB5.out.size))
  have q3 : Below w3.heap.size w3 w7 := (HA3.out.trans (HB4.out.mono HA3.out.size)).trans (q4.mono (Nat.le_trans HA3.out.size HB4.out.size))
  have q2 := HB3.out.trans (q3.mono HB3.out.size)
  have q1 := HB2.out.trans (q2.mono HB2.out.size)
  have q0 := HB1.out.trans (q1.mono HB1.out.size)
  have qw := HB0.out.trans (q0.mono HB0.out.size)
  have z1 := HB1.out.size
  have z2 := HB2.out.size
  have z3 := HB3.out.size
  have z4 := HB4.out.size
  have z5 := HB5.out.size
  have z6 := HB6.out.size
  have z7 := hb7.size
  rw [HZ0.out] at z1
  rw [HZ3.out] at z4
  rw [HZ4.out] at z5
  rw [HZ5.out] at z6
  rw [HZ6.out] at z7
  have hx7 : w7.heap[w.heap.size]? = some (.cells #[.int .i64 0, .string ⟨#[]⟩, .string ⟨#[]⟩, .int .u64 0, .slice none 0 0] 25 (0, 0)) := (q0.block _ (by rw [HZ0.out]; exact Nat.lt_succ_self _)).trans HX0.out
  have r1 := (HB4.out.trans (q4.mono HB4.out.size)).block _ (by rw [HZ3.out]; exact Nat.lt_succ_self _) |>.trans HX3.out
  have r2 := (HB5.out.trans (q5.mono HB5.out.size)).block _ (by rw [HZ4.out]; exact Nat.lt_succ_self _) |>.trans HX4.out
  have r3 := (HB6.out.trans (q6.mono HB6.out.size)).block _ (by rw [HZ5.out]; exact Nat.lt_succ_self _) |>.trans HX5.out
  have r4 := hb7.block _ (by rw [HZ6.out]; exact Nat.lt_succ_self _) |>.trans HX6.out
  have HFI7 : Hid (FileIn w7 w3.heap.size w4.heap.size w5.heap.size w6.heap.size) := Lib.hid ⟨⟨r1, r2⟩, r3, r4⟩
  have HLE : Hid (w.heap.size < w3.heap.size ∧ w3.heap.size < w4.heap.size ∧ w4.heap.size < w5.heap.size ∧ w5.heap.size < w6.heap.size ∧ w6.heap.size < w7.heap.size) := Lib.hid ⟨by omega, by omega, by omega, by omega, by omega⟩
  have HQW := Lib.hid qw
  have HX7 := Lib.hid hx7
  have c0 : w7.cell? ⟨w.heap.size, 0, none⟩ = some (.int .i64 0) := by rw [Lib.cell_of_heap hx7]; rfl
  have c1 : w7.cell? ⟨w.heap.size, 1, none⟩ = some (.string ⟨#[]⟩) := by rw [Lib.cell_of_heap hx7]; rfl
  have c2 : w7.cell? ⟨w.heap.size, 2, none⟩ = some (.string ⟨#[]⟩) := by rw [Lib.cell_of_heap hx7]; rfl
  have c3 : w7.cell? ⟨w.heap.size, 3, none⟩ = some (.int .u64 0) := by rw [Lib.cell_of_heap hx7]; rfl
  have c4 : w7.cell? ⟨w.heap.size, 4, none⟩ = some (.slice none 0 0) := by rw [Lib.cell_of_heap hx7]; rfl
  have y0 := Lib.frozen_of_heap hx7 0
  have y1 := Lib.frozen_of_heap hx7 1
  have y2 := Lib.frozen_of_heap hx7 2
  have y3 := Lib.frozen_of_heap hx7 3
  have y4 := Lib.frozen_of_heap hx7 4
  clear hb7 q0 q1 q2 q3 q4 q5 q6 qw z1 z2 z3 z4 z5 z6 z7 hx7 r1 r2 r3 r4 HB1 HB2 HB3 HB4 HB5 HB6 HA3 HA4 HA5 HA6 HX3 HX4 HX5 HX6 HZ0 HZ3 HZ4 HZ5 HZ6 HX0
  go_wp2_with fail
  have u0 := row_setG (row_setG (row_setG (row_setG (row_setG HX7.out 0 (.int .i64 3)) 1 (.string ⟨#[]⟩)) 2 (.string ⟨#[]⟩)) 3 (.int .u64 0)) 4 (.slice (some ⟨w6.heap.size, 0, none⟩) 3 3)
  have uo : ∀ r, r ≠ w.heap.size → (((((w7.setCell ⟨w.heap.size, 0, none⟩ (.int .i64 3)).setCell ⟨w.heap.size, 1, none⟩ (.string ⟨#[]⟩)).setCell ⟨w.heap.size, 2, none⟩ (.string ⟨#[]⟩)).setCell ⟨w.heap.size, 3, none⟩ (.int .u64 0)).setCell ⟨w.heap.size, 4, none⟩ (.slice (some ⟨w6.heap.size, 0, none⟩) 3 3)).heap[r]? = w7.heap[r]? := fun r hr => (Below.heap_setCell _ _ _ _ hr).trans ((Below.heap_setCell _ _ _ _ hr).trans ((Below.heap_setCell _ _ _ _ hr).trans ((Below.heap_setCell _ _ _ _ hr).trans (Below.heap_setCell _ _ _ _ hr))))
  have us : (((((w7.setCell ⟨w.heap.size, 0, none⟩ (.int .i64 3)).setCell ⟨w.heap.size, 1, none⟩ (.string ⟨#[]⟩)).setCell ⟨w.heap.size, 2, none⟩ (.string ⟨#[]⟩)).setCell ⟨w.heap.size, 3, none⟩ (.int .u64 0)).setCell ⟨w.heap.size, 4, none⟩ (.slice (some ⟨w6.heap.size, 0, none⟩) 3 3)).heap.size = w7.heap.size := by simp [World.setCell]
  have ub := (((((HQW.out.setCell (p := ⟨w.heap.size, 0, none⟩) (Nat.le_refl _) (.int .i64 3)).setCell (p := ⟨w.heap.size, 1, none⟩) (Nat.le_refl _) (.string ⟨#[]⟩)).setCell (p := ⟨w.heap.size, 2, none⟩) (Nat.le_refl _) (.string ⟨#[]⟩)).setCell (p := ⟨w.heap.size, 3, none⟩) (Nat.le_refl _) (.int .u64 0)).setCell (p := ⟨w.heap.size, 4, none⟩) (Nat.le_refl _) (.slice (some ⟨w6.heap.size, 0, none⟩) 3 3))
  generalize (((((w7.setCell ⟨w.heap.size, 0, none⟩ (.int .i64 3)).setCell ⟨w.heap.size, 1, none⟩ (.string ⟨#[]⟩)).setCell ⟨w.heap.size, 2, none⟩ (.string ⟨#[]⟩)).setCell ⟨w.heap.size, 3, none⟩ (.int .u64 0)).setCell ⟨w.heap.size, 4, none⟩ (.slice (some ⟨w6.heap.size, 0, none⟩) 3 3)) = F at *
  have hne := HLE.out
  have hfin : FileIn F w3.heap.size w4.heap.size w5.heap.size w6.heap.size := ⟨HFI7.out.opt.keep (uo _ (by omega)) (uo _ (by omega)), (uo _ (by omega)).trans HFI7.out.h3, (uo _ (by omega)).trans HFI7.out.h4⟩
  have HFIN : Hid (∃ g1 g2 g3 g4, Ending.returned (.agg #[.int .i64 3, .string ⟨#[]⟩, .string ⟨#[]⟩, .int .u64 0, .slice (some ⟨w6.heap.size, 0, none⟩) 3 3]) = .returned (.agg #[.int .i64 3, .string ⟨#[]⟩, .string ⟨#[]⟩, .int .u64 0, .slice (some ⟨g4, 0, none⟩) 3 3]) ∧ FileIn F g1 g2 g3 g4 ∧ w.heap.size ≤ g1 ∧ g1 < g2 ∧ g2 < g3 ∧ g3 < g4 ∧ g4 < F.heap.size ∧ Below w.heap.size w F) := Lib.hid ⟨_, _, _, _, rfl, hfin, by omega, by omega, by omega, by omega, by omega, ub⟩
  have v0 : F.cell? ⟨w.heap.size, 0, none⟩ = some (.int .i64 3) := by rw [Lib.cell_of_heap u0]; rfl
  have v1 : F.cell? ⟨w.heap.size, 1, none⟩ = some (.string ⟨#[]⟩) := by rw [Lib.cell_of_heap u0]; rfl
  have v2 : F.cell? ⟨w.heap.size, 2, none⟩ = some (.string ⟨#[]⟩) := by rw [Lib.cell_of_heap u0]; rfl
  have v3 : F.cell? ⟨w.heap.size, 3, none⟩ = some (.int .u64 0) := by rw [Lib.cell_of_heap u0]; rfl
  have v4 : F.cell? ⟨w.heap.size, 4, none⟩ = some (.slice (some ⟨w6.heap.size, 0, none⟩) 3 3) := by rw [Lib.cell_of_heap u0]; rfl
  refine bodyPost_ret (v := .agg #[.int .i64 3, .string ⟨#[]⟩, .string ⟨#[]⟩, .int .u64 0, .slice (some ⟨w6.heap.size, 0, none⟩) 3 3]) (by simp [results, Tryz.results5, go_sem, v0, v1, v2, v3, v4]) rfl HFIN.out

end Go.Proofs.YtkohgndmhgcgeaaGreatDoor
