/- spec's maker of flatbuffers: numbers' bytes, zeros up to a multiple, texts. -/
import Derived.Test.YtdillheepidncaaGreatDoorRows
import Derived.Test.YtdillheepidncaaGreatDoorOwn2
import Derived.WalkKit
import Derived.WalkLawsBesides
import Derived.Outline
import Derived.BigCall
import Derived.LoopTactic
import Derived.Lib.Hide
import Derived.Deep.AppendLies
namespace Go.Proofs.YtdillheepidncaaGreatDoor
open Go Go.RowKit
set_option linter.unusedVariables false
set_option linter.unusedSimpArgs false

theorem mk_byte : (Tryz.prog.info? 5).map (fun i => (i.zero, i.size, i.bytes)) = some (some (.int .u8 0), 1, 1) := by kernel_rfl

theorem leB_snoc (k : Nat) : ∀ n, leB n (k + 1) = leB n k ++ [UInt8.ofNat (n / 256 ^ k % 256)] := by
  induction k with
  | zero => intro n; simp [leB]
  | succ k ih =>
    intro n
    rw [leB, ih (n / 256), leB, List.cons_append]
    congr 3
    rw [Nat.div_div_eq_div_mul, Nat.pow_succ, Nat.mul_comm]

def LittlePost (u k : Nat) (w : World) (e : Ending) (w' : World) : Prop := ∃ v, e = .returned v ∧ w'.ownsRow w.heap.size 5 1 v k (Lib.byteCells (leB u k)) ∧ Below w.heap.size w w'

theorem slice_of_own {w : World} {base : Nat} {e : TypeId} {size n : Nat} {v : Value} {xs : List Value} (h : w.ownsRow base e size v n xs) : ∃ a c, v = .slice a n c := by
  rcases h.2 with ⟨rfl, h0⟩ | ⟨g, cap, cur, rfl, _⟩
  · rw [h0]; exact ⟨none, 0, rfl⟩
  · exact ⟨_, _, rfl⟩

theorem hown_or {w : World} {base : Nat} {e : TypeId} {size n : Nat} {v : Value} {xs : List Value} (h : w.ownsRow base e size v n xs) : v.ownBlock = none ∨ v.ownBlock ≠ none := by
  cases v.ownBlock <;> simp

set_option maxHeartbeats 4000000 in
set_option maxRecDepth 100000 in
theorem little_any (u k : Nat) (hk : k ≤ 8) (hu : u < 18446744073709551616) (w : World) :
    Calls Tryz.prog 21 #[.int .u64 u, .int .i64 k] w (LittlePost u k w) := by
  obtain ⟨i0, hi, hz0, hz1, hz2⟩ := info_parts mk_byte
  have HP : Hid (∀ e w', (∃ v, e = .returned v ∧ w'.ownsRow w.heap.size 5 1 v k (Lib.byteCells (leB u k)) ∧ Below w.heap.size w w') → LittlePost u k w e w') := Lib.hid fun _ _ h => h
  have hu' : (u : Int) < 18446744073709551616 := by omega
  go_enter Tryz.func21, Tryz.ntmps21
  go_wp2
  go_loopw [5, 6] (fun o i wr => ∃ n : Nat, n ≤ k ∧ i = .int .i64 n ∧ Hid (wr.ownsRow w.heap.size 5 1 o n (Lib.byteCells (leB u n))) ∧ Hid (Below w.heap.size w wr)) (fun _ i _ => k - (intOf i).toNat)
  case atStart => exact ⟨0, Nat.zero_le _, rfl, Lib.hid (World.ownsRow_nil _ _ _ _), Lib.hid (Below.refl _ _)⟩
  case round =>
    obtain ⟨n, hn, rfl, hown, hb⟩ := hrel
    obtain ⟨a, c, rfl⟩ := slice_of_own hown.out
    by_cases hlt : n < k
    · have hs8 : (8 : Int) * n < 64 := by omega
      have hmx : n + 1 ≤ maxLen := by unfold maxLen; omega
      have hbl : (n + 1) * 1 ≤ 140737488355328 := by omega
      have hsz1 := hb.out.size
      have hsnoc := leB_snoc n u
      have HSN := Lib.hid hsnoc
      clear hsnoc hu' hu HP
      have hk8 : (0:Int) ≤ 8 * n := by omega
      go_wp2_with (at_builtin; refine wpList_append_own2 rfl _ _ 30 rfl w.heap.size 5 i0 _ 1 1 Tryz.underlying30 hi hz0 hz1 hz2 rfl (by decide) _ _ _ rfl (World.ownsRow.kept hown.out (grownBy_below ((Below.refl _ wr).alloc (Nat.le_refl _) _)) (hown_or hown.out)) _ 1 1 [.int .u8 ((u : Int) / 2 ^ (8 * n) % 256)] rfl rfl ?c1 ?c2 hmx hbl ?c3 ?_)
      case c1 => exact World.news_of_block (cs := #[.int .u8 ((u : Int) / 2 ^ (8 * n) % 256)]) (t := 5) (fr := (0, 0)) (heap_alloc_new wr _)
      case c2 => intro x hx; simp at hx; subst hx; rfl
      case c3 => exact (hb.out.alloc hsz1 _).size
      intro v' w5 hown' hgrow _
      have hcell : (Value.int .u8 ((u : Int) / 2 ^ (8 * n) % 256)) = .int .u8 ((UInt8.ofNat (u / 256 ^ n % 256)).toNat : Int) := by
        rw [show (256 : Nat) = 2 ^ 8 from rfl, ← Nat.pow_mul]
        congr 1
        simp
      rw [hcell] at hown'
      have hown2 : w5.ownsRow w.heap.size 5 1 v' (n + 1) (Lib.byteCells (leB u (n + 1))) := by
        rw [HSN.out, Lib.byteCells_append]
        exact hown'
      have hb2 : Below w.heap.size w w5 := (hb.out.alloc hsz1 _).grown hgrow (hb.out.alloc hsz1 _).size (fun k e => (hown.out.lt k e).1)
      have HO := Lib.hid hown2
      have HB := Lib.hid hb2
      clear hown2 hb2 hown' hgrow hcell
      go_wp2
      go_roundw
      case rel => exact ⟨n + 1, by omega, by go_num, HO, HB⟩
      case measure => simp [intOf]; omega
    · have hke : n = k := by omega
      subst hke
      go_wp2
      go_ret
      exact HP.out _ _ ⟨_, rfl, hown.out, hb.out⟩

/-- The maker and what it has written. -/
abbrev Mk (M : Nat) (base : Bool) (out : List UInt8) (w : World) : Prop := MkAt 54 5 M base out w

theorem mk_app {T e : TypeId} {M : Nat} {base : Bool} {out out' : List UInt8} {w w1 w2 : World} {a : Option Addr} {c : Nat} {v' : Value} (hm : Moves M w w1) (hh : w1.heap[M]? = some (.cells #[.slice a out.length c, .bool base] T (0, 0)))
    (hne : (Value.slice a out.length c).ownBlock ≠ some M) (hg : w1.grownBy w2 (Value.slice a out.length c).ownBlock) (hv : v'.ownBlock = (Value.slice a out.length c).ownBlock ∨ ∃ g, v'.ownBlock = some g ∧ w1.heap.size ≤ g)
    (hown : w2.ownsRow 0 e 1 v' out'.length (Lib.byteCells out')) :
    w2.heap[M]? = some (.cells #[.slice a out.length c, .bool base] T (0, 0)) ∧ MkAt T e M base out' (w2.setCell ⟨M, 0, none⟩ v') ∧ Moves M w (w2.setCell ⟨M, 0, none⟩ v') := by
  have h2 : w2.heap[M]? = some (.cells #[.slice a out.length c, .bool base] T (0, 0)) := (hg.block M (Array.getElem?_eq_some_iff.1 hh).1 (fun e => hne e.symm)).trans hh
  exact ⟨h2, MkAt.put hh hne hg hv hown, hm.append (by rw [Lib.cell_of_heap hh]; rfl) hg hv (by rw [Lib.cell_of_heap h2]; rfl)⟩

theorem alloc_size (w : World) (o : Obj) : (w.alloc o).heap.size = w.heap.size + 1 := Array.size_push ..

theorem pad_test (n a j : Nat) (ha : 0 < a) (hj : j ≤ (a - n % a) % a) : ((n + j) % a = 0) ↔ j = (a - n % a) % a := by
  have hr := Nat.mod_lt n ha
  rw [Nat.add_mod]
  generalize n % a = r at *
  rcases Nat.eq_zero_or_pos r with rfl | hp
  · rw [Nat.sub_zero, Nat.mod_self] at hj ⊢
    have : j = 0 := by omega
    subst this
    simp
  · rw [Nat.mod_eq_of_lt (show a - r < a by omega)] at hj ⊢
    rcases Nat.lt_or_eq_of_le hj with h | h
    · rw [Nat.mod_eq_of_lt (show j < a by omega), Nat.mod_eq_of_lt (show r + j < a by omega)]
      omega
    · subst h
      rw [Nat.mod_eq_of_lt (show a - r < a by omega), show r + (a - r) = a by omega, Nat.mod_self]
      simp

def mkLen (M : Nat) (w : World) : Nat := match w.cell? ⟨M, 0, none⟩ with
  | some (.slice _ n _) => n
  | _ => 0

theorem MkAt.len {T e : TypeId} {M : Nat} {base : Bool} {out : List UInt8} {w : World} (h : MkAt T e M base out w) : mkLen M w = out.length := by
  obtain ⟨a, c, h0, _⟩ := h.form
  unfold mkLen
  rw [h0]

theorem padTo_done (a n : Nat) (out : List UInt8) : out ++ List.replicate ((a - (out.length + n) % a) % a) 0 = padTo a n out := rfl

def PadPost (M : Nat) (base : Bool) (a n : Nat) (out : List UInt8) (w : World) (e : Ending) (w' : World) : Prop := e = .returned (.tuple #[]) ∧ Mk M base (padTo a n out) w' ∧ Moves M w w'

set_option maxHeartbeats 4000000 in
set_option maxRecDepth 100000 in
theorem pad_any (M : Nat) (base : Bool) (a n : Nat) (out : List UInt8) (ha : 0 < a) (ha8 : a ≤ 8) (hn : n < 1000000) (hout : out.length < 1000000000) (w : World) (h : Mk M base out w) :
    Calls Tryz.prog 22 #[.pointer (some ⟨M, 0, none⟩), .int .i64 a, .int .i64 n] w (PadPost M base a n out w) := by
  obtain ⟨i0, hi, hz0, hz1, hz2⟩ := info_parts mk_byte
  have HP : Hid (∀ w', Mk M base (padTo a n out) w' ∧ Moves M w w' → PadPost M base a n out w (.returned (.tuple #[])) w') := Lib.hid fun _ h => ⟨rfl, h⟩
  have H := Lib.hid h
  clear h
  go_enter Tryz.func22, Tryz.ntmps22
  go_wp2
  go_loopw [] (fun wr => ∃ j : Nat, j ≤ (a - (out.length + n) % a) % a ∧ Hid (Mk M base (out ++ List.replicate j 0) wr) ∧ Hid (Moves M w wr)) (fun wr => out.length + a - mkLen M wr)
  case atStart => exact ⟨0, Nat.zero_le _, Lib.hid (by simpa using H.out), Lib.hid (Moves.refl _ _)⟩
  case round =>
    obtain ⟨j, hj, hm, hmv⟩ := hrel
    have hjt := pad_test (out.length + n) a j ha hj
    have hja : j < a := Nat.lt_of_le_of_lt hj (Nat.mod_lt _ ha)
    obtain ⟨ad, c, c0, c1, hf, hh, hown, hne⟩ := hm.out.form
    have hlen : (out ++ List.replicate j (0 : UInt8)).length = out.length + j := by simp
    have HM := Lib.hid hm.out.len
    have f0 := hf 0
    have hM := hm.out.lt
    generalize hL : (out ++ List.replicate j (0 : UInt8)).length = L at *
    have HL := Lib.hid hlen
    have hL2 : L < 1000000008 := by omega
    by_cases hlt : j = (a - (out.length + n) % a) % a
    · have ht : (((L : Int) + n) % (a : Int) == 0) = true := by
        have h1 := hjt.2 hlt
        rw [hlen]
        simp
        rw [show (out.length : Int) + j + n = ((out.length + n + j : Nat) : Int) by omega, ← Int.natCast_emod, h1]
        rfl
      clear hL hlen hjt hown hh
      go_wp2
      go_end0
      refine HP.out _ ⟨?_, hmv.out⟩
      have h1 := hm.out
      rw [hlt, padTo_done] at h1
      exact h1
    · have ht : (((L : Int) + n) % (a : Int) == 0) = false := by
        have h1 : ¬ (out.length + n + j) % a = 0 := fun e => hlt (hjt.1 e)
        rw [hlen]
        simp
        rw [show (out.length : Int) + j + n = ((out.length + n + j : Nat) : Int) by omega, ← Int.natCast_emod]
        omega
      have hL3 : L + 1 ≤ 1000000009 := by omega
      have hmx : L + 1 ≤ maxLen := by unfold maxLen; omega
      have hbl : (L + 1) * 1 ≤ 140737488355328 := by omega
      clear hlen hjt
      go_wp2_with (at_builtin; refine wpList_append_own2 rfl _ _ 30 rfl 0 5 i0 _ 1 1 Tryz.underlying30 hi hz0 hz1 hz2 rfl (by decide) _ _ _ rfl (World.ownsRow.kept hown (grownBy_below ((Below.refl _ wr).alloc (Nat.le_refl _) _)) (hown_or hown)) _ 1 1 [.int .u8 0] rfl rfl ?c1 ?c2 hmx hbl (Nat.zero_le _) ?_)
      case c1 => exact World.news_of_block (cs := #[.int .u8 0]) (t := 5) (fr := (0, 0)) (heap_alloc_new wr _)
      case c2 => intro x hx; simp at hx; subst hx; rfl
      intro v' w5 hown' hgrow hgb
      have hh1 : (wr.alloc (.cells #[.int .u8 0] 5)).heap[M]? = _ := (Below.heap_alloc wr _ _ hM).trans hh
      have hown2 : w5.ownsRow 0 5 1 v' (out ++ List.replicate (j + 1) (0 : UInt8)).length (Lib.byteCells (out ++ List.replicate (j + 1) (0 : UInt8))) := by
        rw [List.replicate_succ', ← List.append_assoc, Lib.byteCells_append, List.length_append, hL]
        exact hown'
      obtain ⟨a', c', rfl⟩ := slice_of_own hown2
      rw [← hL] at hgrow hgb hh1 hne
      obtain ⟨hh5, hmk5, hmv5⟩ := mk_app (T := 54) (e := 5) (hmv.out.alloc hM (.cells #[.int .u8 0] 5)) hh1 hne hgrow (hgb.imp id (fun ⟨g, h1, h2⟩ => ⟨g, h1, by rw [alloc_size]; exact h2⟩)) hown2
      rw [hL] at hh5
      have hl1 : (out ++ List.replicate (j + 1) (0 : UInt8)).length = out.length + (j + 1) := by simp
      rw [hl1] at hmk5 hmv5
      have d0 : w5.cell? ⟨M, 0, none⟩ = some (.slice ad L c) := by rw [Lib.cell_of_heap hh5]; rfl
      have d1 := Lib.frozen_of_heap hh5 0
      have HMK := Lib.hid hmk5
      have HMV := Lib.hid hmv5
      clear hmk5 hmv5 hown' hown2 hgrow hgb hh1 hh5 hne hL
      go_wp2
      go_roundw
      case rel => exact ⟨j + 1, by omega, HMK, HMV⟩
      case measure =>
        rw [HM.out, HMK.out.len]
        simp
        have := HL.out
        omega

end Go.Proofs.YtdillheepidncaaGreatDoor
