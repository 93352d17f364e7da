/- spec's maker of flatbuffers: numbers' bytes, zeros up to a multiple, texts. spec's maker of flatbuffers: bytes appended within a region that draws; texts. spec's maker of flatbuffers: bytes put over others within a region that draws. -/
import Derived.Test.YtgceklahjdbipaaGreatDoorRows
import Derived.Test.YtgceklahjdbipaaGreatDoorOwn2
import Derived.WalkKit
import Derived.WalkLawsBesides
import Derived.Outline
import Derived.BigCall
import Derived.LoopTactic
import Derived.Lib.Hide
import Derived.Deep.AppendLies
import Derived.Deep.RegionLaw
import Derived.Deep.RegionWith
namespace Go.Proofs.YtgceklahjdbipaaGreatDoor
open Go Go.RowKit
set_option linter.unusedVariables false
set_option linter.unusedSimpArgs false

theorem mk_byte : (Tryz.prog.info? 5).map (fun i => (i.zero, i.size, i.bytes)) = some (some (.int .u8 0), 1, 1) := by kernel_rfl

theorem leB_snoc (k : Nat) : ∀ n, leB n (k + 1) = leB n k ++ [UInt8.ofNat (n / 256 ^ k % 256)] := by
  induction k with
  | zero => intro n; simp [leB]
  | succ k ih =>
    intro n
    rw [leB, ih (n / 256), leB, List.cons_append]
    congr 3
    rw [Nat.div_div_eq_div_mul, Nat.pow_succ, Nat.mul_comm]

def LittlePost (u k : Nat) (w : World) (e : Ending) (w' : World) : Prop := ∃ v, e = .returned v ∧ w'.ownsRow w.heap.size 5 1 v k (Lib.byteCells (leB u k)) ∧ Below w.heap.size w w'

theorem slice_of_own {w : World} {base : Nat} {e : TypeId} {size n : Nat} {v : Value} {xs : List Value} (h : w.ownsRow base e size v n xs) : ∃ a c, v = .slice a n c := by
  rcases h.2 with ⟨rfl, h0⟩ | ⟨g, cap, cur, rfl, _⟩
  · rw [h0]; exact ⟨none, 0, rfl⟩
  · exact ⟨_, _, rfl⟩

theorem hown_or {w : World} {base : Nat} {e : TypeId} {size n : Nat} {v : Value} {xs : List Value} (h : w.ownsRow base e size v n xs) : v.ownBlock = none ∨ v.ownBlock ≠ none := by
  cases v.ownBlock <;> simp

set_option maxHeartbeats 4000000 in
set_option maxRecDepth 100000 in
theorem little_any (u k : Nat) (hk : k ≤ 8) (hu : u < 18446744073709551616) (w : World) :
    Calls Tryz.prog 23 #[.int .u64 u, .int .i64 k] w (LittlePost u k w) := by
  obtain ⟨i0, hi, hz0, hz1, hz2⟩ := info_parts mk_byte
  have HP : Hid (∀ e w', (∃ v, e = .returned v ∧ w'.ownsRow w.heap.size 5 1 v k (Lib.byteCells (leB u k)) ∧ Below w.heap.size w w') → LittlePost u k w e w') := Lib.hid fun _ _ h => h
  have hu' : (u : Int) < 18446744073709551616 := by omega
  go_enter Tryz.func23, Tryz.ntmps23
  go_wp2
  go_loopw [5, 6] (fun o i wr => ∃ n : Nat, n ≤ k ∧ i = .int .i64 n ∧ Hid (wr.ownsRow w.heap.size 5 1 o n (Lib.byteCells (leB u n))) ∧ Hid (Below w.heap.size w wr)) (fun _ i _ => k - (intOf i).toNat)
  case atStart => exact ⟨0, Nat.zero_le _, rfl, Lib.hid (World.ownsRow_nil _ _ _ _), Lib.hid (Below.refl _ _)⟩
  case round =>
    obtain ⟨n, hn, rfl, hown, hb⟩ := hrel
    obtain ⟨a, c, rfl⟩ := slice_of_own hown.out
    by_cases hlt : n < k
    · have hs8 : (8 : Int) * n < 64 := by omega
      have hmx : n + 1 ≤ maxLen := by unfold maxLen; omega
      have hbl : (n + 1) * 1 ≤ 140737488355328 := by omega
      have hsz1 := hb.out.size
      have hsnoc := leB_snoc n u
      have HSN := Lib.hid hsnoc
      clear hsnoc hu' hu HP
      have hk8 : (0:Int) ≤ 8 * n := by omega
      go_wp2_with (at_builtin; refine wpList_append_own2 rfl _ _ 30 rfl w.heap.size 5 i0 _ 1 1 Tryz.underlying30 hi hz0 hz1 hz2 rfl (by decide) _ _ _ rfl (World.ownsRow.kept hown.out (grownBy_below ((Below.refl _ wr).alloc (Nat.le_refl _) _)) (hown_or hown.out)) _ 1 1 [.int .u8 ((u : Int) / 2 ^ (8 * n) % 256)] rfl rfl ?c1 ?c2 hmx hbl ?c3 ?_)
      case c1 => exact World.news_of_block (cs := #[.int .u8 ((u : Int) / 2 ^ (8 * n) % 256)]) (t := 5) (fr := (0, 0)) (heap_alloc_new wr _)
      case c2 => intro x hx; simp at hx; subst hx; rfl
      case c3 => exact (hb.out.alloc hsz1 _).size
      intro v' w5 hown' hgrow _
      have hcell : (Value.int .u8 ((u : Int) / 2 ^ (8 * n) % 256)) = .int .u8 ((UInt8.ofNat (u / 256 ^ n % 256)).toNat : Int) := by
        rw [show (256 : Nat) = 2 ^ 8 from rfl, ← Nat.pow_mul]
        congr 1
        simp
      rw [hcell] at hown'
      have hown2 : w5.ownsRow w.heap.size 5 1 v' (n + 1) (Lib.byteCells (leB u (n + 1))) := by
        rw [HSN.out, Lib.byteCells_append]
        exact hown'
      have hb2 : Below w.heap.size w w5 := (hb.out.alloc hsz1 _).grown hgrow (hb.out.alloc hsz1 _).size (fun k e => (hown.out.lt k e).1)
      have HO := Lib.hid hown2
      have HB := Lib.hid hb2
      clear hown2 hb2 hown' hgrow hcell
      go_wp2
      go_roundw
      case rel => exact ⟨n + 1, by omega, by go_num, HO, HB⟩
      case measure => simp [intOf]; omega
    · have hke : n = k := by omega
      subst hke
      go_wp2
      go_ret
      exact HP.out _ _ ⟨_, rfl, hown.out, hb.out⟩

/-- The maker and what it has written. -/
abbrev Mk (M : Nat) (base : Bool) (out : List UInt8) (w : World) : Prop := MkAt 55 5 M base out w

theorem mk_app {T e : TypeId} {M : Nat} {base : Bool} {out out' : List UInt8} {w w1 w2 : World} {a : Option Addr} {c : Nat} {v' : Value} (hm : Moves M w w1) (hh : w1.heap[M]? = some (.cells #[.slice a out.length c, .bool base] T (0, 0)))
    (hne : (Value.slice a out.length c).ownBlock ≠ some M) (hg : w1.grownBy w2 (Value.slice a out.length c).ownBlock) (hv : v'.ownBlock = (Value.slice a out.length c).ownBlock ∨ ∃ g, v'.ownBlock = some g ∧ w1.heap.size ≤ g)
    (hown : w2.ownsRow 0 e 1 v' out'.length (Lib.byteCells out')) :
    w2.heap[M]? = some (.cells #[.slice a out.length c, .bool base] T (0, 0)) ∧ MkAt T e M base out' (w2.setCell ⟨M, 0, none⟩ v') ∧ Moves M w (w2.setCell ⟨M, 0, none⟩ v') := by
  have h2 : w2.heap[M]? = some (.cells #[.slice a out.length c, .bool base] T (0, 0)) := (hg.block M (Array.getElem?_eq_some_iff.1 hh).1 (fun e => hne e.symm)).trans hh
  exact ⟨h2, MkAt.put hh hne hg hv hown, hm.append (by rw [Lib.cell_of_heap hh]; rfl) hg hv (by rw [Lib.cell_of_heap h2]; rfl)⟩

theorem alloc_size (w : World) (o : Obj) : (w.alloc o).heap.size = w.heap.size + 1 := Array.size_push ..

theorem pad_test (n a j : Nat) (ha : 0 < a) (hj : j ≤ (a - n % a) % a) : ((n + j) % a = 0) ↔ j = (a - n % a) % a := by
  have hr := Nat.mod_lt n ha
  rw [Nat.add_mod]
  generalize n % a = r at *
  rcases Nat.eq_zero_or_pos r with rfl | hp
  · rw [Nat.sub_zero, Nat.mod_self] at hj ⊢
    have : j = 0 := by omega
    subst this
    simp
  · rw [Nat.mod_eq_of_lt (show a - r < a by omega)] at hj ⊢
    rcases Nat.lt_or_eq_of_le hj with h | h
    · rw [Nat.mod_eq_of_lt (show j < a by omega), Nat.mod_eq_of_lt (show r + j < a by omega)]
      omega
    · subst h
      rw [Nat.mod_eq_of_lt (show a - r < a by omega), show r + (a - r) = a by omega, Nat.mod_self]
      simp

def mkLen (M : Nat) (w : World) : Nat := match w.cell? ⟨M, 0, none⟩ with
  | some (.slice _ n _) => n
  | _ => 0

theorem MkAt.len {T e : TypeId} {M : Nat} {base : Bool} {out : List UInt8} {w : World} (h : MkAt T e M base out w) : mkLen M w = out.length := by
  obtain ⟨a, c, h0, _⟩ := h.form
  unfold mkLen
  rw [h0]

theorem padTo_done (a n : Nat) (out : List UInt8) : out ++ List.replicate ((a - (out.length + n) % a) % a) 0 = padTo a n out := rfl

def PadPost (M : Nat) (base : Bool) (a n : Nat) (out : List UInt8) (w : World) (e : Ending) (w' : World) : Prop := e = .returned (.tuple #[]) ∧ Mk M base (padTo a n out) w' ∧ Moves M w w'

set_option maxHeartbeats 4000000 in
set_option maxRecDepth 100000 in
theorem pad_any (M : Nat) (base : Bool) (a n : Nat) (out : List UInt8) (ha : 0 < a) (ha8 : a ≤ 8) (hn : n < 1000000) (hout : out.length < 1000000000) (w : World) (h : Mk M base out w) :
    Calls Tryz.prog 24 #[.pointer (some ⟨M, 0, none⟩), .int .i64 a, .int .i64 n] w (PadPost M base a n out w) := by
  obtain ⟨i0, hi, hz0, hz1, hz2⟩ := info_parts mk_byte
  have HP : Hid (∀ w', Mk M base (padTo a n out) w' ∧ Moves M w w' → PadPost M base a n out w (.returned (.tuple #[])) w') := Lib.hid fun _ h => ⟨rfl, h⟩
  have H := Lib.hid h
  clear h
  go_enter Tryz.func24, Tryz.ntmps24
  go_wp2
  go_loopw [] (fun wr => ∃ j : Nat, j ≤ (a - (out.length + n) % a) % a ∧ Hid (Mk M base (out ++ List.replicate j 0) wr) ∧ Hid (Moves M w wr)) (fun wr => out.length + a - mkLen M wr)
  case atStart => exact ⟨0, Nat.zero_le _, Lib.hid (by simpa using H.out), Lib.hid (Moves.refl _ _)⟩
  case round =>
    obtain ⟨j, hj, hm, hmv⟩ := hrel
    have hjt := pad_test (out.length + n) a j ha hj
    have hja : j < a := Nat.lt_of_le_of_lt hj (Nat.mod_lt _ ha)
    obtain ⟨ad, c, c0, c1, hf, hh, hown, hne⟩ := hm.out.form
    have hlen : (out ++ List.replicate j (0 : UInt8)).length = out.length + j := by simp
    have HM := Lib.hid hm.out.len
    have f0 := hf 0
    have hM := hm.out.lt
    generalize hL : (out ++ List.replicate j (0 : UInt8)).length = L at *
    have HL := Lib.hid hlen
    have hL2 : L < 1000000008 := by omega
    by_cases hlt : j = (a - (out.length + n) % a) % a
    · have ht : (((L : Int) + n) % (a : Int) == 0) = true := by
        have h1 := hjt.2 hlt
        rw [hlen]
        simp
        rw [show (out.length : Int) + j + n = ((out.length + n + j : Nat) : Int) by omega, ← Int.natCast_emod, h1]
        rfl
      clear hL hlen hjt hown hh
      go_wp2
      go_end0
      refine HP.out _ ⟨?_, hmv.out⟩
      have h1 := hm.out
      rw [hlt, padTo_done] at h1
      exact h1
    · have ht : (((L : Int) + n) % (a : Int) == 0) = false := by
        have h1 : ¬ (out.length + n + j) % a = 0 := fun e => hlt (hjt.1 e)
        rw [hlen]
        simp
        rw [show (out.length : Int) + j + n = ((out.length + n + j : Nat) : Int) by omega, ← Int.natCast_emod]
        omega
      have hL3 : L + 1 ≤ 1000000009 := by omega
      have hmx : L + 1 ≤ maxLen := by unfold maxLen; omega
      have hbl : (L + 1) * 1 ≤ 140737488355328 := by omega
      clear hlen hjt
      go_wp2_with (at_builtin; refine wpList_append_own2 rfl _ _ 30 rfl 0 5 i0 _ 1 1 Tryz.underlying30 hi hz0 hz1 hz2 rfl (by decide) _ _ _ rfl (World.ownsRow.kept hown (grownBy_below ((Below.refl _ wr).alloc (Nat.le_refl _) _)) (hown_or hown)) _ 1 1 [.int .u8 0] rfl rfl ?c1 ?c2 hmx hbl (Nat.zero_le _) ?_)
      case c1 => exact World.news_of_block (cs := #[.int .u8 0]) (t := 5) (fr := (0, 0)) (heap_alloc_new wr _)
      case c2 => intro x hx; simp at hx; subst hx; rfl
      intro v' w5 hown' hgrow hgb
      have hh1 : (wr.alloc (.cells #[.int .u8 0] 5)).heap[M]? = _ := (Below.heap_alloc wr _ _ hM).trans hh
      have hown2 : w5.ownsRow 0 5 1 v' (out ++ List.replicate (j + 1) (0 : UInt8)).length (Lib.byteCells (out ++ List.replicate (j + 1) (0 : UInt8))) := by
        rw [List.replicate_succ', ← List.append_assoc, Lib.byteCells_append, List.length_append, hL]
        exact hown'
      obtain ⟨a', c', rfl⟩ := slice_of_own hown2
      rw [← hL] at hgrow hgb hh1 hne
      obtain ⟨hh5, hmk5, hmv5⟩ := mk_app (T := 55) (e := 5) (hmv.out.alloc hM (.cells #[.int .u8 0] 5)) hh1 hne hgrow (hgb.imp id (fun ⟨g, h1, h2⟩ => ⟨g, h1, by rw [alloc_size]; exact h2⟩)) hown2
      rw [hL] at hh5
      have hl1 : (out ++ List.replicate (j + 1) (0 : UInt8)).length = out.length + (j + 1) := by simp
      rw [hl1] at hmk5 hmv5
      have d0 : w5.cell? ⟨M, 0, none⟩ = some (.slice ad L c) := by rw [Lib.cell_of_heap hh5]; rfl
      have d1 := Lib.frozen_of_heap hh5 0
      have HMK := Lib.hid hmk5
      have HMV := Lib.hid hmv5
      clear hmk5 hmv5 hown' hown2 hgrow hgb hh1 hh5 hne hL
      go_wp2
      go_roundw
      case rel => exact ⟨j + 1, by omega, HMK, HMV⟩
      case measure =>
        rw [HM.out, HMK.out.len]
        simp
        have := HL.out
        omega

/-- Bytes that stand in memory. -/
def BytesIn (w : World) (ad : Addr) (bs : List UInt8) : Prop := ∀ (j : Nat) u, (Lib.byteCells bs)[j]? = some u → w.cell? (ad.add j) = some u

/-- The maker in a world, its row as a value. -/
def MkRow (M : Nat) (base : Bool) (out : List UInt8) (v : Value) (w : World) : Prop := w.heap[M]? = some (.cells #[v, .bool base] 55 (0, 0)) ∧ w.ownsRow 0 5 1 v out.length (Lib.byteCells out) ∧ v.ownBlock ≠ some M

theorem MkRow.mk {M : Nat} {base : Bool} {out : List UInt8} {v : Value} {w : World} (h : MkRow M base out v w) : Mk M base out w := ⟨v, h⟩
theorem MkRow.lt {M : Nat} {base : Bool} {out : List UInt8} {v : Value} {w : World} (h : MkRow M base out v w) : M < w.heap.size := (Array.getElem?_eq_some_iff.1 h.1).1
theorem MkRow.below {M : Nat} {base : Bool} {out : List UInt8} {v : Value} {w w' : World} (h : MkRow M base out v w) (hb : Below w.heap.size w w') : MkRow M base out v w' :=
  ⟨(hb.block M h.lt).trans h.1, h.2.1.kept (grownBy_below hb) (hown_or h.2.1), h.2.2⟩
theorem MkRow.drew {M : Nat} {base : Bool} {out : List UInt8} {v : Value} {w : World} (h : MkRow M base out v w) : MkRow M base out v w.drew := h
theorem MkRow.c0 {M : Nat} {base : Bool} {out : List UInt8} {v : Value} {w : World} (h : MkRow M base out v w) : w.cell? ⟨M, 0, none⟩ = some v := by rw [Lib.cell_of_heap h.1]; rfl
theorem MkRow.f0 {M : Nat} {base : Bool} {out : List UInt8} {v : Value} {w : World} (h : MkRow M base out v w) (i : Nat) : w.frozen? ⟨M, i, none⟩ = false := Lib.frozen_of_heap h.1 i

theorem Mk.row {M : Nat} {base : Bool} {out : List UInt8} {w : World} (h : Mk M base out w) : ∃ a c, MkRow M base out (.slice a out.length c) w := by
  obtain ⟨a, c, _, _, _, h1, h2, h3⟩ := h.form
  exact ⟨a, c, h1, h2, h3⟩

/-- What is so after an append's store. -/
def Appended (M : Nat) (base : Bool) (out : List UInt8) (w : World) (v : Value) (w' : World) : Prop :=
  Mk M base out (w'.setCell ⟨M, 0, none⟩ v) ∧ ∀ w0, Moves M w0 w → Moves M w0 (w'.setCell ⟨M, 0, none⟩ v)

theorem byte_info : ∃ i, Tryz.prog.info? 5 = some i ∧ i.zero = some (.int .u8 0) ∧ i.size = 1 ∧ i.bytes = 1 := info_parts mk_byte

section
variable {ops : Array Oper} {o : Oper} {a : Act} {w : World} {K : Act → World → Prop} {Q : Exit → Act → World → Prop} {E : Prop}

/-- Bytes are appended to the maker's row, at a step of a region that draws. -/
theorem step_mk_append (hgd : o.guard = none) (s x : Operand) (ho : o.op = .call { callee := .builtin .append, args := #[s, x], argTypes := #[30, 30] })
    (M : Nat) (base : Bool) (out : List UInt8) (L : Nat) (hL : out.length = L) (ad : Option Addr) (c : Nat) (hm : MkRow M base out (.slice ad L c) w) (hs : a.eval s = .slice ad L c)
    (bs : List UInt8) (ad2 : Addr) (k cx : Nat) (hk : bs.length = k) (hk0 : 0 < k) (hx : a.eval x = .slice (some ad2) k cx) (hnews : BytesIn w ad2 bs) (hbig : L + k < 1000000000)
    (h : ∀ g cap w', w'.cell? ⟨M, 0, none⟩ = some (.slice ad L c) → w'.frozen? ⟨M, 0, none⟩ = false → Appended M base (out ++ bs) w (.slice (some ⟨g, 0, none⟩) (L + k) cap) w' → K (a.put o.dst (.slice (some ⟨g, 0, none⟩) (L + k) cap)) w') :
    if Region.wanted o (yielded ops a.tmps) = true then Oper.wp Tryz.prog o a w K Q else E := by
  subst hL
  obtain ⟨i0, hi, hz0, hz1, hz2⟩ := byte_info
  refine step_append_lies w hgd s x 30 ho 0 5 i0 _ 1 1 Tryz.underlying30 hi hz0 hz1 hz2 rfl (by decide) _ _ _ hs hm.2.1 ad2 k cx (Lib.byteCells bs) hx (by rw [Lib.byteCells_length, hk, Nat.mul_one]) hnews (byteCells_one bs) hk0 (by unfold maxLen; omega) (by omega) (Nat.zero_le _) _ rfl ?_
  intro g cap w' hown hg hat hlt
  have hown2 : w'.ownsRow 0 5 1 (.slice (some ⟨g, 0, none⟩) (out.length + k) cap) (out ++ bs).length (Lib.byteCells (out ++ bs)) := by
    rw [Lib.byteCells_append, List.length_append, hk]
    exact hown
  have hv : (Value.slice (some ⟨g, 0, none⟩) (out.length + k) cap).ownBlock = (Value.slice ad out.length c).ownBlock ∨ ∃ g', (Value.slice (some ⟨g, 0, none⟩) (out.length + k) cap).ownBlock = some g' ∧ w.heap.size ≤ g' := by
    rcases hat with e | e
    · left; rw [e]; rfl
    · right; exact ⟨g, rfl, by omega⟩
  have hap := fun w0 (hm0 : Moves M w0 w) => mk_app hm0 hm.1 hm.2.2 hg hv hown2
  obtain ⟨h1, h2, _⟩ := hap w (Moves.refl M w)
  exact h g cap w' (by rw [Lib.cell_of_heap h1]; rfl) (Lib.frozen_of_heap h1 0) ⟨h2, fun w0 h0 => (hap w0 h0).2.2⟩
end

/-- A number's bytes, so many of them. -/
def LitPost2 (u k : Nat) (w : World) (e : Ending) (w' : World) : Prop := ∃ g c, e = .returned (.slice (some ⟨g, 0, none⟩) k c) ∧ BytesIn w' ⟨g, 0, none⟩ (leB u k) ∧ Below w.heap.size w w'

theorem little_pos (u k : Nat) (hk0 : 0 < k) (hk : k ≤ 8) (hu : u < 18446744073709551616) (w : World) :
    Calls Tryz.prog 23 #[.int .u64 u, .int .i64 k] w (LitPost2 u k w) := by
  refine (little_any u k hk hu w).mono ?_
  rintro e w' ⟨v, rfl, hown, hb⟩
  obtain ⟨g, cap, rfl, _, _⟩ := hown.form hk0
  exact ⟨g, cap, rfl, hown.cells rfl, hb⟩

theorem grown_two {w4 w5 w7 : World} {r r5 : Option Nat} (h : w4.grownBy w5 r) (h2 : w5.grownBy w7 r5) (h5 : r5 = r ∨ ∃ g, r5 = some g ∧ w4.heap.size ≤ g) : w4.grownBy w7 r :=
  ⟨h2.os.trans h.os, h2.tape.trans h.tape, h2.output.trans h.output, Nat.le_trans h.size h2.size, fun k hk hne => (h2.block k (Nat.lt_of_lt_of_le hk h.size) (by
    rcases h5 with e | ⟨g, e, hg⟩
    · rw [e]; exact hne
    · rw [e]; intro e2; cases e2; omega)).trans (h.block k hk hne)⟩

def AtPost (M : Nat) (base : Bool) (out : List UInt8) (n : Nat) (w : World) (e : Ending) (w' : World) : Prop := e = .returned (.int .i64 n) ∧ Mk M base out w' ∧ Moves M w w'

set_option maxHeartbeats 4000000 in
set_option maxRecDepth 100000 in
theorem text_any (M : Nat) (base : Bool) (out : List UInt8) (s : ByteArray) (hs : s.size < 1000000) (hout : out.length < 900000000) (w : World) (h : Mk M base out w) :
    Calls Tryz.prog 222 #[.pointer (some ⟨M, 0, none⟩), .string s] w (AtPost M base (textB s.data.toList out).1 (textB s.data.toList out).2 w) := by
  obtain ⟨i0, hi, hz0, hz1, hz2⟩ := info_parts mk_byte
  have H := Lib.hid h
  have hM := h.lt
  have HPAD : Hid (Calls Tryz.prog 24 #[.pointer (some ⟨M, 0, none⟩), .int .i64 4, .int .i64 0] w fun e w' => e = .returned (.tuple #[]) ∧ Mk M base (padTo 4 0 out) w' ∧ Moves M w w') := Lib.hid (pad_any M base 4 0 out (by decide) (by decide) (by decide) (by omega) w h)
  have hpad := padTo_spec 4 0 (by decide) out
  generalize hp : padTo 4 0 out = o1 at *
  clear h
  go_enter Tryz.func222, Tryz.ntmps222
  go_wp2_with (go_at_call 24; with_reducible refine HPAD.out.mono ?_)
  rintro e w1 ⟨rfl, hm1, hmv1⟩
  obtain ⟨ad, c, hr1⟩ := hm1.row
  have c0 := hr1.c0
  have c0d : w1.drew.cell? ⟨M, 0, none⟩ = _ := c0
  have f0 := hr1.f0 0
  have hM1 := hr1.lt
  have HR1 := Lib.hid hr1
  have HMV1 := Lib.hid hmv1
  have HT : Hid (textB s.data.toList out = (o1 ++ leB s.size 4 ++ s.data.toList ++ [0], o1.length)) := Lib.hid (by
    unfold textB
    rw [hp, Array.length_toList]
    rfl)
  clear hm1 hr1 hmv1 hp
  have hL : o1.length < 900000004 := by omega
  generalize hlen : o1.length = L at *
  have HLEN := Lib.hid hlen
  clear hlen
  have hw64 : IntKind.u64.wrap (s.size : Int) = s.size := by rw [IntKind.wrap_u64]; omega
  have HLI : Hid (∀ W, Calls Tryz.prog 23 #[.int .u64 s.size, .int .i64 4] W (LitPost2 s.size 4 W)) := Lib.hid fun W => little_pos s.size 4 (by decide) (by decide) (by omega) W
  go_wp2
  go_region_law (first
    | (refine step_mk_append (by rfl) _ _ (by rfl) M base o1 L HLEN.out ad c HR2.out (by rfl) (leB s.size 4) ⟨g2, 0, none⟩ 4 c2 (leB_length 4 _) (by decide) (by rfl) HN2.out (by omega) ?_; intro g3 cap3 w3 c3 f3 hap3)
    | (go_simp; go_wp2_with (go_at_call 23; ((with_reducible refine (HLI.out _).mono ?_)); rintro e w2 ⟨g2, c2, rfl, hn2, hb2⟩; have HN2 := Lib.hid hn2; have HR2 := Lib.hid (HR1.out.drew.below hb2); have c02 := HR2.out.c0; have f02 := HR2.out.f0 0)))
  all_goals
    have hmv2 := (HMV1.out.drew).below hb2 (by exact hM1)
    have hmk3 := hap3.1
    have hmv3 := hap3.2 w hmv2
    generalize hw4 : (w3.setCell ⟨M, 0, none⟩ (.slice (some ⟨g3, 0, none⟩) (L + 4) cap3)) = w4 at *
    have hl4 : (o1 ++ leB s.size 4).length = L + 4 := by rw [List.length_append, leB_length, HLEN.out]
    obtain ⟨ad4, c4, hr4⟩ := hmk3.row
    rw [hl4] at hr4
    have HL4 := Lib.hid hl4
    have d0 := hr4.c0
    have d1 := hr4.f0 0
    have hM4 := hr4.lt
    have HR4 := Lib.hid hr4
    have ho4 := hr4.2.1
    rw [hl4] at ho4
    have HO4 := Lib.hid ho4
    have HMV4 := Lib.hid hmv3
    have hmx1 : L + 4 + s.size ≤ maxLen := by unfold maxLen; omega
    have hbl1 : L + 4 + s.size ≤ 140737488355328 := by omega
    have hmx2 : L + 4 + s.size + 1 ≤ maxLen := by unfold maxLen; omega
    have hbl2 : (L + 4 + s.size + 1) * 1 ≤ 140737488355328 := by omega
    clear ho4 hmk3 hr4 hmv3 hmv2 hap3 hw4 c3 f3 hl4 hn2 hb2 c02 f02
    generalize o1 ++ leB s.size 4 = o4 at *
    go_wp2_with (at_builtin; refine wpList_append_string2 rfl _ _ 30 9 rfl 0 5 i0 Tryz.underlying30 Tryz.underlying9 hi hz0 hz1 hz2 _ _ _ rfl HO4.out s rfl hmx1 hbl1 (Nat.zero_le _) ?_)
    intro v5 w5 hown5 hg5 hb5
    obtain ⟨a5, c5, rfl⟩ := slice_of_own hown5
    have HO5 := Lib.hid hown5
    have HG5 := Lib.hid hg5
    have HB5 := Lib.hid hb5
    clear hown5 hg5 hb5
    go_wp2_with (at_builtin; refine wpList_append_own2 rfl _ _ 30 rfl 0 5 i0 _ 1 1 Tryz.underlying30 hi hz0 hz1 hz2 rfl (by decide) _ _ _ rfl (World.ownsRow.kept HO5.out (grownBy_below ((Below.refl _ w5).alloc (Nat.le_refl _) _)) (hown_or HO5.out)) _ 1 1 [.int .u8 0] rfl rfl ?c1 ?c2 hmx2 hbl2 (Nat.zero_le _) ?_)
    case c1 => exact World.news_of_block (cs := #[.int .u8 0]) (t := 5) (fr := (0, 0)) (heap_alloc_new w5 _)
    case c2 => intro x hx; simp at hx; subst hx; rfl
    intro v7 w7 hown7 hg7 hb7
    have hown8 : w7.ownsRow 0 5 1 v7 (o4 ++ s.data.toList ++ [0]).length (Lib.byteCells (o4 ++ s.data.toList ++ [0])) := by
      rw [Lib.byteCells_append, Lib.byteCells_append, List.length_append, List.length_append, HL4.out, Array.length_toList, List.append_assoc]
      exact hown7
    obtain ⟨a7, c7, rfl⟩ := slice_of_own hown8
    have hg47 := grown_two HG5.out (grown_two (World.grownBy_alloc w5 _ _) hg7 (.inl rfl)) HB5.out
    have hb47 : (Value.slice a7 (o4 ++ s.data.toList ++ [0]).length c7).ownBlock = (Value.slice ad4 (L + 4) c4).ownBlock ∨ ∃ g, (Value.slice a7 (o4 ++ s.data.toList ++ [0]).length c7).ownBlock = some g ∧ w4.heap.size ≤ g := by
      rcases hb7 with e | ⟨g, e, hg⟩
      · rw [e]; exact HB5.out
      · right
        have h1 := HG5.out.size
        exact ⟨g, e, by omega⟩
    have hr4 := HR4.out
    rw [← HL4.out] at hr4 hg47 hb47
    obtain ⟨hh7, hmk7, hmv7⟩ := mk_app HMV4.out hr4.1 hr4.2.2 hg47 hb47 hown8
    rw [HL4.out] at hh7
    have hl7 : (o4 ++ s.data.toList ++ [(0 : UInt8)]).length = L + 4 + s.size + 1 := by
      rw [List.length_append, List.length_append, HL4.out, Array.length_toList]
      rfl
    rw [hl7] at hmk7 hmv7
    have e0 : w7.cell? ⟨M, 0, none⟩ = some (.slice ad4 (L + 4) c4) := by rw [Lib.cell_of_heap hh7]; rfl
    have e1 := Lib.frozen_of_heap hh7 0
    have HMK7 := Lib.hid hmk7
    have HMV7 := Lib.hid hmv7
    have HL7 := Lib.hid hl7
    clear hmk7 hmv7 hr4 hg47 hb47 hb7 hg7 hown7 hown8 hh7
    rw [hl7]
    clear hl7
    go_wp2
    go_ret
    rw [HT.out]
    exact ⟨rfl, HMK7.out, HMV7.out⟩

theorem patch_facts {w : World} {base g p n cap : Nat} {e : TypeId} {l bs : List UInt8} (hown : w.ownsRow base e 1 (.slice (some ⟨g, 0, none⟩) n cap) n (Lib.byteCells l)) (hfit : p + bs.length ≤ n) :
    ∃ cur : Array Value, w.heap[g]? = some (.cells cur e (0, 0)) ∧ p + (Lib.byteCells bs).length ≤ cur.size ∧
      (w.setRow g (cur.toList.take p ++ (Lib.byteCells bs ++ cur.toList.drop (p + (Lib.byteCells bs).length))).toArray).ownsRow base e 1 (.slice (some ⟨g, 0, none⟩) n cap) n (Lib.byteCells (patch l p bs)) ∧
      w.grownBy (w.setRow g (cur.toList.take p ++ (Lib.byteCells bs ++ cur.toList.drop (p + (Lib.byteCells bs).length))).toArray) (some g) := by
  rcases hown.2 with ⟨h', _⟩ | ⟨g', cap', cur, h', hb, hg, hnc, hcm, hcs, htake⟩
  · simp at h'
  · simp only [Value.slice.injEq, Option.some.injEq, Addr.mk.injEq, and_true, true_and] at h'
    obtain ⟨rfl, rfl⟩ := h'
    rw [Nat.mul_one] at hcs htake
    have hbl : (Lib.byteCells bs).length = bs.length := Lib.byteCells_length bs
    refine ⟨cur, hg, by rw [hbl]; omega, ?_, ?_⟩
    · rw [hbl]
      refine ⟨?_, .inr ⟨g, cap, _, rfl, hb, setRow_heap w g cur _ e _ hg, hnc, hcm, ?_, ?_⟩⟩
      · have h1 := hown.1
        rw [Lib.byteCells_length] at h1 ⊢
        rw [patch_length _ _ _ (by omega)]
        exact h1
      · simp only [List.size_toArray, List.length_append, List.length_take, List.length_drop, Array.length_toList, hbl]
        omega
      · rw [byteCells_patch, Nat.mul_one]
        simp only [← htake]
        rw [List.take_append, List.take_append]
        simp only [List.length_take, Array.length_toList, hbl]
        rw [List.take_take, List.take_take, List.drop_take, show min p cur.size = p by omega, show min n p = min p n by omega, show n - p - bs.length = n - (p + bs.length) by omega, List.take_of_length_le (l := Lib.byteCells bs) (by rw [hbl]; omega)]
    · exact ⟨rfl, rfl, rfl, by simp, fun k _ hk => setRow_other w g k _ (fun e => hk (by simp [e]))⟩

section
variable {ops : Array Oper} {o : Oper} {a : Act} {w : World} {K : Act → World → Prop} {Q : Exit → Act → World → Prop} {E : Prop}

/-- Bytes are put over others in the maker's row, at a step of a region that draws. -/
theorem step_mk_copy (hgd : o.guard = none) (d s : Operand) (ho : o.op = .call { callee := .builtin .copy, args := #[d, s], argTypes := #[30, 30] })
    (M : Nat) (base : Bool) (out : List UInt8) (L : Nat) (hL : out.length = L) (g c : Nat) (hm : MkRow M base out (.slice (some ⟨g, 0, none⟩) L c) w)
    (p dLen dCap : Nat) (hd : a.eval d = .slice (some ⟨g, p, none⟩) dLen dCap) (bs : List UInt8) (k : Nat) (hk : bs.length = k) (hdl : k ≤ dLen) (hfit : p + k ≤ L)
    (ad : Addr) (sCap : Nat) (hs : a.eval s = .slice (some ad) k sCap) (hsrc : BytesIn w ad bs) (x : Int) (hx : x = (k : Int))
    (h : ∀ w', MkRow M base (patch out p bs) (.slice (some ⟨g, 0, none⟩) L c) w' → (∀ w0, Moves M w0 w → Moves M w0 w') → K (a.put o.dst (.int .i64 x)) w') :
    if Region.wanted o (yielded ops a.tmps) = true then Oper.wp Tryz.prog o a w K Q else E := by
  have hw : Region.wanted o (yielded ops a.tmps) = true := by simp [Region.wanted, hgd]
  rw [if_pos hw]
  subst hx
  subst hk
  have hpl : (patch out p bs).length = L := by rw [patch_length _ _ _ (by omega), hL]
  subst hL
  have hbl : (Lib.byteCells bs).length = bs.length := Lib.byteCells_length bs
  obtain ⟨cur, hg, hcs, hown, hgr⟩ := patch_facts hm.2.1 hfit
  have hrun := run_copy_row (P := Tryz.prog) w 30 30 o.type 5 g p dLen dCap ad bs.length sCap cur 5 (Lib.byteCells bs) Tryz.underlying30 (by kernel_rfl) hg (by rw [hbl]; exact (Nat.min_eq_left hdl).symm) hsrc hcs (byteCells_one bs)
  have hM := hm.lt
  have hne : some M ≠ some g := fun e => hm.2.2 (by rw [e]; rfl)
  have hrow : MkRow M base (patch out p bs) (.slice (some ⟨g, 0, none⟩) out.length c) (w.setRow g (cur.toList.take p ++ (Lib.byteCells bs ++ cur.toList.drop (p + (Lib.byteCells bs).length))).toArray) :=
    ⟨(hgr.block M hM hne).trans hm.1, by rw [hpl]; exact hown, hm.2.2⟩
  have hres := h _ hrow fun w0 h0 => h0.over hm.c0 hgr hM hne
  unfold Oper.wp
  simp [execOp, ho, resolve, invoke, builtin, hd, hs, hrun, Result.andThen, hbl]
  simp [hbl] at hres
  exact hres
end

theorem equalIn_nil (W : World) : (Op.equal 265 .nilFunc .nilFunc).run Tryz.prog W = .ok true W := by
  have h : ∀ d : Nat, (Op.equalIn (d + 1) 265 .nilFunc .nilFunc).run Tryz.prog W = .ok true W := fun d => by
    simp [Op.equalIn, run_underlying Tryz.underlying265]
  exact h 9999
theorem equalIn_func (fn : Fn) (first cap : Array Value) (W : World) : (Op.equal 265 (.func fn first cap) .nilFunc).run Tryz.prog W = .ok false W := by
  have h : ∀ d : Nat, (Op.equalIn (d + 1) 265 (.func fn first cap) .nilFunc).run Tryz.prog W = .ok false W := fun d => by
    simp [Op.equalIn, run_underlying Tryz.underlying265]
  exact h 9999
theorem eql_nil (W : World) : (binOp .eql 265 .nilFunc .nilFunc).run Tryz.prog W = .ok (.bool true) W := by
  simp [binOp, equalIn_nil]
theorem eql_func (fn : Fn) (first cap : Array Value) (W : World) : (binOp .eql 265 (.func fn first cap) .nilFunc).run Tryz.prog W = .ok (.bool false) W := by
  simp [binOp, equalIn_func]
theorem neq_nil (W : World) : (binOp .neq 265 .nilFunc .nilFunc).run Tryz.prog W = .ok (.bool false) W := by
  simp [binOp, equalIn_nil]
theorem neq_func (fn : Fn) (first cap : Array Value) (W : World) : (binOp .neq 265 (.func fn first cap) .nilFunc).run Tryz.prog W = .ok (.bool true) W := by
  simp [binOp, equalIn_func]

end Go.Proofs.YtgceklahjdbipaaGreatDoor
