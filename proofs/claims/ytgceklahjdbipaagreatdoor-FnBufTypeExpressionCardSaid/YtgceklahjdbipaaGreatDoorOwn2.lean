/- Rows of the call's own once more: where the new row lies; bytes put over others. append(row of bytes, make([]byte, k)...): as of a text of zeros. -/
import Derived.Test.YtgceklahjdbipaaGreatDoorBufPure
import Derived.Laws.AppendOwn
import Derived.Laws.OwnMore
import Derived.Laws.CopyOwn
import Derived.Lib.AppendStr
import Derived.Lib.UnsafeStr
import Derived.Below
import Derived.Lib.BufferOwn
import Derived.Lib.AppendZeros
namespace Go.Proofs.YtgceklahjdbipaaGreatDoor
open Go Go.RowKit
set_option linter.unusedVariables false
set_option linter.unusedSimpArgs false

section
variable {P : Program}

theorem run_append_own2 (w : World) (base : Nat) (t ty e : TypeId) (i : TypeInfo) (z : Value) (size bytes : Nat) (ht : P.underlying t = some (.slice e)) (hi : P.info? e = some i) (hz : i.zero = some z)
    (hsize : i.size = size) (hby : i.bytes = bytes) (hzs : z.cells.size = size) (hsz : 0 < size)
    (v : Value) (n : Nat) (xs : List Value) (hown : w.ownsRow base e size v n xs)
    (a : Addr) (m c : Nat) (news : List Value) (hl : news.length = m * size) (hnews : ∀ j u, news[j]? = some u → w.cell? (a.add j) = some u) (h1 : ∀ u ∈ news, u.oneCell' = true)
    (h63 : n + m ≤ maxLen) (hbytes : (n + m) * bytes ≤ 140737488355328) (hbase : base ≤ w.heap.size) :
    ∃ v' w', (Builtin.append_ #[t, t] ty #[v, .slice (some a) m c]).run P w = .ok v' w' ∧ w'.ownsRow base e size v' (n + m) (xs ++ news) ∧ w.grownBy w' v.ownBlock ∧
      (v'.ownBlock = v.ownBlock ∨ ∃ g, v'.ownBlock = some g ∧ w.heap.size ≤ g) := by
  obtain ⟨v', w', hr, h2, h3, h4⟩ := run_append_own (P := P) w base t ty e i z size bytes ht hi hz hsize hby hzs hsz v n xs hown a m c news hl hnews h1 h63 hbytes hbase
  refine ⟨v', w', hr, h2, h3, ?_⟩
  rcases hown.2 with ⟨rfl, rfl⟩ | ⟨g, cap, cur, rfl, _⟩
  · by_cases hm : m = 0
    · left
      rw [h4.2 ⟨rfl, hm⟩]
    · right
      obtain ⟨v2, w2, hr2, h22, _⟩ := run_append_own (P := P) w w.heap.size t ty e i z size bytes ht hi hz hsize hby hzs hsz (.slice none 0 0) 0 [] (World.ownsRow_nil w _ e size) a m c news hl hnews h1 h63 hbytes (Nat.le_refl _)
      have hx : v' = v2 := by rw [hr] at hr2; injection hr2
      subst hx
      rcases h22.2 with ⟨_, h0⟩ | ⟨g, cap, cur, hv, hg, _⟩
      · omega
      · exact ⟨g, by rw [hv]; rfl, hg⟩
  · by_cases hroom : n + m ≤ cap
    · left
      obtain ⟨w2, hr2, _⟩ := run_append_fits (P := P) w base t ty e i size ht hi hsize g n cap xs hown a m c news hl hnews h1 hroom
      rw [hr] at hr2
      injection hr2 with hx
      rw [hx]
      rfl
    · right
      have hxs : xs.length = n * i.size := by rw [hsize]; exact hown.1
      have holds : ∀ j u, xs[j]? = some u → w.cell? ((⟨g, 0, none⟩ : Addr).add j) = some u := hown.cells (g := g) rfl
      have hr2 := run_append_grow (P := P) w t ty e i z ht hi hz ⟨g, 0, none⟩ n cap xs hxs holds a m c news (by rw [hl, hsize]) hnews (by omega) (by simp only [maxLen] at h63; omega) (growslice_fits (by omega) (by rw [hby]; exact hbytes))
      rw [hr] at hr2
      injection hr2 with hx
      rw [hx]
      exact ⟨w.heap.size, rfl, Nat.le_refl _⟩

theorem wpList_append_own2 {w : World} {ops : Array Oper} {rest : List Oper} {o : Oper} {a : Act} {Q : Exit → Act → World → Prop} (hgd : o.guard = none) (s x : Operand) (t : TypeId)
    (ho : o.op = .call { callee := .builtin .append, args := #[s, x], argTypes := #[t, t] })
    (base : Nat) (e : TypeId) (i : TypeInfo) (z : Value) (size bytes : Nat) (ht : P.underlying t = some (.slice e)) (hi : P.info? e = some i) (hz : i.zero = some z)
    (hsize : i.size = size) (hby : i.bytes = bytes) (hzs : z.cells.size = size) (hsz : 0 < size)
    (v : Value) (n : Nat) (xs : List Value) (hs : a.eval s = v) (hown : w.ownsRow base e size v n xs)
    (ad : Addr) (m c : Nat) (news : List Value) (hx : a.eval x = .slice (some ad) m c) (hl : news.length = m * size) (hnews : ∀ j u, news[j]? = some u → w.cell? (ad.add j) = some u) (h1 : ∀ u ∈ news, u.oneCell' = true)
    (h63 : n + m ≤ maxLen) (hbytes : (n + m) * bytes ≤ 140737488355328) (hbase : base ≤ w.heap.size)
    (h : ∀ v' w', w'.ownsRow base e size v' (n + m) (xs ++ news) → w.grownBy w' v.ownBlock → (v'.ownBlock = v.ownBlock ∨ ∃ g, v'.ownBlock = some g ∧ w.heap.size ≤ g) → wpList P ops Q rest (a.put o.dst v') w') : wpList P ops Q (o :: rest) a w := by
  refine wpList_plain hgd fun K hK => ?_
  obtain ⟨v', w', hr, h2, h3, h4⟩ := run_append_own2 (P := P) w base t o.type e i z size bytes ht hi hz hsize hby hzs hsz v n xs hown ad m c news hl hnews h1 h63 hbytes hbase
  unfold Oper.wp execOp
  simp only [ho, resolve, invoke, builtin, Sem.run_bind, Sem.run_pure, Result.andThen_ok, List.map_toArray, List.map_cons, List.map_nil, hs, hx, hr]
  exact hK _ _ (h v' w' h2 h3 h4)

theorem run_append_string2 (w : World) (base : Nat) (t u ty e : TypeId) (i : TypeInfo) (ht : P.underlying t = some (.slice e)) (hu : P.underlying u = some .string) (hi : P.info? e = some i) (hz : i.zero = some (.int .u8 0))
    (hsize : i.size = 1) (hby : i.bytes = 1)
    (v : Value) (n : Nat) (xs : List Value) (hown : w.ownsRow base e 1 v n xs) (s : ByteArray)
    (h63 : n + s.size ≤ maxLen) (hbytes : n + s.size ≤ 140737488355328) (hbase : base ≤ w.heap.size) :
    ∃ v' w', (Builtin.append_ #[t, u] ty #[v, .string s]).run P w = .ok v' w' ∧ w'.ownsRow base e 1 v' (n + s.size) (xs ++ Lib.strCells s) ∧ w.grownBy w' v.ownBlock ∧
      (v'.ownBlock = v.ownBlock ∨ ∃ g, v'.ownBlock = some g ∧ w.heap.size ≤ g) := by
  obtain ⟨v', w', hr, h2, h3, h4⟩ := Lib.run_append_own_string (P := P) w base t u ty e i ht hu hi hz hsize hby v n xs hown s h63 hbytes hbase
  refine ⟨v', w', hr, h2, h3, ?_⟩
  rcases hown.2 with ⟨rfl, rfl⟩ | ⟨g, cap, cur, rfl, _, hg, _, _, hcs, _⟩
  · by_cases hm : s.size = 0
    · left
      rw [h4.2 ⟨rfl, hm⟩]
    · right
      obtain ⟨v2, w2, hr2, h22, _⟩ := Lib.run_append_own_string (P := P) w w.heap.size t u ty e i ht hu hi hz hsize hby (.slice none 0 0) 0 [] (World.ownsRow_nil w _ e 1) s h63 hbytes (Nat.le_refl _)
      have hx : v' = v2 := by rw [hr] at hr2; injection hr2
      subst hx
      rcases h22.2 with ⟨_, h0⟩ | ⟨g, cap, cur, hv, hg, _⟩
      · omega
      · exact ⟨g, by rw [hv]; rfl, hg⟩
  · rw [Nat.mul_one] at hcs
    by_cases hroom : n + s.size ≤ cap
    · left
      have hr2 := Lib.run_append_room_string (P := P) w t u ty e i ht hu hi hsize g n cap cur hg s hroom (by omega)
      rw [hr] at hr2
      injection hr2 with hx
      rw [hx]
      rfl
    · right
      have holds : ∀ j u, xs[j]? = some u → w.cell? ((⟨g, 0, none⟩ : Addr).add j) = some u := hown.cells (g := g) rfl
      have hr2 := Lib.run_append_grow_string (P := P) w t u ty e i (.int .u8 0) ht hu hi hz ⟨g, 0, none⟩ n cap xs (by rw [hsize]; exact hown.1) holds s (by omega) (by simp only [maxLen] at h63; omega) (by rw [hby]; exact growslice_fits (by omega) (by omega))
      rw [hr] at hr2
      injection hr2 with hx
      rw [hx]
      exact ⟨w.heap.size, rfl, Nat.le_refl _⟩

theorem wpList_append_string2 {w : World} {ops : Array Oper} {rest : List Oper} {o : Oper} {a : Act} {Q : Exit → Act → World → Prop} (hgd : o.guard = none) (sl x : Operand) (t u : TypeId)
    (ho : o.op = .call { callee := .builtin .append, args := #[sl, x], argTypes := #[t, u] })
    (base : Nat) (e : TypeId) (i : TypeInfo) (ht : P.underlying t = some (.slice e)) (hu : P.underlying u = some .string) (hi : P.info? e = some i) (hz : i.zero = some (.int .u8 0))
    (hsize : i.size = 1) (hby : i.bytes = 1)
    (v : Value) (n : Nat) (xs : List Value) (hs : a.eval sl = v) (hown : w.ownsRow base e 1 v n xs) (s : ByteArray) (hx : a.eval x = .string s)
    (h63 : n + s.size ≤ maxLen) (hbytes : n + s.size ≤ 140737488355328) (hbase : base ≤ w.heap.size)
    (h : ∀ v' w', w'.ownsRow base e 1 v' (n + s.size) (xs ++ Lib.strCells s) → w.grownBy w' v.ownBlock → (v'.ownBlock = v.ownBlock ∨ ∃ g, v'.ownBlock = some g ∧ w.heap.size ≤ g) → wpList P ops Q rest (a.put o.dst v') w') : wpList P ops Q (o :: rest) a w := by
  refine wpList_plain hgd fun K hK => ?_
  obtain ⟨v', w', hr, h2, h3, h4⟩ := run_append_string2 (P := P) w base t u o.type e i ht hu hi hz hsize hby v n xs hown s h63 hbytes hbase
  unfold Oper.wp execOp
  simp only [ho, resolve, invoke, builtin, Sem.run_bind, Sem.run_pure, Result.andThen_ok, List.map_toArray, List.map_cons, List.map_nil, hs, hx, hr]
  exact hK _ _ (h v' w' h2 h3 h4)

theorem byteCells_one (l : List UInt8) : ∀ u ∈ Lib.byteCells l, u.oneCell' = true := by
  intro u hu
  obtain ⟨b, _, rfl⟩ := List.mem_map.1 hu
  rfl

theorem byteCells_patch (l : List UInt8) (p : Nat) (bs : List UInt8) : Lib.byteCells (patch l p bs) = (Lib.byteCells l).take p ++ (Lib.byteCells bs ++ (Lib.byteCells l).drop (p + bs.length)) := by
  simp [Lib.byteCells, patch]

/-- Bytes put over others in a row of the call's own. -/
theorem wpList_copy_patch {w : World} {ops : Array Oper} {rest : List Oper} {o : Oper} {a : Act} {Q : Exit → Act → World → Prop} (hgd : o.guard = none) (d s : Operand) (dT sT : TypeId)
    (ho : o.op = .call { callee := .builtin .copy, args := #[d, s], argTypes := #[dT, sT] }) (e : TypeId) (hu : P.underlying dT = some (.slice e)) (hsz : (P.info? e).map (·.size) = some 1)
    (base g p n cap : Nat) (l bs : List UInt8) (hown : w.ownsRow base e 1 (.slice (some ⟨g, 0, none⟩) n cap) n (Lib.byteCells l))
    (dLen dCap : Nat) (hd : a.eval d = .slice (some ⟨g, p, none⟩) dLen dCap) (hdl : bs.length ≤ dLen) (hfit : p + bs.length ≤ n)
    (ad : Addr) (sCap : Nat) (hs : a.eval s = .slice (some ad) bs.length sCap) (hsrc : ∀ j u, (Lib.byteCells bs)[j]? = some u → w.cell? (ad.add j) = some u)
    (h : ∀ w', w'.ownsRow base e 1 (.slice (some ⟨g, 0, none⟩) n cap) n (Lib.byteCells (patch l p bs)) → w.grownBy w' (some g) → wpList P ops Q rest (a.put o.dst (goInt bs.length)) w') :
    wpList P ops Q (o :: rest) a w := by
  rcases hown.2 with ⟨h', _⟩ | ⟨g', cap', cur, h', hb, hg, hnc, hcm, hcs, htake⟩
  · simp at h'
  · simp only [Value.slice.injEq, Option.some.injEq, Addr.mk.injEq, and_true, true_and] at h'
    obtain ⟨rfl, rfl⟩ := h'
    rw [Nat.mul_one] at hcs htake
    have hbl : (Lib.byteCells bs).length = bs.length := Lib.byteCells_length bs
    refine wpList_copy_own hgd d s dT sT ho e hu hsz g p dLen dCap ad bs.length sCap hd hs cur e hg (Lib.byteCells bs) (by rw [hbl]; exact (Nat.min_eq_left hdl).symm) hsrc (by rw [hbl]; omega) (byteCells_one bs) ?_
    rw [hbl]
    refine h _ ⟨?_, .inr ⟨g, cap, _, rfl, hb, setRow_heap w g cur _ e _ hg, hnc, hcm, ?_, ?_⟩⟩ ⟨rfl, rfl, rfl, by simp, fun k _ hk => setRow_other w g k _ (fun e => hk (by simp [e]))⟩
    · have h1 := hown.1
      rw [Lib.byteCells_length] at h1 ⊢
      rw [patch_length _ _ _ (by omega)]
      exact h1
    · simp only [List.size_toArray, List.length_append, List.length_take, List.length_drop, Array.length_toList, hbl]
      omega
    · rw [byteCells_patch, Nat.mul_one]
      simp only [← htake]
      rw [List.take_append, List.take_append]
      simp only [List.length_take, Array.length_toList, hbl]
      rw [List.take_take, List.take_take, List.drop_take, show min p cur.size = p by omega, show min n p = min p n by omega, show n - p - bs.length = n - (p + bs.length) by omega, List.take_of_length_le (l := Lib.byteCells bs) (by rw [hbl]; omega)]
end

/-- Block r is neither block M nor the row that its first cell owns. -/
def MkOther (M r : Nat) (w : World) : Prop := r ≠ M ∧ ∀ v, w.cell? ⟨M, 0, none⟩ = some v → v.ownBlock ≠ some r

/-- What is neither block M nor its row stands, and goes on being neither. -/
structure Moves (M : Nat) (w w' : World) : Prop where
  os : w'.os = w.os
  tape : w'.tape = w.tape
  output : w'.output = w.output
  size : w.heap.size ≤ w'.heap.size
  keep : ∀ r, r < w.heap.size → MkOther M r w → w'.heap[r]? = w.heap[r]? ∧ MkOther M r w'

theorem Moves.refl (M : Nat) (w : World) : Moves M w w := ⟨rfl, rfl, rfl, Nat.le_refl _, fun r _ h => ⟨rfl, h⟩⟩

theorem Moves.trans {M : Nat} {w w' w'' : World} (h : Moves M w w') (h' : Moves M w' w'') : Moves M w w'' :=
  ⟨h'.os.trans h.os, h'.tape.trans h.tape, h'.output.trans h.output, Nat.le_trans h.size h'.size, fun r hr ho => by
    obtain ⟨h1, h2⟩ := h.keep r hr ho
    obtain ⟨h3, h4⟩ := h'.keep r (Nat.lt_of_lt_of_le hr h.size) h2
    exact ⟨h3.trans h1, h4⟩⟩

/-- Writes to blocks that are new since w. -/
theorem Moves.grown {M : Nat} {w w1 w2 : World} (h : Moves M w w1) {row : Option Nat} (hg : w1.grownBy w2 row) (hM : M < w1.heap.size) (hne : some M ≠ row) (hrow : ∀ k, row = some k → w.heap.size ≤ k) : Moves M w w2 :=
  ⟨hg.os.trans h.os, hg.tape.trans h.tape, hg.output.trans h.output, Nat.le_trans h.size hg.size, fun r hr ho => by
    obtain ⟨h1, h2⟩ := h.keep r hr ho
    have hM2 : w2.heap[M]? = w1.heap[M]? := hg.block M hM hne
    refine ⟨(hg.block r (Nat.lt_of_lt_of_le hr h.size) (fun e => by have := hrow r e.symm; omega)).trans h1, h2.1, fun v hv => h2.2 v ?_⟩
    unfold World.cell? at hv ⊢
    rwa [hM2] at hv⟩

theorem grownBy_below {w w' : World} (h : Below w.heap.size w w') : w.grownBy w' none := ⟨h.os, h.tape, h.output, h.size, fun k hk _ => h.block k hk⟩

theorem Moves.below {M : Nat} {w w1 w2 : World} (h : Moves M w w1) (hb : Below w1.heap.size w1 w2) (hM : M < w1.heap.size) : Moves M w w2 :=
  h.grown (grownBy_below hb) hM (by simp) (by simp)

theorem Moves.alloc {M : Nat} {w w1 : World} (h : Moves M w w1) (hM : M < w1.heap.size) (o : Obj) : Moves M w (w1.alloc o) :=
  h.below ((Below.refl _ w1).alloc (Nat.le_refl _) _) hM

theorem Moves.drew {M : Nat} {w w1 : World} (h : Moves M w w1) : Moves M w w1.drew := ⟨h.os, h.tape, h.output, h.size, h.keep⟩

/-- The row is appended to, and put back. -/
theorem Moves.append {M : Nat} {w w1 w2 : World} (h : Moves M w w1) {v v' : Value} (hc : w1.cell? ⟨M, 0, none⟩ = some v) (hg : w1.grownBy w2 v.ownBlock) (hv : v'.ownBlock = v.ownBlock ∨ ∃ g, v'.ownBlock = some g ∧ w1.heap.size ≤ g)
    (hc2 : w2.cell? ⟨M, 0, none⟩ = some v) : Moves M w (w2.setCell ⟨M, 0, none⟩ v') :=
  ⟨hg.os.trans h.os, hg.tape.trans h.tape, hg.output.trans h.output, by simpa [World.setCell] using Nat.le_trans h.size hg.size, fun r hr ho => by
    obtain ⟨h1, h2⟩ := h.keep r hr ho
    have hr1 : r < w1.heap.size := Nat.lt_of_lt_of_le hr h.size
    refine ⟨(Below.heap_setCell _ _ _ _ h2.1).trans ((hg.block r hr1 (fun e => h2.2 v hc e.symm)).trans h1), h2.1, fun u hu => ?_⟩
    have : u = v' := by
      unfold World.cell? at hc2
      unfold World.cell? World.setCell at hu
      simp only [Array.getElem?_modify, if_true] at hu
      split at hc2
      · rename_i c T z hz
        rw [hz] at hu
        simp only [Option.map_some] at hu
        simp at hc2 hu
        have hlt : 0 < c.size := by
          rcases Nat.lt_or_ge 0 c.size with h' | h'
          · exact h'
          · simp [Array.getElem?_eq_none h'] at hc2
        simp [Array.getElem?_setIfInBounds, hlt] at hu
        exact hu.symm
      · cases hc2
    subst this
    rcases hv with hv | ⟨g, hv, hge⟩
    · rw [hv]; exact h2.2 v hc
    · rw [hv]; intro e; cases e; omega⟩

/-- Bytes of the row are put over others. -/
theorem Moves.over {M : Nat} {w w1 w2 : World} (h : Moves M w w1) {v : Value} (hc : w1.cell? ⟨M, 0, none⟩ = some v) (hg : w1.grownBy w2 v.ownBlock) (hM : M < w1.heap.size) (hne : some M ≠ v.ownBlock) : Moves M w w2 :=
  ⟨hg.os.trans h.os, hg.tape.trans h.tape, hg.output.trans h.output, Nat.le_trans h.size hg.size, fun r hr ho => by
    obtain ⟨h1, h2⟩ := h.keep r hr ho
    have hM2 : w2.heap[M]? = w1.heap[M]? := hg.block M hM hne
    refine ⟨(hg.block r (Nat.lt_of_lt_of_le hr h.size) (fun e => h2.2 v hc e.symm)).trans h1, h2.1, fun u hu => h2.2 u ?_⟩
    unfold World.cell? at hu ⊢
    rwa [hM2] at hu⟩

/-- Block M is a maker (its row of bytes first, then a flag); what it has written. -/
def MkAt (T e : TypeId) (M : Nat) (base : Bool) (out : List UInt8) (w : World) : Prop :=
  ∃ v, w.heap[M]? = some (.cells #[v, .bool base] T (0, 0)) ∧ w.ownsRow 0 e 1 v out.length (Lib.byteCells out) ∧ v.ownBlock ≠ some M

section
variable {T e : TypeId} {M : Nat} {base : Bool} {out : List UInt8} {w w' : World}

theorem MkAt.lt (h : MkAt T e M base out w) : M < w.heap.size := by
  obtain ⟨v, h, _⟩ := h
  exact (Array.getElem?_eq_some_iff.1 h).1

theorem MkAt.form (h : MkAt T e M base out w) : ∃ a c, w.cell? ⟨M, 0, none⟩ = some (.slice a out.length c) ∧ w.cell? ⟨M, 1, none⟩ = some (.bool base) ∧ (∀ i, w.frozen? ⟨M, i, none⟩ = false) ∧
    w.heap[M]? = some (.cells #[.slice a out.length c, .bool base] T (0, 0)) ∧ w.ownsRow 0 e 1 (.slice a out.length c) out.length (Lib.byteCells out) ∧ (Value.slice a out.length c).ownBlock ≠ some M := by
  obtain ⟨v, h, hown, hne⟩ := h
  have : ∃ a c, v = .slice a out.length c := by
    rcases hown.2 with ⟨rfl, h0⟩ | ⟨g, cap, cur, rfl, _⟩
    · rw [h0]; exact ⟨none, 0, rfl⟩
    · exact ⟨_, _, rfl⟩
  obtain ⟨a, c, rfl⟩ := this
  exact ⟨a, c, by rw [Lib.cell_of_heap h]; rfl, by rw [Lib.cell_of_heap h]; rfl, fun i => Lib.frozen_of_heap h i, h, hown, hne⟩

theorem MkAt.grown (h : MkAt T e M base out w) {row : Option Nat} (hg : w.grownBy w' row) (hrow : ∀ k, row = some k → MkOther M k w) : MkAt T e M base out w' := by
  obtain ⟨v, h, hown, hne⟩ := h
  have hc : w.cell? ⟨M, 0, none⟩ = some v := by rw [Lib.cell_of_heap h]; rfl
  refine ⟨v, (hg.block M (Array.getElem?_eq_some_iff.1 h).1 (fun e => (hrow M e.symm).1 rfl)).trans h, hown.kept hg ?_, hne⟩
  cases hv : v.ownBlock with
  | none => exact .inl rfl
  | some g => exact .inr fun e => (hrow g e.symm).2 v hc hv

theorem MkAt.below (h : MkAt T e M base out w) (hb : Below w.heap.size w w') : MkAt T e M base out w' := h.grown (grownBy_below hb) (by simp)
theorem MkAt.alloc (h : MkAt T e M base out w) (o : Obj) : MkAt T e M base out (w.alloc o) := h.below ((Below.refl _ w).alloc (Nat.le_refl _) _)
theorem MkAt.drew (h : MkAt T e M base out w) : MkAt T e M base out w.drew := h

/-- A new block is neither the maker nor its row. -/
theorem MkAt.newer (h : MkAt T e M base out w) {g : Nat} (hg : w.heap.size ≤ g) (hc : w'.cell? ⟨M, 0, none⟩ = w.cell? ⟨M, 0, none⟩) : MkOther M g w' := by
  obtain ⟨v, h, hown, hne⟩ := h
  refine ⟨by have := (Array.getElem?_eq_some_iff.1 h).1; omega, fun u hu hgu => ?_⟩
  rw [hc, Lib.cell_of_heap h] at hu
  obtain rfl : v = u := by simpa using hu
  have := (hown.lt g hgu).2
  omega

theorem MkAt.put {v v' : Value} {out' : List UInt8} {w1 w2 : World} (h : w1.heap[M]? = some (.cells #[v, .bool base] T (0, 0))) (hne : v.ownBlock ≠ some M) (hg : w1.grownBy w2 v.ownBlock) (hv : v'.ownBlock = v.ownBlock ∨ ∃ g, v'.ownBlock = some g ∧ w1.heap.size ≤ g)
    (hown : w2.ownsRow 0 e 1 v' out'.length (Lib.byteCells out')) : MkAt T e M base out' (w2.setCell ⟨M, 0, none⟩ v') := by
  have hM := (Array.getElem?_eq_some_iff.1 h).1
  have h2 : w2.heap[M]? = some (.cells #[v, .bool base] T (0, 0)) := (hg.block M hM (fun e => hne e.symm)).trans h
  have hne' : v'.ownBlock ≠ some M := by
    rcases hv with hv | ⟨g, hv, hge⟩
    · rw [hv]; exact hne
    · rw [hv]; intro e; cases e; omega
  refine ⟨v', by simp [World.setCell, Array.getElem?_modify, h2], ?_, hne'⟩
  refine hown.kept (row := some M) ⟨rfl, rfl, rfl, by simp [World.setCell], fun k hk hkM => Below.heap_setCell _ _ _ _ (by intro e; exact hkM (by rw [e]))⟩ ?_
  exact .inr hne'
end

section
variable {P : Program}

def zeroText (k : Nat) : ByteArray := ⟨Array.replicate k 0⟩
theorem zeroText_size (k : Nat) : (zeroText k).size = k := by
  show (Array.replicate k (0 : UInt8)).size = k
  simp
theorem zeroText_cells (k : Nat) : Lib.strCells (zeroText k) = Lib.byteCells (List.replicate k 0) := by
  show Lib.byteCells (Array.replicate k (0 : UInt8)).toList = _
  simp

theorem zeros_same (k : Nat) : ((zeroText k).extract 0 k).data.map (fun b => Value.int .u8 (b.toNat : Int)) = Builtin.zeroCells #[.int .u8 0] k := by
  have h : (zeroText k).extract 0 k = zeroText k := by
    have := ByteArray.extract_zero_size (b := zeroText k)
    rwa [zeroText_size] at this
  rw [h]
  apply Array.ext
  · simp [zeroText, Builtin.zeroCells]
  · intro i h1 h2
    simp [zeroText, Builtin.zeroCells, Nat.mod_one]

theorem zeros_same2 (k : Nat) : ((zeroText k).data.map (fun b => Value.int .u8 (b.toNat : Int))).extract 0 k = Builtin.zeroCells #[.int .u8 0] k := by
  apply Array.ext
  · simp [zeroText, Builtin.zeroCells]
  · intro i h1 h2
    simp [zeroText, Builtin.zeroCells, Nat.mod_one]

theorem zeros_same3 (k : Nat) : List.take k ((zeroText k).data.toList.map (fun b => Value.int .u8 (b.toNat : Int))) = (Builtin.zeroCells #[.int .u8 0] k).toList := by
  rw [← zeros_same2]
  simp

theorem append_zeros_eq (w : World) (t u tn ty e : TypeId) (i : TypeInfo) (kn kq : IntKind) (ht : P.underlying t = some (.slice e)) (hu : P.underlying u = some .string) (htn : P.underlying tn = some (.int kn)) (hi : P.info? e = some i) (hz : i.zero = some (.int .u8 0)) (hsize : i.size = 1) (hby : i.bytes = 1)
    (base : Option Addr) (sLen sCap k : Nat) (hk0 : 0 < k) (hbig : sLen + k ≤ 140737488355328) (hfit : Builtin.nextslicecap (sLen + k) sCap ≤ 281474976710656 ∨ sLen + k ≤ sCap) :
    (Builtin.append_ #[t, tn] ty #[.slice base sLen sCap, .int kq k]).run P w = (Builtin.append_ #[t, u] ty #[.slice base sLen sCap, .string (zeroText k)]).run P w := by
  have hw : IntKind.i64.wrap (k : Int) = k := by rw [IntKind.wrap_i64]; omega
  have hneg : ¬ ((k : Int) < 0) := by omega
  have h48 : ¬ (281474976710656 < (k : Int)) := by omega
  have h63 : ¬ (9223372036854775807 < ((sLen : Int) + (k : Int))) := by omega
  have hk : k ≠ 0 := by omega
  have hsz := zeroText_size k
  by_cases hroom : sLen + k ≤ sCap
  · simp [Builtin.append_, run_underlying ht, run_underlying htn, run_underlying hu, sizeOf, typeInfo, zeroValue, hi, hz, hsize, hby, asInt, asIntOf, hw, hneg, h48, h63, hk, hroom, hsz, Builtin.lenOf, Builtin.firstCells, Value.cells]
    simp only [zeros_same3]
  · have hfit' : ¬ (281474976710656 < Builtin.nextslicecap (sLen + k) sCap) := by
      rcases hfit with h | h
      · omega
      · exact absurd h hroom
    simp [Builtin.append_, run_underlying ht, run_underlying htn, run_underlying hu, sizeOf, typeInfo, zeroValue, hi, hz, hsize, hby, asInt, asIntOf, hw, hneg, h48, h63, hk, hroom, hfit', hsz, Builtin.lenOf, Builtin.firstCells, Value.cells]
    simp only [zeros_same2]

theorem wpList_append_zeros2 {w : World} {ops : Array Oper} {rest : List Oper} {o : Oper} {a : Act} {Q : Exit → Act → World → Prop} (hgd : o.guard = none) (sl x : Operand) (t tn u : TypeId)
    (ho : o.op = .call { callee := .builtin .append, args := #[sl, x], argTypes := #[t, tn] })
    (base : Nat) (e : TypeId) (i : TypeInfo) (kn kq : IntKind) (ht : P.underlying t = some (.slice e)) (hu : P.underlying u = some .string) (htn : P.underlying tn = some (.int kn)) (hi : P.info? e = some i) (hz : i.zero = some (.int .u8 0))
    (hsize : i.size = 1) (hby : i.bytes = 1)
    (ad : Option Addr) (cap n : Nat) (xs : List Value) (hs : a.eval sl = .slice ad n cap) (hown : w.ownsRow base e 1 (.slice ad n cap) n xs) (k : Nat) (hk0 : 0 < k) (hx : a.eval x = .int kq k)
    (hbig : n + k ≤ 1000000000) (hbase : base ≤ w.heap.size)
    (h : ∀ v' w', w'.ownsRow base e 1 v' (n + k) (xs ++ Lib.byteCells (List.replicate k 0)) → w.grownBy w' (Value.slice ad n cap).ownBlock → (v'.ownBlock = (Value.slice ad n cap).ownBlock ∨ ∃ g, v'.ownBlock = some g ∧ w.heap.size ≤ g) → wpList P ops Q rest (a.put o.dst v') w') : wpList P ops Q (o :: rest) a w := by
  refine wpList_plain hgd fun K hK => ?_
  have h63 : n + (zeroText k).size ≤ maxLen := by rw [zeroText_size]; unfold maxLen; omega
  have hbytes : n + (zeroText k).size ≤ 140737488355328 := by rw [zeroText_size]; omega
  obtain ⟨v', w', hr, h2, h3, h4⟩ := run_append_string2 (P := P) w base t u o.type e i ht hu hi hz hsize hby _ n xs hown (zeroText k) h63 hbytes hbase
  rw [zeroText_size, zeroText_cells] at h2
  have heq := append_zeros_eq (P := P) w t u tn o.type e i kn kq ht hu htn hi hz hsize hby ad n cap k hk0 (by omega) (by
    by_cases hroom : n + k ≤ cap
    · exact .inr hroom
    · left
      have := growslice_fits (need := n + k) (old := cap) (bytes := 1) (by omega) (by omega)
      omega)
  unfold Oper.wp execOp
  simp only [ho, resolve, invoke, builtin, Sem.run_bind, Sem.run_pure, Result.andThen_ok, List.map_toArray, List.map_cons, List.map_nil, hs, hx, heq, hr]
  exact hK _ _ (h v' w' h2 h3 h4)
end

end Go.Proofs.YtgceklahjdbipaaGreatDoor
