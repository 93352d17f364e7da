/- Maps with integers as keys that a literal makes: what they hold, how an entry is put in, how one is looked up. spec.shape and spec.classKinds: what they give at every number. spec.in, spec.classKinds and the kinds' classes: what they give at every number. -/
import Derived.Test.YtkohgndmhgcgeaaGreatDoorRows
import Derived.WalkKit
import Derived.Maps.Own
import Derived.Lib.Hide
import Derived.Lib.BufferOwn
import Derived.WalkLawsBesides
import Derived.Outline
import Derived.BigCall
import Derived.LoopTactic
namespace Go.Proofs.YtkohgndmhgcgeaaGreatDoor
open Go Go.RowKit Go.MapKept
set_option linter.unusedVariables false
set_option linter.unusedSimpArgs false

/-- Block m is a map with these entries. -/
def MapI (w : World) (m : Nat) (es : List (Int × Value)) : Prop :=
  ∃ (arr : Array MapEntry) (clock : Nat), w.heap[m]? = some (.map arr clock) ∧ arr.toList.map (fun e => (e.key, e.val)) = es.map (fun p => (Value.int .i64 p.1, p.2))

/-- What stands at a key. -/
def lookI (es : List (Int × Value)) (k : Int) : Option Value := (es.find? (fun p => p.1 == k)).map (·.2)

theorem MapI.lt {w : World} {m : Nat} {es : List (Int × Value)} (h : MapI w m es) : m < w.heap.size := by
  obtain ⟨_, _, h, _⟩ := h
  exact (Array.getElem?_eq_some_iff.1 h).1

theorem MapI.kept {w w' : World} {m : Nat} {es : List (Int × Value)} {row : Option Nat} (h : MapI w m es) (hg : w.grownBy w' row) (hne : some m ≠ row) : MapI w' m es := by
  have hlt := h.lt
  obtain ⟨arr, c, hb, he⟩ := h
  exact ⟨arr, c, (hg.block m hlt hne).trans hb, he⟩

theorem MapI.made (w : World) : MapI (w.alloc (.map #[] 0)) w.heap.size [] := ⟨#[], 0, heap_alloc_new w _, rfl⟩

theorem findNow_look (k : Int) : ∀ (l : List MapEntry) (es : List (Int × Value)) (i : Nat), l.map (fun e => (e.key, e.val)) = es.map (fun p => (Value.int .i64 p.1, p.2)) →
    ∃ r, Instr.findNow (.int .i64) (.int .i64 k) l i = some r ∧ r.map (·.2) = lookI es k
  | [], [], _, _ => ⟨none, rfl, rfl⟩
  | [], _ :: _, _, h => by simp at h
  | _ :: _, [], _, h => by simp at h
  | e :: l, p :: es, i, h => by
    simp only [List.map_cons, List.cons.injEq, Prod.mk.injEq] at h
    obtain ⟨⟨hk, hv⟩, ht⟩ := h
    by_cases hp : p.1 = k
    · refine ⟨some (i, e.val), ?_, ?_⟩
      · simp [Instr.findNow, hk, Instr.sameNow, hp]
      · simp [lookI, hp, hv]
    · obtain ⟨r, h1, h2⟩ := findNow_look k l es (i + 1) ht
      refine ⟨r, ?_, ?_⟩
      · have hf : (k == p.1) = false := by simpa using Ne.symm hp
        simp [Instr.findNow, hk, Instr.sameNow, hf, h1]
      · rw [h2]; simp [lookI, hp]

/-- An entry at a new key. -/
theorem run_insertI {P : Program} {t kt e : TypeId} (ht : P.underlying t = some (.map kt e)) (hkt : P.underlying kt = some (.int .i64)) {w : World} {m : Nat} {es : List (Int × Value)} (h : MapI w m es) (k : Int) (v : Value) (hk : lookI es k = none) :
    ∃ w', (Instr.mapUpdate t (.map (some m)) (.int .i64 k) v).run P w = .ok () w' ∧ MapI w' m (es ++ [(k, v)]) ∧ w.grownBy w' (some m) := by
  obtain ⟨arr, c, hb, he⟩ := h
  obtain ⟨r, h1, h2⟩ := findNow_look k arr.toList es 0 he
  rw [hk] at h2
  cases r with
  | some r => cases h2
  | none =>
    have hkey : IsKey (.int .i64) (.int .i64 k) := rfl
    refine ⟨{ w with heap := w.heap.setIfInBounds m (.map (arr.push { key := .int .i64 k, val := v, born := c }) (c + 1)) }, ?_, ⟨_, _, (MapKept.heap_set hb).1, ?_⟩, ⟨rfl, rfl, rfl, by simp, fun i _ hi => (MapKept.heap_set hb).2 i (fun q => hi (by rw [q]))⟩⟩
    · simp [Instr.mapUpdate, run_underlying ht, MapKept.run_getObj_map hb, MapKept.run_checkKey hkt hkey, MapKept.run_findKey hkt h1, MapKept.run_setObj_map _ hb, Result.andThen]
    · simp [he]

/-- 'm[k]'. -/
theorem run_lookI {P : Program} {t kt e : TypeId} (ht : P.underlying t = some (.map kt e)) (hkt : P.underlying kt = some (.int .i64)) {w : World} {m : Nat} {es : List (Int × Value)} (h : MapI w m es) (z : Value) (hz : (zeroValue e).run P w = .ok z w) (k : Int) :
    (Instr.lookup t (.map (some m)) (.int .i64 k) false).run P w = .ok ((lookI es k).getD z) w := by
  obtain ⟨arr, c, hb, he⟩ := h
  obtain ⟨r, h1, h2⟩ := findNow_look k arr.toList es 0 he
  have hkey : IsKey (.int .i64) (.int .i64 k) := rfl
  rw [← h2]
  cases r with
  | none => simp [Instr.lookup, run_underlying ht, MapKept.run_getObj_map hb, MapKept.run_checkKey hkt hkey, MapKept.run_findKey hkt h1, Result.andThen, hz]
  | some r => simp [Instr.lookup, run_underlying ht, MapKept.run_getObj_map hb, MapKept.run_checkKey hkt hkey, MapKept.run_findKey hkt h1, Result.andThen]

/-- The same at the operation. -/
theorem wpList_insertI {P : Program} (w : World) {ops : Array Oper} {rest : List Oper} {o : Oper} {a : Act} {Q : Exit → Act → World → Prop}
    (hg : o.guard = none) (m x v : Operand) (t : TypeId) (hop : o.op = Op.insert t m x v) {kt e : TypeId} (ht : P.underlying t = some (.map kt e)) (hkt : P.underlying kt = some (.int .i64))
    (b : Nat) (es : List (Int × Value)) (hown : MapI w b es) (k : Int) (val : Value) (hm : a.eval m = .map (some b)) (hx : a.eval x = .int .i64 k) (hv : a.eval v = val) (hk : lookI es k = none)
    (hK : ∀ w', MapI w' b (es ++ [(k, val)]) → w.grownBy w' (some b) → wpList P ops Q rest (a.put o.dst undef) w') :
    wpList P ops Q (o :: rest) a w := by
  refine wpList_plain hg fun K' hK' => ?_
  obtain ⟨w', hrun, r1, r2⟩ := run_insertI ht hkt hown k val hk
  unfold Oper.wp
  simp [execOp, hop, hm, hx, hv, hrun, Result.andThen]
  exact hK' _ _ (hK w' r1 r2)

/-- 'm[k]' at the operation. -/
theorem wpList_lookI {P : Program} (w : World) {ops : Array Oper} {rest : List Oper} {o : Oper} {a : Act} {Q : Exit → Act → World → Prop}
    (hg : o.guard = none) (m x : Operand) (t : TypeId) (hop : o.op = Op.lookup t m x false) {kt e : TypeId} (ht : P.underlying t = some (.map kt e)) (hkt : P.underlying kt = some (.int .i64))
    (z : Value) (hz : (zeroValue e).run P w = .ok z w)
    (b : Nat) (es : List (Int × Value)) (hown : MapI w b es) (k : Int) (hm : a.eval m = .map (some b)) (hx : a.eval x = .int .i64 k)
    (hK : wpList P ops Q rest (a.put o.dst ((lookI es k).getD z)) w) :
    wpList P ops Q (o :: rest) a w := by
  refine wpList_plain hg fun K' hK' => ?_
  have hrun := run_lookI ht hkt hown z hz k
  unfold Oper.wp
  simp [execOp, hop, hm, hx, hrun, Result.andThen]
  exact hK' _ _ hK

/-- The entries' values are rows of their own. -/
def RowsAt (w : World) (m : Nat) (T : TypeId) : List (Int × Value) → List (Int × Array Value) → Prop
  | [], [] => True
  | p :: es, q :: L => p.1 = q.1 ∧ (∃ g, p.2 = .slice (some ⟨g, 0, none⟩) q.2.size q.2.size ∧ m < g ∧ w.heap[g]? = some (.cells q.2 T (0, 0))) ∧ RowsAt w m T es L
  | _, _ => False

theorem RowsAt.kept {w w' : World} {m : Nat} {T : TypeId} (hg : w.grownBy w' (some m)) : ∀ (es : List (Int × Value)) (L : List (Int × Array Value)), RowsAt w m T es L → RowsAt w' m T es L
  | [], [], _ => trivial
  | _ :: _, [], h => h
  | [], _ :: _, h => h
  | p :: es, q :: L, h => by
    obtain ⟨h1, ⟨g, h2, h3, h4⟩, h5⟩ := h
    have hlt : g < w.heap.size := (Array.getElem?_eq_some_iff.1 h4).1
    exact ⟨h1, ⟨g, h2, h3, (hg.block g hlt (by intro e; cases e; omega)).trans h4⟩, RowsAt.kept hg es L h5⟩

theorem RowsAt.more {w : World} {m : Nat} {T : TypeId} (k : Int) (g : Nat) (row : Array Value) (hm : m < g) (hr : w.heap[g]? = some (.cells row T (0, 0))) : ∀ (es : List (Int × Value)) (L : List (Int × Array Value)), RowsAt w m T es L →
    RowsAt w m T (es ++ [(k, .slice (some ⟨g, 0, none⟩) row.size row.size)]) (L ++ [(k, row)])
  | [], [], _ => ⟨rfl, ⟨g, rfl, hm, hr⟩, trivial⟩
  | _ :: _, [], h => h.elim
  | [], _ :: _, h => h.elim
  | _ :: es, _ :: L, h => ⟨h.1, h.2.1, RowsAt.more k g row hm hr es L h.2.2⟩

/-- What stands at a key of rows. -/
def lookR (L : List (Int × Array Value)) (k : Int) : Option (Array Value) := (L.find? (fun p => p.1 == k)).map (·.2)

theorem RowsAt.look {w : World} {m : Nat} {T : TypeId} (k : Int) : ∀ (es : List (Int × Value)) (L : List (Int × Array Value)), RowsAt w m T es L →
    (lookR L k = none ∧ lookI es k = none) ∨ ∃ row g, lookR L k = some row ∧ lookI es k = some (.slice (some ⟨g, 0, none⟩) row.size row.size) ∧ m < g ∧ w.heap[g]? = some (.cells row T (0, 0))
  | [], [], _ => .inl ⟨rfl, rfl⟩
  | _ :: _, [], h => h.elim
  | [], _ :: _, h => h.elim
  | p :: es, q :: L, h => by
    obtain ⟨h1, ⟨g, h2, h3, h4⟩, h5⟩ := h
    by_cases hk : q.1 = k
    · right
      exact ⟨q.2, g, by simp [lookR, hk], by simp [lookI, h1, hk, h2], h3, h4⟩
    · have e1 : lookR (q :: L) k = lookR L k := by simp [lookR, hk]
      have e2 : lookI (p :: es) k = lookI es k := by simp [lookI, h1, hk]
      rw [e1, e2]
      exact RowsAt.look k es L h5

/-- A literal under way: block m is a map whose values are rows of their own; nothing that stood ahead of it has turned. -/
def MapR (w0 w : World) (m : Nat) (T : TypeId) (L : List (Int × Array Value)) : Prop :=
  Below w0.heap.size w0 w ∧ w0.heap.size ≤ m ∧ ∃ es, MapI w m es ∧ RowsAt w m T es L

theorem MapR.made {w0 w : World} (h : Below w0.heap.size w0 w) (T : TypeId) : MapR w0 (w.alloc (.map #[] 0)) w.heap.size T [] :=
  ⟨h.alloc h.size _, h.size, [], MapI.made w, trivial⟩

theorem upon_rowI {P : Program} {w0 w : World} {o : Oper} {a : Act} {K : Act → World → Prop} {E : Exit → Act → World → Prop} {T : TypeId} {row : Array Value} {b : Nat} {L : List (Int × Array Value)}
    (hown : MapR w0 w b T L) {t kt e : TypeId} (ht : P.underlying t = some (.map kt e)) (hkt : P.underlying kt = some (.int .i64))
    {k : Int} {n n' : Nat} (hn : n = row.size) (hn' : n' = row.size) {g : Nat} (hgw : g = w.heap.size) (hk : lookR L k = none)
    (hK : ∀ w', MapR w0 w' b T (L ++ [(k, row)]) → Oper.upon P o a K E (Result.ok Next.skip w')) :
    Oper.upon P o a K E (((Instr.mapUpdate t (.map (some b)) (.int .i64 k) (.slice (some ⟨g, 0, none⟩) n n')).run P (w.alloc (.cells row T))).andThen fun _ w' => Result.ok Next.skip w') := by
  subst hgw hn hn'
  obtain ⟨hB, hb, es, hM, hR⟩ := hown
  have hlt := hM.lt
  have hM' : MapI (w.alloc (.cells row T)) b es := hM.kept (World.grownBy_alloc w _ none) (by simp)
  have hR' := RowsAt.more k w.heap.size row hlt (heap_alloc_new w (.cells row T)) es L (RowsAt.kept (World.grownBy_alloc w _ (some b)) es L hR)
  have hl : lookI es k = none := by
    rcases RowsAt.look k es L hR with h | ⟨_, _, h, _⟩
    · exact h.2
    · rw [hk] at h; cases h
  obtain ⟨w', hrun, h1, h2⟩ := run_insertI ht hkt hM' k (.slice (some ⟨w.heap.size, 0, none⟩) row.size row.size) hl
  rw [hrun]
  exact hK w' ⟨(hB.alloc hB.size _).grown h2 (Nat.le_trans hB.size (by simp)) (fun k e => by cases e; exact hb), hb, _, h1, RowsAt.kept h2 _ _ hR'⟩

theorem upon_insI {P : Program} {w : World} {o : Oper} {a : Act} {K : Act → World → Prop} {E : Exit → Act → World → Prop} {b : Nat} {es : List (Int × Value)}
    (hown : MapI w b es) {t kt e : TypeId} (ht : P.underlying t = some (.map kt e)) (hkt : P.underlying kt = some (.int .i64))
    {k : Int} {v : Value} (hk : lookI es k = none)
    (hK : ∀ w', MapI w' b (es ++ [(k, v)]) → w.grownBy w' (some b) → Oper.upon P o a K E (Result.ok Next.skip w')) :
    Oper.upon P o a K E (((Instr.mapUpdate t (.map (some b)) (.int .i64 k) v).run P w).andThen fun _ w' => Result.ok Next.skip w') := by
  obtain ⟨w', hrun, h1, h2⟩ := run_insertI ht hkt hown k v hk
  rw [hrun]
  exact hK w' h1 h2

theorem MapR.look {P : Program} {w0 w : World} {T : TypeId} {b : Nat} {L : List (Int × Array Value)} (hown : MapR w0 w b T L) {t kt e : TypeId} (ht : P.underlying t = some (.map kt e)) (hkt : P.underlying kt = some (.int .i64))
    (hz : (zeroValue e).run P w = .ok (.slice none 0 0) w) (k : Int) :
    ∃ v, (Instr.lookup t (.map (some b)) (.int .i64 k) false).run P w = .ok v w ∧
      ((lookR L k = none ∧ v = .slice none 0 0) ∨ ∃ row g, lookR L k = some row ∧ v = .slice (some ⟨g, 0, none⟩) row.size row.size ∧ w0.heap.size ≤ g ∧ w.heap[g]? = some (.cells row T (0, 0))) := by
  obtain ⟨hB, hb, es, hM, hR⟩ := hown
  refine ⟨_, run_lookI ht hkt hM _ hz k, ?_⟩
  rcases RowsAt.look k es L hR with ⟨h1, h2⟩ | ⟨row, g, h1, h2, h3, h4⟩
  · exact .inl ⟨h1, by rw [h2]; rfl⟩
  · exact .inr ⟨row, g, h1, by rw [h2]; rfl, by omega, h4⟩

/-- A literal of plain values under way. -/
def MapJ (w0 w : World) (m : Nat) (es : List (Int × Value)) : Prop := Below w0.heap.size w0 w ∧ w0.heap.size ≤ m ∧ MapI w m es

theorem MapJ.made (w : World) : MapJ w (w.alloc (.map #[] 0)) w.heap.size [] := ⟨(Below.refl _ w).alloc (Nat.le_refl _) _, Nat.le_refl _, MapI.made w⟩

theorem upon_insJ {P : Program} {w0 w : World} {o : Oper} {a : Act} {K : Act → World → Prop} {E : Exit → Act → World → Prop} {b : Nat} {es : List (Int × Value)}
    (hown : MapJ w0 w b es) {t kt e : TypeId} (ht : P.underlying t = some (.map kt e)) (hkt : P.underlying kt = some (.int .i64))
    {k : Int} {v : Value} (hk : lookI es k = none)
    (hK : ∀ w', MapJ w0 w' b (es ++ [(k, v)]) → Oper.upon P o a K E (Result.ok Next.skip w')) :
    Oper.upon P o a K E (((Instr.mapUpdate t (.map (some b)) (.int .i64 k) v).run P w).andThen fun _ w' => Result.ok Next.skip w') :=
  upon_insI hown.2.2 ht hkt hk fun w' h1 h2 => hK w' ⟨hown.1.grown h2 hown.1.size (fun k e => by cases e; exact hown.2.1), hown.2.1, h1⟩

/-- A list of integers' values. -/
theorem lookI_ints (k : Int) : ∀ (l : List (Int × Int)), lookI (l.map fun p => (p.1, Value.int .i64 p.2)) k = ((l.find? (fun p => p.1 == k)).map (·.2)).map (Value.int .i64)
  | [] => rfl
  | p :: l => by
    by_cases h : p.1 = k
    · simp [lookI, h]
    · have := lookI_ints k l
      simp [lookI, h] at this ⊢
      exact this

/-- A list of rows of integers. -/
def lookL (L : List (Int × List Int)) (k : Int) : Option (List Int) := (L.find? (fun p => p.1 == k)).map (·.2)
theorem lookR_ints (k : Int) : ∀ (l : List (Int × List Int)), lookR (l.map fun p => (p.1, (p.2.map (Value.int .i64)).toArray)) k = (lookL l k).map fun q => (q.map (Value.int .i64)).toArray
  | [] => rfl
  | p :: l => by
    by_cases h : p.1 = k
    · simp [lookR, lookL, h]
    · have := lookR_ints k l
      simp [lookR, lookL, h] at this ⊢
      exact this
def lookN (L : List (Int × Int)) (k : Int) : Option Int := (L.find? (fun p => p.1 == k)).map (·.2)

/-- A value that is a list of integers, in a block made since w0; none: the empty one. -/
def IntsAt (w0 w : World) (T : TypeId) (l : List Int) (v : Value) : Prop :=
  (l = [] ∧ v = .slice none 0 0) ∨ ∃ g, v = .slice (some ⟨g, 0, none⟩) l.length l.length ∧ w0.heap.size ≤ g ∧ w.heap[g]? = some (.cells (l.map (Value.int .i64)).toArray T (0, 0))

theorem IntsAt.of {w0 w : World} {T : TypeId} {L : List (Int × List Int)} {k : Int} {v : Value}
    (h : (lookR (L.map fun p => (p.1, (p.2.map (Value.int .i64)).toArray)) k = none ∧ v = .slice none 0 0) ∨ ∃ row g, lookR (L.map fun p => (p.1, (p.2.map (Value.int .i64)).toArray)) k = some row ∧ v = .slice (some ⟨g, 0, none⟩) row.size row.size ∧ w0.heap.size ≤ g ∧ w.heap[g]? = some (.cells row T (0, 0))) :
    IntsAt w0 w T ((lookL L k).getD []) v := by
  rw [lookR_ints] at h
  rcases h with ⟨h1, h2⟩ | ⟨row, g, h1, h2, h3, h4⟩
  · cases hl : lookL L k with
    | none => exact .inl ⟨rfl, h2⟩
    | some l => rw [hl] at h1; cases h1
  · cases hl : lookL L k with
    | none => rw [hl] at h1; cases h1
    | some l =>
      rw [hl] at h1
      simp only [Option.map_some, Option.some.injEq] at h1
      subst h1
      exact .inr ⟨g, by simpa using h2, h3, by simpa using h4⟩

theorem IntsAt.below {w0 w w' : World} {T : TypeId} {l : List Int} {v : Value} (h : IntsAt w0 w T l v) (hb : Below w.heap.size w w') : IntsAt w0 w' T l v := by
  rcases h with h | ⟨g, h1, h2, h3⟩
  · exact .inl h
  · exact .inr ⟨g, h1, h2, (hb.block g (Array.getElem?_eq_some_iff.1 h3).1).trans h3⟩

/-- What stands in nodes of a kind: the classes, by kinds. -/
def shapeInts : List (Int × List Int) := [(3, [19, 17, 18]), (4, [3]), (5, [4, 15]), (8, [0]), (9, [0]), (10, [3, 0]), (11, [13, 0]), (12, [12]), (13, [3, 24]), (14, [11]), (15, [3, 5, 14]), (16, [0]), (17, [0, 6]), (18, [0, 0]), (19, [0, 9]), (20, [16, 7]), (21, [0, 0]), (22, [0]), (23, [0, 0]), (24, [0, 0, 0]), (25, [0]), (28, [4]), (29, [6, 8]), (32, [0]), (44, [2]), (45, [3]), (46, [3]), (47, [2]), (48, [2, 2]), (49, [4]), (50, [3, 2]), (51, [2]), (52, [4, 2]), (53, [3])]
def shapeRows : List (Int × Array Value) := shapeInts.map fun p => (p.1, (p.2.map (Value.int .i64)).toArray)
def shapeMore : List (Int × Int) := [(2, 21), (6, 2), (16, 1), (26, 1), (27, 1), (28, 22), (30, 23), (39, 24), (44, 28), (49, 26), (51, 27), (53, 4)]

def shapeFixed (k : Int) : List Int := (lookL shapeInts k).getD []
def shapeRaw (k : Int) : Int := (lookN shapeMore k).getD 0
def shapeRest (k : Int) : Int := if shapeRaw k = 0 then 28 else shapeRaw k - 1

theorem shapeRaw_bounds (k : Int) : 0 ≤ shapeRaw k ∧ shapeRaw k ≤ 28 := by
  unfold shapeRaw lookN
  cases h : shapeMore.find? (fun p => p.1 == k) with
  | none => decide
  | some p =>
    have hm := List.mem_of_find?_eq_some h
    have : ∀ p ∈ shapeMore, 0 ≤ p.2 ∧ p.2 ≤ 28 := by decide
    exact this p hm

theorem zero_ints (w : World) : (zeroValue 79).run Tryz.prog w = .ok (.slice none 0 0) w := by kernel_rfl
theorem zero_int (w : World) : (zeroValue 3).run Tryz.prog w = .ok (.int .i64 0) w := by kernel_rfl

set_option maxHeartbeats 1000000 in
set_option maxRecDepth 100000 in
theorem shape_any (k : Int) (w : World) :
    Calls Tryz.prog 59 #[.int .i64 k] w fun e w' => ∃ v, e = .returned (.tuple #[v, .int .i64 (shapeRest k)]) ∧ IntsAt w w' 3 (shapeFixed k) v ∧ Below w.heap.size w w' := by
  have hmm := @run_makeMap Tryz.prog
  have hS := Lib.hid (MapR.made (Below.refl w.heap.size w) 3)
  go_enter Tryz.func59, Tryz.ntmps59
  iterate 34 (go_wp2_with fail; ((with_reducible refine upon_rowI hS.out Tryz.underlying302 Tryz.underlying3 ?_ ?_ ?_ ?_ ?_)); rfl; rfl; simp; rfl; clear hS; intro w1 hS0; have hS := Lib.hid hS0; clear hS0)
  go_wp2_with fail
  change Hid (MapR w w1 w.heap.size 3 shapeRows) at hS
  obtain ⟨v, hrun, hv⟩ := hS.out.look Tryz.underlying302 Tryz.underlying3 (zero_ints _) k
  rw [hrun]
  have HV := Lib.hid hv
  have HB := Lib.hid hS.out.1
  clear hS hrun hv
  have hS := Lib.hid (MapJ.made w1)
  go_wp2_with fail
  iterate 12 (go_wp2_with fail; ((with_reducible refine upon_insJ hS.out Tryz.underlying303 Tryz.underlying3 ?_ ?_)); rfl; clear hS; intro w2 hS0; have hS := Lib.hid hS0; clear hS0)
  go_wp2_with fail
  change Hid (MapJ w1 w2 w1.heap.size (shapeMore.map fun p => (p.1, Value.int .i64 p.2))) at hS
  have hrun := run_lookI Tryz.underlying303 Tryz.underlying3 hS.out.2.2 _ (zero_int _) k
  have hval : (lookI (shapeMore.map fun p => (p.1, Value.int .i64 p.2)) k).getD (.int .i64 0) = .int .i64 (shapeRaw k) := by
    rw [lookI_ints]
    unfold shapeRaw lookN
    cases (shapeMore.find? (fun p => p.1 == k)) <;> rfl
  rw [hval] at hrun
  rw [hrun]
  have HB2 := Lib.hid hS.out.1
  obtain ⟨hr0, hr1⟩ := shapeRaw_bounds k
  have hrest : shapeRest k = if shapeRaw k = 0 then 28 else shapeRaw k - 1 := rfl
  clear hS hrun hval
  generalize shapeRaw k = r at hr0 hr1 hrest
  have HF := Lib.hid ((IntsAt.of HV.out).below HB2.out : IntsAt w w2 3 (shapeFixed k) v)
  have HG := Lib.hid (HB.out.trans (HB2.out.mono HB.out.size))
  clear HV HB HB2
  by_cases hz : r = 0
  · rw [if_pos hz] at hrest
    go_wp2
    refine bodyPost_ret (v := .tuple #[v, .int .i64 28]) (by simp [results, Tryz.results59, go_sem]) rfl ⟨v, by rw [hrest], HF.out, HG.out⟩
  · rw [if_neg hz] at hrest
    have hw : IntKind.i64.wrap (r - 1) = r - 1 := by rw [IntKind.wrap_i64]; omega
    go_wp2
    refine bodyPost_ret (v := .tuple #[v, .int .i64 (r - 1)]) (by simp [results, Tryz.results59, go_sem]) rfl ⟨v, by rw [hrest], HF.out, HG.out⟩

/-- A value that is a list of integers. -/
def IntsIn (w : World) (T : TypeId) (l : List Int) (v : Value) : Prop :=
  (l = [] ∧ v = .slice none 0 0) ∨ ∃ g, v = .slice (some ⟨g, 0, none⟩) l.length l.length ∧ w.heap[g]? = some (.cells (l.map (Value.int .i64)).toArray T (0, 0))

theorem IntsAt.here {w0 w : World} {T : TypeId} {l : List Int} {v : Value} (h : IntsAt w0 w T l v) : IntsIn w T l v := by
  rcases h with h | ⟨g, h1, _, h3⟩
  · exact .inl h
  · exact .inr ⟨g, h1, h3⟩

theorem IntsIn.row (w : World) (T : TypeId) (l : List Int) : IntsIn (w.alloc (.cells (l.map (Value.int .i64)).toArray T)) T l (.slice (some ⟨w.heap.size, 0, none⟩) l.length l.length) :=
  .inr ⟨_, rfl, heap_alloc_new w _⟩

theorem IntsIn.len {w : World} {T : TypeId} {l : List Int} {v : Value} (h : IntsIn w T l v) : ∃ a c, v = .slice a l.length c := by
  rcases h with ⟨rfl, rfl⟩ | ⟨g, rfl, _⟩
  · exact ⟨none, 0, rfl⟩
  · exact ⟨_, _, rfl⟩

set_option maxHeartbeats 1000000 in
theorem in_some (n : Int) (l : List Int) (g : Nat) (w : World) (h : w.heap[g]? = some (.cells (l.map (Value.int .i64)).toArray 3 (0, 0))) (hl : l.length ≤ 1000) :
    Calls Tryz.prog 26 #[.int .i64 n, .slice (some ⟨g, 0, none⟩) l.length l.length] w fun e w' => e = .returned (.bool (decide (n ∈ l))) ∧ w' = w := by
  have hc : ∀ k, (hk : k < l.length) → w.cell? ⟨g, k, none⟩ = some (.int .i64 l[k]) := fun k hk => by
    rw [Lib.cell_of_heap h]
    simp [hk]
  have HC := Lib.hid hc
  clear hc h
  go_enter Tryz.func26, Tryz.ntmps26
  go_wp2
  go_loop [9] (fun i => ∃ k : Nat, k ≤ l.length ∧ i = .int .i64 k ∧ n ∉ l.take k) (fun i => l.length - (intOf i).toNat)
  case atStart => exact ⟨0, Nat.zero_le _, rfl, by simp⟩
  case round =>
    obtain ⟨k, hk, rfl, hn⟩ := hrel
    by_cases hlt : k < l.length
    · have c0 := HC.out k hlt
      have htk : l.take (k + 1) = l.take k ++ [l[k]] := List.take_succ_eq_append_getElem hlt
      have hmem : l[k] ∈ l := List.getElem_mem hlt
      generalize l[k] = x at c0 htk hmem
      by_cases hx : x = n
      · subst hx
        have hres : decide (x ∈ l) = true := by simpa using hmem
        go_wp2
        go_ret
        exact ⟨rfl, rfl⟩
      · have HT := Lib.hid htk
        clear htk hmem
        go_wp2
        go_round
        case rel => exact ⟨k + 1, by omega, by go_num, by rw [HT.out]; simp [hn, Ne.symm hx]⟩
        case measure => simp [intOf]; omega
    · have hke : l.take k = l := List.take_of_length_le (by omega)
      rw [hke] at hn
      have hres : decide (n ∈ l) = false := by simpa using hn
      go_wp2
      go_ret
      exact ⟨rfl, rfl⟩

set_option maxHeartbeats 1000000 in
theorem in_none (n : Int) (w : World) :
    Calls Tryz.prog 26 #[.int .i64 n, .slice none 0 0] w fun e w' => e = .returned (.bool false) ∧ w' = w := by
  go_enter Tryz.func26, Tryz.ntmps26
  go_wp2
  go_loop [9] (fun i => i = .int .i64 0) (fun _ => 0)
  case atStart => rfl
  case round =>
    subst hrel
    go_wp2
    go_ret
    exact ⟨rfl, rfl⟩

theorem in_any (n : Int) (l : List Int) (v : Value) (w : World) (h : IntsIn w 3 l v) (hl : l.length ≤ 1000) :
    Calls Tryz.prog 26 #[.int .i64 n, v] w fun e w' => e = .returned (.bool (decide (n ∈ l))) ∧ w' = w := by
  rcases h with ⟨rfl, rfl⟩ | ⟨g, rfl, h⟩
  · have := in_none n w
    simpa using this
  · exact in_some n l g w h hl

/-- What is of a class, by the classes that have few kinds. -/
def classInts : List (Int × List Int) := [(3, [33]), (4, [33, 0]), (5, [34, 0]), (6, [33, 34]), (9, [16]), (10, [28]), (11, [10]), (12, [10, 11]), (13, [17]), (14, [6]), (15, [34]), (19, [4, 0]), (20, [3]), (21, [29]), (22, [31, 32]), (23, [40]), (24, [44]), (25, [50]), (26, [52]), (27, [53])]
def classRows : List (Int × Array Value) := classInts.map fun p => (p.1, (p.2.map (Value.int .i64)).toArray)
def classFew (k : Int) : List Int := (lookL classInts k).getD []

set_option maxHeartbeats 1000000 in
set_option maxRecDepth 100000 in
theorem classKinds_any (k : Int) (w : World) :
    Calls Tryz.prog 86 #[.int .i64 k] w fun e w' => ∃ v, e = .returned v ∧ IntsAt w w' 3 (classFew k) v ∧ Below w.heap.size w w' := by
  have hmm := @run_makeMap Tryz.prog
  have hS := Lib.hid (MapR.made (Below.refl w.heap.size w) 3)
  go_enter Tryz.func86, Tryz.ntmps86
  iterate 20 (go_wp2_with fail; ((with_reducible refine upon_rowI hS.out Tryz.underlying302 Tryz.underlying3 ?_ ?_ ?_ ?_ ?_)); rfl; rfl; simp; rfl; clear hS; intro w1 hS0; have hS := Lib.hid hS0; clear hS0)
  go_wp2_with fail
  change Hid (MapR w w1 w.heap.size 3 classRows) at hS
  obtain ⟨v, hrun, hv⟩ := hS.out.look Tryz.underlying302 Tryz.underlying3 (zero_ints _) k
  rw [hrun]
  have HV := Lib.hid hv
  have HB := Lib.hid hS.out.1
  clear hS hrun hv
  go_wp2_with fail
  go_ret
  exact ⟨v, rfl, IntsAt.of HV.out, HB.out⟩

end Go.Proofs.YtkohgndmhgcgeaaGreatDoor
