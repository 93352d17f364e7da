/- Maps with integers as keys that a literal makes: what they hold, how an entry is put in, how one is looked up. -/
import Derived.Test.YtdillheepidncaaGreatDoorRows
import Derived.WalkKit
import Derived.Maps.Own
import Derived.Lib.Hide
import Derived.Lib.BufferOwn
namespace Go.Proofs.YtdillheepidncaaGreatDoor
open Go Go.RowKit Go.MapKept

/-- Block m is a map with these entries. -/
def MapI (w : World) (m : Nat) (es : List (Int × Value)) : Prop :=
  ∃ (arr : Array MapEntry) (clock : Nat), w.heap[m]? = some (.map arr clock) ∧ arr.toList.map (fun e => (e.key, e.val)) = es.map (fun p => (Value.int .i64 p.1, p.2))

/-- What stands at a key. -/
def lookI (es : List (Int × Value)) (k : Int) : Option Value := (es.find? (fun p => p.1 == k)).map (·.2)

theorem MapI.lt {w : World} {m : Nat} {es : List (Int × Value)} (h : MapI w m es) : m < w.heap.size := by
  obtain ⟨_, _, h, _⟩ := h
  exact (Array.getElem?_eq_some_iff.1 h).1

theorem MapI.kept {w w' : World} {m : Nat} {es : List (Int × Value)} {row : Option Nat} (h : MapI w m es) (hg : w.grownBy w' row) (hne : some m ≠ row) : MapI w' m es := by
  have hlt := h.lt
  obtain ⟨arr, c, hb, he⟩ := h
  exact ⟨arr, c, (hg.block m hlt hne).trans hb, he⟩

theorem MapI.made (w : World) : MapI (w.alloc (.map #[] 0)) w.heap.size [] := ⟨#[], 0, heap_alloc_new w _, rfl⟩

theorem findNow_look (k : Int) : ∀ (l : List MapEntry) (es : List (Int × Value)) (i : Nat), l.map (fun e => (e.key, e.val)) = es.map (fun p => (Value.int .i64 p.1, p.2)) →
    ∃ r, Instr.findNow (.int .i64) (.int .i64 k) l i = some r ∧ r.map (·.2) = lookI es k
  | [], [], _, _ => ⟨none, rfl, rfl⟩
  | [], _ :: _, _, h => by simp at h
  | _ :: _, [], _, h => by simp at h
  | e :: l, p :: es, i, h => by
    simp only [List.map_cons, List.cons.injEq, Prod.mk.injEq] at h
    obtain ⟨⟨hk, hv⟩, ht⟩ := h
    by_cases hp : p.1 = k
    · refine ⟨some (i, e.val), ?_, ?_⟩
      · simp [Instr.findNow, hk, Instr.sameNow, hp]
      · simp [lookI, hp, hv]
    · obtain ⟨r, h1, h2⟩ := findNow_look k l es (i + 1) ht
      refine ⟨r, ?_, ?_⟩
      · have hf : (k == p.1) = false := by simpa using Ne.symm hp
        simp [Instr.findNow, hk, Instr.sameNow, hf, h1]
      · rw [h2]; simp [lookI, hp]

/-- An entry at a new key. -/
theorem run_insertI {P : Program} {t kt e : TypeId} (ht : P.underlying t = some (.map kt e)) (hkt : P.underlying kt = some (.int .i64)) {w : World} {m : Nat} {es : List (Int × Value)} (h : MapI w m es) (k : Int) (v : Value) (hk : lookI es k = none) :
    ∃ w', (Instr.mapUpdate t (.map (some m)) (.int .i64 k) v).run P w = .ok () w' ∧ MapI w' m (es ++ [(k, v)]) ∧ w.grownBy w' (some m) := by
  obtain ⟨arr, c, hb, he⟩ := h
  obtain ⟨r, h1, h2⟩ := findNow_look k arr.toList es 0 he
  rw [hk] at h2
  cases r with
  | some r => cases h2
  | none =>
    have hkey : IsKey (.int .i64) (.int .i64 k) := rfl
    refine ⟨{ w with heap := w.heap.setIfInBounds m (.map (arr.push { key := .int .i64 k, val := v, born := c }) (c + 1)) }, ?_, ⟨_, _, (MapKept.heap_set hb).1, ?_⟩, ⟨rfl, rfl, rfl, by simp, fun i _ hi => (MapKept.heap_set hb).2 i (fun q => hi (by rw [q]))⟩⟩
    · simp [Instr.mapUpdate, run_underlying ht, MapKept.run_getObj_map hb, MapKept.run_checkKey hkt hkey, MapKept.run_findKey hkt h1, MapKept.run_setObj_map _ hb, Result.andThen]
    · simp [he]

/-- 'm[k]'. -/
theorem run_lookI {P : Program} {t kt e : TypeId} (ht : P.underlying t = some (.map kt e)) (hkt : P.underlying kt = some (.int .i64)) {w : World} {m : Nat} {es : List (Int × Value)} (h : MapI w m es) (z : Value) (hz : (zeroValue e).run P w = .ok z w) (k : Int) :
    (Instr.lookup t (.map (some m)) (.int .i64 k) false).run P w = .ok ((lookI es k).getD z) w := by
  obtain ⟨arr, c, hb, he⟩ := h
  obtain ⟨r, h1, h2⟩ := findNow_look k arr.toList es 0 he
  have hkey : IsKey (.int .i64) (.int .i64 k) := rfl
  rw [← h2]
  cases r with
  | none => simp [Instr.lookup, run_underlying ht, MapKept.run_getObj_map hb, MapKept.run_checkKey hkt hkey, MapKept.run_findKey hkt h1, Result.andThen, hz]
  | some r => simp [Instr.lookup, run_underlying ht, MapKept.run_getObj_map hb, MapKept.run_checkKey hkt hkey, MapKept.run_findKey hkt h1, Result.andThen]

/-- The same at the operation. -/
theorem wpList_insertI {P : Program} (w : World) {ops : Array Oper} {rest : List Oper} {o : Oper} {a : Act} {Q : Exit → Act → World → Prop}
    (hg : o.guard = none) (m x v : Operand) (t : TypeId) (hop : o.op = Op.insert t m x v) {kt e : TypeId} (ht : P.underlying t = some (.map kt e)) (hkt : P.underlying kt = some (.int .i64))
    (b : Nat) (es : List (Int × Value)) (hown : MapI w b es) (k : Int) (val : Value) (hm : a.eval m = .map (some b)) (hx : a.eval x = .int .i64 k) (hv : a.eval v = val) (hk : lookI es k = none)
    (hK : ∀ w', MapI w' b (es ++ [(k, val)]) → w.grownBy w' (some b) → wpList P ops Q rest (a.put o.dst undef) w') :
    wpList P ops Q (o :: rest) a w := by
  refine wpList_plain hg fun K' hK' => ?_
  obtain ⟨w', hrun, r1, r2⟩ := run_insertI ht hkt hown k val hk
  unfold Oper.wp
  simp [execOp, hop, hm, hx, hv, hrun, Result.andThen]
  exact hK' _ _ (hK w' r1 r2)

/-- 'm[k]' at the operation. -/
theorem wpList_lookI {P : Program} (w : World) {ops : Array Oper} {rest : List Oper} {o : Oper} {a : Act} {Q : Exit → Act → World → Prop}
    (hg : o.guard = none) (m x : Operand) (t : TypeId) (hop : o.op = Op.lookup t m x false) {kt e : TypeId} (ht : P.underlying t = some (.map kt e)) (hkt : P.underlying kt = some (.int .i64))
    (z : Value) (hz : (zeroValue e).run P w = .ok z w)
    (b : Nat) (es : List (Int × Value)) (hown : MapI w b es) (k : Int) (hm : a.eval m = .map (some b)) (hx : a.eval x = .int .i64 k)
    (hK : wpList P ops Q rest (a.put o.dst ((lookI es k).getD z)) w) :
    wpList P ops Q (o :: rest) a w := by
  refine wpList_plain hg fun K' hK' => ?_
  have hrun := run_lookI ht hkt hown z hz k
  unfold Oper.wp
  simp [execOp, hop, hm, hx, hrun, Result.andThen]
  exact hK' _ _ hK

/-- The entries' values are rows of their own. -/
def RowsAt (w : World) (m : Nat) (T : TypeId) : List (Int × Value) → List (Int × Array Value) → Prop
  | [], [] => True
  | p :: es, q :: L => p.1 = q.1 ∧ (∃ g, p.2 = .slice (some ⟨g, 0, none⟩) q.2.size q.2.size ∧ m < g ∧ w.heap[g]? = some (.cells q.2 T (0, 0))) ∧ RowsAt w m T es L
  | _, _ => False

theorem RowsAt.kept {w w' : World} {m : Nat} {T : TypeId} (hg : w.grownBy w' (some m)) : ∀ (es : List (Int × Value)) (L : List (Int × Array Value)), RowsAt w m T es L → RowsAt w' m T es L
  | [], [], _ => trivial
  | _ :: _, [], h => h
  | [], _ :: _, h => h
  | p :: es, q :: L, h => by
    obtain ⟨h1, ⟨g, h2, h3, h4⟩, h5⟩ := h
    have hlt : g < w.heap.size := (Array.getElem?_eq_some_iff.1 h4).1
    exact ⟨h1, ⟨g, h2, h3, (hg.block g hlt (by intro e; cases e; omega)).trans h4⟩, RowsAt.kept hg es L h5⟩

theorem RowsAt.more {w : World} {m : Nat} {T : TypeId} (k : Int) (g : Nat) (row : Array Value) (hm : m < g) (hr : w.heap[g]? = some (.cells row T (0, 0))) : ∀ (es : List (Int × Value)) (L : List (Int × Array Value)), RowsAt w m T es L →
    RowsAt w m T (es ++ [(k, .slice (some ⟨g, 0, none⟩) row.size row.size)]) (L ++ [(k, row)])
  | [], [], _ => ⟨rfl, ⟨g, rfl, hm, hr⟩, trivial⟩
  | _ :: _, [], h => h.elim
  | [], _ :: _, h => h.elim
  | _ :: es, _ :: L, h => ⟨h.1, h.2.1, RowsAt.more k g row hm hr es L h.2.2⟩

/-- What stands at a key of rows. -/
def lookR (L : List (Int × Array Value)) (k : Int) : Option (Array Value) := (L.find? (fun p => p.1 == k)).map (·.2)

theorem RowsAt.look {w : World} {m : Nat} {T : TypeId} (k : Int) : ∀ (es : List (Int × Value)) (L : List (Int × Array Value)), RowsAt w m T es L →
    (lookR L k = none ∧ lookI es k = none) ∨ ∃ row g, lookR L k = some row ∧ lookI es k = some (.slice (some ⟨g, 0, none⟩) row.size row.size) ∧ m < g ∧ w.heap[g]? = some (.cells row T (0, 0))
  | [], [], _ => .inl ⟨rfl, rfl⟩
  | _ :: _, [], h => h.elim
  | [], _ :: _, h => h.elim
  | p :: es, q :: L, h => by
    obtain ⟨h1, ⟨g, h2, h3, h4⟩, h5⟩ := h
    by_cases hk : q.1 = k
    · right
      exact ⟨q.2, g, by simp [lookR, hk], by simp [lookI, h1, hk, h2], h3, h4⟩
    · have e1 : lookR (q :: L) k = lookR L k := by simp [lookR, hk]
      have e2 : lookI (p :: es) k = lookI es k := by simp [lookI, h1, hk]
      rw [e1, e2]
      exact RowsAt.look k es L h5

/-- A literal under way: block m is a map whose values are rows of their own; nothing that stood ahead of it has turned. -/
def MapR (w0 w : World) (m : Nat) (T : TypeId) (L : List (Int × Array Value)) : Prop :=
  Below w0.heap.size w0 w ∧ w0.heap.size ≤ m ∧ ∃ es, MapI w m es ∧ RowsAt w m T es L

theorem MapR.made {w0 w : World} (h : Below w0.heap.size w0 w) (T : TypeId) : MapR w0 (w.alloc (.map #[] 0)) w.heap.size T [] :=
  ⟨h.alloc h.size _, h.size, [], MapI.made w, trivial⟩

theorem upon_rowI {P : Program} {w0 w : World} {o : Oper} {a : Act} {K : Act → World → Prop} {E : Exit → Act → World → Prop} {T : TypeId} {row : Array Value} {b : Nat} {L : List (Int × Array Value)}
    (hown : MapR w0 w b T L) {t kt e : TypeId} (ht : P.underlying t = some (.map kt e)) (hkt : P.underlying kt = some (.int .i64))
    {k : Int} {n n' : Nat} (hn : n = row.size) (hn' : n' = row.size) {g : Nat} (hgw : g = w.heap.size) (hk : lookR L k = none)
    (hK : ∀ w', MapR w0 w' b T (L ++ [(k, row)]) → Oper.upon P o a K E (Result.ok Next.skip w')) :
    Oper.upon P o a K E (((Instr.mapUpdate t (.map (some b)) (.int .i64 k) (.slice (some ⟨g, 0, none⟩) n n')).run P (w.alloc (.cells row T))).andThen fun _ w' => Result.ok Next.skip w') := by
  subst hgw hn hn'
  obtain ⟨hB, hb, es, hM, hR⟩ := hown
  have hlt := hM.lt
  have hM' : MapI (w.alloc (.cells row T)) b es := hM.kept (World.grownBy_alloc w _ none) (by simp)
  have hR' := RowsAt.more k w.heap.size row hlt (heap_alloc_new w (.cells row T)) es L (RowsAt.kept (World.grownBy_alloc w _ (some b)) es L hR)
  have hl : lookI es k = none := by
    rcases RowsAt.look k es L hR with h | ⟨_, _, h, _⟩
    · exact h.2
    · rw [hk] at h; cases h
  obtain ⟨w', hrun, h1, h2⟩ := run_insertI ht hkt hM' k (.slice (some ⟨w.heap.size, 0, none⟩) row.size row.size) hl
  rw [hrun]
  exact hK w' ⟨(hB.alloc hB.size _).grown h2 (Nat.le_trans hB.size (by simp)) (fun k e => by cases e; exact hb), hb, _, h1, RowsAt.kept h2 _ _ hR'⟩

theorem upon_insI {P : Program} {w : World} {o : Oper} {a : Act} {K : Act → World → Prop} {E : Exit → Act → World → Prop} {b : Nat} {es : List (Int × Value)}
    (hown : MapI w b es) {t kt e : TypeId} (ht : P.underlying t = some (.map kt e)) (hkt : P.underlying kt = some (.int .i64))
    {k : Int} {v : Value} (hk : lookI es k = none)
    (hK : ∀ w', MapI w' b (es ++ [(k, v)]) → w.grownBy w' (some b) → Oper.upon P o a K E (Result.ok Next.skip w')) :
    Oper.upon P o a K E (((Instr.mapUpdate t (.map (some b)) (.int .i64 k) v).run P w).andThen fun _ w' => Result.ok Next.skip w') := by
  obtain ⟨w', hrun, h1, h2⟩ := run_insertI ht hkt hown k v hk
  rw [hrun]
  exact hK w' h1 h2

theorem MapR.look {P : Program} {w0 w : World} {T : TypeId} {b : Nat} {L : List (Int × Array Value)} (hown : MapR w0 w b T L) {t kt e : TypeId} (ht : P.underlying t = some (.map kt e)) (hkt : P.underlying kt = some (.int .i64))
    (hz : (zeroValue e).run P w = .ok (.slice none 0 0) w) (k : Int) :
    ∃ v, (Instr.lookup t (.map (some b)) (.int .i64 k) false).run P w = .ok v w ∧
      ((lookR L k = none ∧ v = .slice none 0 0) ∨ ∃ row g, lookR L k = some row ∧ v = .slice (some ⟨g, 0, none⟩) row.size row.size ∧ w0.heap.size ≤ g ∧ w.heap[g]? = some (.cells row T (0, 0))) := by
  obtain ⟨hB, hb, es, hM, hR⟩ := hown
  refine ⟨_, run_lookI ht hkt hM _ hz k, ?_⟩
  rcases RowsAt.look k es L hR with ⟨h1, h2⟩ | ⟨row, g, h1, h2, h3, h4⟩
  · exact .inl ⟨h1, by rw [h2]; rfl⟩
  · exact .inr ⟨row, g, h1, by rw [h2]; rfl, by omega, h4⟩

/-- A literal of plain values under way. -/
def MapJ (w0 w : World) (m : Nat) (es : List (Int × Value)) : Prop := Below w0.heap.size w0 w ∧ w0.heap.size ≤ m ∧ MapI w m es

theorem MapJ.made (w : World) : MapJ w (w.alloc (.map #[] 0)) w.heap.size [] := ⟨(Below.refl _ w).alloc (Nat.le_refl _) _, Nat.le_refl _, MapI.made w⟩

theorem upon_insJ {P : Program} {w0 w : World} {o : Oper} {a : Act} {K : Act → World → Prop} {E : Exit → Act → World → Prop} {b : Nat} {es : List (Int × Value)}
    (hown : MapJ w0 w b es) {t kt e : TypeId} (ht : P.underlying t = some (.map kt e)) (hkt : P.underlying kt = some (.int .i64))
    {k : Int} {v : Value} (hk : lookI es k = none)
    (hK : ∀ w', MapJ w0 w' b (es ++ [(k, v)]) → Oper.upon P o a K E (Result.ok Next.skip w')) :
    Oper.upon P o a K E (((Instr.mapUpdate t (.map (some b)) (.int .i64 k) v).run P w).andThen fun _ w' => Result.ok Next.skip w') :=
  upon_insI hown.2.2 ht hkt hk fun w' h1 h2 => hK w' ⟨hown.1.grown h2 hown.1.size (fun k e => by cases e; exact hown.2.1), hown.2.1, h1⟩

/-- A list of integers' values. -/
theorem lookI_ints (k : Int) : ∀ (l : List (Int × Int)), lookI (l.map fun p => (p.1, Value.int .i64 p.2)) k = ((l.find? (fun p => p.1 == k)).map (·.2)).map (Value.int .i64)
  | [] => rfl
  | p :: l => by
    by_cases h : p.1 = k
    · simp [lookI, h]
    · have := lookI_ints k l
      simp [lookI, h] at this ⊢
      exact this

/-- A list of rows of integers. -/
def lookL (L : List (Int × List Int)) (k : Int) : Option (List Int) := (L.find? (fun p => p.1 == k)).map (·.2)
theorem lookR_ints (k : Int) : ∀ (l : List (Int × List Int)), lookR (l.map fun p => (p.1, (p.2.map (Value.int .i64)).toArray)) k = (lookL l k).map fun q => (q.map (Value.int .i64)).toArray
  | [] => rfl
  | p :: l => by
    by_cases h : p.1 = k
    · simp [lookR, lookL, h]
    · have := lookR_ints k l
      simp [lookR, lookL, h] at this ⊢
      exact this
def lookN (L : List (Int × Int)) (k : Int) : Option Int := (L.find? (fun p => p.1 == k)).map (·.2)

/-- A value that is a list of integers, in a block made since w0; none: the empty one. -/
def IntsAt (w0 w : World) (T : TypeId) (l : List Int) (v : Value) : Prop :=
  (l = [] ∧ v = .slice none 0 0) ∨ ∃ g, v = .slice (some ⟨g, 0, none⟩) l.length l.length ∧ w0.heap.size ≤ g ∧ w.heap[g]? = some (.cells (l.map (Value.int .i64)).toArray T (0, 0))

theorem IntsAt.of {w0 w : World} {T : TypeId} {L : List (Int × List Int)} {k : Int} {v : Value}
    (h : (lookR (L.map fun p => (p.1, (p.2.map (Value.int .i64)).toArray)) k = none ∧ v = .slice none 0 0) ∨ ∃ row g, lookR (L.map fun p => (p.1, (p.2.map (Value.int .i64)).toArray)) k = some row ∧ v = .slice (some ⟨g, 0, none⟩) row.size row.size ∧ w0.heap.size ≤ g ∧ w.heap[g]? = some (.cells row T (0, 0))) :
    IntsAt w0 w T ((lookL L k).getD []) v := by
  rw [lookR_ints] at h
  rcases h with ⟨h1, h2⟩ | ⟨row, g, h1, h2, h3, h4⟩
  · cases hl : lookL L k with
    | none => exact .inl ⟨rfl, h2⟩
    | some l => rw [hl] at h1; cases h1
  · cases hl : lookL L k with
    | none => rw [hl] at h1; cases h1
    | some l =>
      rw [hl] at h1
      simp only [Option.map_some, Option.some.injEq] at h1
      subst h1
      exact .inr ⟨g, by simpa using h2, h3, by simpa using h4⟩

theorem IntsAt.below {w0 w w' : World} {T : TypeId} {l : List Int} {v : Value} (h : IntsAt w0 w T l v) (hb : Below w.heap.size w w') : IntsAt w0 w' T l v := by
  rcases h with h | ⟨g, h1, h2, h3⟩
  · exact .inl h
  · exact .inr ⟨g, h1, h2, (hb.block g (Array.getElem?_eq_some_iff.1 h3).1).trans h3⟩

end Go.Proofs.YtdillheepidncaaGreatDoor
