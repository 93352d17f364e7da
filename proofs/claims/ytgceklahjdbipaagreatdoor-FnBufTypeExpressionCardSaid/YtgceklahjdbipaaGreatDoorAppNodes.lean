/- append([]Node{x}, nodes..) in a region that draws: plain nodes in a row. -/
import Derived.Test.YtgceklahjdbipaaGreatDoorGives
import Derived.Test.YtgceklahjdbipaaGreatDoorEither
import Derived.Deep.RegionLaw
namespace Go.Proofs.YtgceklahjdbipaaGreatDoor
open Go Go.RowKit
set_option linter.unusedVariables false
set_option linter.unusedSimpArgs false

theorem flat_one {us : List (List Value)} (h : ∀ u ∈ us, u.length = 5 ∧ ∀ x ∈ u, x.oneCell' = true) : ∀ x ∈ us.flatten, x.oneCell' = true := fun x hx => by
  obtain ⟨u, hu, hxu⟩ := List.mem_flatten.1 hx
  exact (h u hu).2 x hxu

theorem flat_len {us : List (List Value)} (h : ∀ u ∈ us, u.length = 5 ∧ ∀ x ∈ u, x.oneCell' = true) : us.flatten.length = us.length * 5 := by
  induction us with
  | nil => rfl
  | cons u us ih =>
    rw [List.flatten_cons, List.length_append, ih fun x hx => h x (by simp [hx]), (h u (by simp)).1, List.length_cons]
    omega

/-- What is so behind the append. -/
structure Joined (lo b : Nat) (kids : List Tr) (w : World) (v : Value) (w' : World) : Prop where
  form : ∃ a c, v = .slice a kids.length c
  row : RowNodes w' lo v kids
  keep : ∀ r, r < w.heap.size → r ≠ b → w'.heap[r]? = w.heap[r]?
  size : w.heap.size ≤ w'.heap.size
  os : w'.os = w.os
  tape : w'.tape = w.tape
  output : w'.output = w.output

/-- Plain nodes in a row; neither the row nor what they hold lies in the block b. -/
def RowFree (w : World) (lo b : Nat) (v : Value) (kids : List Tr) : Prop :=
  ∃ us : List (List Value), us.length = kids.length ∧ (∀ u ∈ us, u.length = 5 ∧ ∀ x ∈ u, x.oneCell' = true) ∧ (∃ lo2, w.ownsRow lo2 25 5 v kids.length us.flatten) ∧
    ∀ i (h : i < kids.length) (h2 : i < us.length), NodeIn w (fun r => lo ≤ r ∧ r < w.heap.size ∧ r ≠ b) kids[i] (.agg us[i].toArray)

theorem RowNodes.free {w : World} {lo lo2 b : Nat} {v : Value} {kids : List Tr} (h : RowNodes w lo2 v kids) (hl : lo ≤ lo2) (hb : b < lo2) : RowFree w lo b v kids := by
  obtain ⟨us, h1, h2, h3, h4⟩ := h
  exact ⟨us, h1, h2, ⟨lo2, h3⟩, fun i hi hi2 => (h4 i hi hi2).mono fun r hr => ⟨by omega, hr.2.1, by omega⟩⟩

theorem RowNodes.free_alloc {w : World} {lo lo2 : Nat} {v : Value} {kids : List Tr} (h : RowNodes w lo2 v kids) (hl : lo ≤ lo2) (ob : Obj) : RowFree (w.alloc ob) lo w.heap.size v kids := by
  obtain ⟨us, h1, h2, h3, h4⟩ := h
  exact ⟨us, h1, h2, ⟨lo2, h3.alloc ob⟩, fun i hi hi2 => NodeIn.mono (B := fun r => lo2 ≤ r ∧ r < w.heap.size ∧ v.ownBlock ≠ some r) (fun r hr => ⟨by omega, by rw [alloc_size]; omega, by omega⟩) (NodeIn.keep (w := w) (fun r hr => Below.heap_alloc _ _ _ hr.2.1) (h4 i hi hi2))⟩

section
variable {ops : Array Oper} {o : Oper} {a : Act} {w : World} {K : Act → World → Prop} {Q : Exit → Act → World → Prop} {E : Prop}

theorem run_append_none (t ty e : TypeId) (i : TypeInfo) (ht : Tryz.prog.underlying t = some (.slice e)) (hi : Tryz.prog.info? e = some i) (b n : Nat) (ad : Option Addr) (c : Nat) (W : World) :
    (Builtin.append_ #[t, t] ty #[.slice (some ⟨b, 0, none⟩) n n, .slice ad 0 c]).run Tryz.prog W = .ok (.slice (some ⟨b, 0, none⟩) n n) W := by
  cases ad <;> simp [Builtin.append_, run_underlying ht, sizeOf, typeInfo, hi, Builtin.lenOf, Builtin.firstCells, storeCells, loadCells, loadCellsFrom]

theorem step_append_nodes (hgd : o.guard = none) (s x : Operand) (ho : o.op = .call { callee := .builtin .append, args := #[s, x], argTypes := #[23, 23] })
    (lo b : Nat) (t1 : Tr) (a1 : Option Addr) (c1 : Nat) (kids : List Tr) (v : Value) (hs : a.eval s = .slice (some ⟨b, 0, none⟩) 1 1) (hb : w.heap[b]? = some (.cells (nodeL t1 a1 c1).toArray 25 (0, 0))) (hlb : lo ≤ b)
    (n1 : NodeIn w (fun r => lo ≤ r ∧ r < w.heap.size ∧ r ≠ b) t1 (nodeU t1.kind t1.text t1.more t1.num a1 t1.kids.length c1)) (hx : a.eval x = v) (hv : RowFree w lo b v kids) (hlen : kids.length ≤ 1000)
    (h : ∀ v' w', Joined lo b (t1 :: kids) w v' w' → K (a.put o.dst v') w') :
    if Region.wanted o (yielded ops a.tmps) = true then Oper.wp Tryz.prog o a w K Q else E := by
  obtain ⟨i0, hi, hz0, hz1, hz2⟩ := info_parts node_info
  obtain ⟨us, u1, u2, ⟨lo2, u3⟩, u4⟩ := hv
  have hbl := (Array.getElem?_eq_some_iff.1 hb).1
  have hown : w.ownsRow lo 25 5 (.slice (some ⟨b, 0, none⟩) 1 1) 1 (nodeL t1 a1 c1) := ⟨rfl, .inr ⟨b, 1, _, rfl, hlb, hb, Nat.le_refl _, by decide, rfl, by simp [nodeL]⟩⟩
  by_cases hk : kids = []
  · subst hk
    have hw : Region.wanted o (yielded ops a.tmps) = true := by simp [Region.wanted, hgd]
    rw [if_pos hw]
    obtain ⟨ad, c, rfl⟩ := slice_form u3
    have hrun := run_append_none 23 o.type 25 i0 Tryz.underlying23 hi b 1 ad c w
    have hres := h _ w ⟨⟨_, _, rfl⟩, ⟨[nodeL t1 a1 c1], rfl, (fun u hu => by rw [List.mem_singleton] at hu; rw [hu]; exact nodeL_one t1 a1 c1), by simpa using hown, fun i hi hi2 => by
      have h0 : i = 0 := by simpa using hi
      subst h0
      exact n1.mono fun r hr => ⟨hr.1, hr.2.1, fun e => hr.2.2 (Option.some.inj e).symm⟩⟩, fun _ _ _ => rfl, Nat.le_refl _, rfl, rfl, rfl⟩
    unfold Oper.wp
    simp [execOp, ho, resolve, invoke, builtin, hs, hx, hrun, Result.andThen]
    exact hres
  · have hpos : 0 < kids.length := List.length_pos_iff.2 hk
    obtain ⟨g, cp, rfl, hg1, hg2⟩ := u3.form hpos
    have hfl := flat_len u2
    refine step_append_lies w hgd s x 23 ho lo 25 i0 _ 5 72 Tryz.underlying23 hi hz0 hz1 hz2 rfl (by decide) _ 1 (nodeL t1 a1 c1) hs hown ⟨g, 0, none⟩ kids.length cp us.flatten hx (by rw [hfl, u1]) (u3.cells (g := g) rfl) (flat_one u2) hpos (by unfold maxLen; omega) (by omega) (Nat.le_trans hlb (Nat.le_of_lt hbl)) _ rfl ?_
    intro g' cap w' hown' hgrow hat hlt
    have hkeep : ∀ r, r < w.heap.size → r ≠ b → w'.heap[r]? = w.heap[r]? := fun r hr hne => hgrow.block r hr fun e => hne (Option.some.inj e)
    have hne : ∀ r, r < w.heap.size → r ≠ b → (Value.slice (some ⟨g', 0, none⟩) (1 + kids.length) cap).ownBlock ≠ some r := fun r hr hrb e => by
      have e2 : g' = r := Option.some.inj e
      rcases hat with e3 | e3
      · exact hrb (e2.symm.trans (Option.some.inj e3).symm)
      · omega
    have hsz := hgrow.size
    refine h _ _ ⟨⟨_, cap, by rw [List.length_cons, Nat.add_comm]⟩, ⟨nodeL t1 a1 c1 :: us, by simp [u1], fun u hu => ?_, ?_, fun i hi hi2 => ?_⟩, hkeep, hsz, hgrow.os, hgrow.tape, hgrow.output⟩
    · rcases List.mem_cons.1 hu with rfl | hu
      · exact nodeL_one t1 a1 c1
      · exact u2 u hu
    · have e : (t1 :: kids).length = 1 + kids.length := by rw [List.length_cons, Nat.add_comm]
      rw [e, List.flatten_cons]
      exact hown'
    · cases i with
      | zero => exact NodeIn.mono (B := fun r => lo ≤ r ∧ r < w.heap.size ∧ r ≠ b) (fun r hr => ⟨hr.1, by omega, hne r hr.2.1 hr.2.2⟩) (NodeIn.keep (w := w) (fun r hr => hkeep r hr.2.1 hr.2.2) n1)
      | succ i =>
        simp only [List.getElem_cons_succ]
        exact NodeIn.mono (B := fun r => lo ≤ r ∧ r < w.heap.size ∧ r ≠ b) (fun r hr => ⟨hr.1, by omega, hne r hr.2.1 hr.2.2⟩) (NodeIn.keep (w := w) (fun r hr => hkeep r hr.2.1 hr.2.2) (u4 i (by simpa using hi) (by simpa using hi2)))
end

end Go.Proofs.YtgceklahjdbipaaGreatDoor
