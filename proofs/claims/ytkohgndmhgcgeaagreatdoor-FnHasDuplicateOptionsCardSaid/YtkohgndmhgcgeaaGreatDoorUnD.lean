/- impl.unnode over dictionaries. -/
import Derived.Test.YtkohgndmhgcgeaaGreatDoorUnL
namespace Go.Proofs.YtkohgndmhgcgeaaGreatDoor
open Go Go.RowKit
set_option linter.unusedVariables false
set_option linter.unusedSimpArgs false

/-- A dictionary under way: its block behind w0, its items in a row. -/
structure DictAt (w0 : World) (l : List Tr) (k : Nat) (s q : List Nat) (v cell : Value) (W : World) : Prop where
  row : W.heap[w0.heap.size]? = some (.cells #[.pointer none, nilS, nilS, nilS, cell, nilS] 187 (0, 0))
  bel : Below w0.heap.size w0 W
  ls : s.length = 2 * k
  lq : q.length = k
  own : W.ownsRow (w0.heap.size + 1) 188 1 v k (q.map pp)
  items : ∀ i (h : i < q.length) (h1 : 2 * i + 1 < l.length) (h2 : 2 * i + 1 < s.length), itemCells W (fun b => w0.heap.size < b ∧ b < W.heap.size ∧ v.ownBlock ≠ some b) l[2 * i].kind l[2 * i + 1].kind s[2 * i] s[2 * i + 1] q[i]
  kids : ∀ i (h : i < l.length) (h2 : i < s.length), AIn W (fun b => w0.heap.size < b ∧ b < W.heap.size ∧ v.ownBlock ≠ some b) l[i] s[i]

section
variable {w0 W W' : World} {l : List Tr} {k : Nat} {s q : List Nat} {v cell : Value}

theorem DictAt.lt (h : DictAt w0 l k s q v cell W) : w0.heap.size < W.heap.size := (Array.getElem?_eq_some_iff.1 h.row).1

theorem DictAt.below (h : DictAt w0 l k s q v cell W) (hb : Below W.heap.size W W') : DictAt w0 l k s q v cell W' :=
  ⟨(hb.block _ h.lt).trans h.row, h.bel.trans (hb.mono h.bel.size), h.ls, h.lq, World.ownsRow.kept h.own (grownBy_below hb) (hown_or h.own),
    fun i h0 h1 h2 => by
      obtain ⟨⟨k1, k2, k3⟩, k4⟩ := h.items i h0 h1 h2
      exact ⟨⟨k1, Nat.lt_of_lt_of_le k2 hb.size, k3⟩, (hb.block _ k2).trans k4⟩,
    fun i h1 h2 => AIn.mono (B := fun b => w0.heap.size < b ∧ b < W.heap.size ∧ v.ownBlock ≠ some b) (fun b hq => ⟨hq.1, Nat.lt_of_lt_of_le hq.2.1 hb.size, hq.2.2⟩) (AIn.keep (w := W) (fun b hq => hb.block b hq.2.1) (h.kids i h1 h2))⟩

theorem DictAt.set (h : DictAt w0 l k s q v cell W) (x : Value) : DictAt w0 l k s q v x (W.setCell ⟨w0.heap.size, 4, none⟩ x) := by
  have hsz : (W.setCell ⟨w0.heap.size, 4, none⟩ x).heap.size = W.heap.size := by simp [World.setCell]
  have hk : ∀ b, w0.heap.size < b → (W.setCell ⟨w0.heap.size, 4, none⟩ x).heap[b]? = W.heap[b]? := fun b hb => Below.heap_setCell _ _ _ _ (by show b ≠ w0.heap.size; omega)
  refine ⟨row_setG h.row 4 x, h.bel.setCell (p := ⟨w0.heap.size, 4, none⟩) (Nat.le_refl _) x, h.ls, h.lq, ?_, fun i h0 h1 h2 => ?_, fun i h1 h2 => ?_⟩
  · exact ⟨h.own.1, h.own.2.imp id fun ⟨g, cap, cur, e1, e2, e3, e4⟩ => ⟨g, cap, cur, e1, e2, (hk g (by omega)).trans e3, e4⟩⟩
  · obtain ⟨⟨k1, k2, k3⟩, k4⟩ := h.items i h0 h1 h2
    exact ⟨⟨k1, by rw [hsz]; exact k2, k3⟩, (hk _ k1).trans k4⟩
  · rw [hsz]
    exact AIn.keep (w := W) (fun b hq => hk b hq.1) (h.kids i h1 h2)

theorem DictAt.cell4 (h : DictAt w0 l k s q v cell W) : W.cell? ⟨w0.heap.size, 4, none⟩ = some cell := by rw [Lib.cell_of_heap h.row]; rfl
theorem DictAt.frozen4 (h : DictAt w0 l k s q v cell W) : W.frozen? ⟨w0.heap.size, 4, none⟩ = false := Lib.frozen_of_heap h.row 4

/-- One item more. -/
theorem DictAt.snoc (h : DictAt w0 l k s q v cell W) {ra rb r3 : Nat} (hk : 2 * k + 1 < l.length) (hi : itemCells W (fun b => w0.heap.size < b ∧ b < W.heap.size ∧ v.ownBlock ≠ some b) l[2 * k].kind l[2 * k + 1].kind ra rb r3)
    (ha : AIn W (fun b => w0.heap.size < b ∧ b < W.heap.size ∧ v.ownBlock ≠ some b) l[2 * k] ra) (hb : AIn W (fun b => w0.heap.size < b ∧ b < W.heap.size ∧ v.ownBlock ≠ some b) l[2 * k + 1] rb)
    {g' cap : Nat} (hown : W'.ownsRow (w0.heap.size + 1) 188 1 (.slice (some ⟨g', 0, none⟩) (k + 1) cap) (k + 1) (q.map pp ++ [pp r3])) (hgrow : W.grownBy W' v.ownBlock) (hat : v.ownBlock = some g' ∨ g' = W.heap.size) :
    DictAt w0 l (k + 1) (s ++ [ra, rb]) (q ++ [r3]) (.slice (some ⟨g', 0, none⟩) (k + 1) cap) cell W' := by
  have hls := h.ls
  have hlq := h.lq
  have hsz := hgrow.size
  have hlt := h.lt
  have hg' : ∀ r, r < W.heap.size → v.ownBlock ≠ some r → W'.heap[r]? = W.heap[r]? := fun r hr hne => hgrow.block r hr fun e => hne e.symm
  have hne : ∀ r, r < W.heap.size → v.ownBlock ≠ some r → (Value.slice (some ⟨g', 0, none⟩) (k + 1) cap).ownBlock ≠ some r := fun r hr hv e => by
    have e2 : g' = r := Option.some.inj e
    rcases hat with h1 | h1
    · exact hv (h1.trans (congrArg some e2))
    · omega
  have hmv : ∀ {t : Tr} {r : Nat}, AIn W (fun b => w0.heap.size < b ∧ b < W.heap.size ∧ v.ownBlock ≠ some b) t r → AIn W' (fun b => w0.heap.size < b ∧ b < W'.heap.size ∧ (Value.slice (some ⟨g', 0, none⟩) (k + 1) cap).ownBlock ≠ some b) t r := fun hx =>
    AIn.mono (B := fun b => w0.heap.size < b ∧ b < W.heap.size ∧ v.ownBlock ≠ some b) (fun b hq => ⟨hq.1, by omega, hne b hq.2.1 hq.2.2⟩) (AIn.keep (w := W) (fun b hq => hg' b hq.2.1 hq.2.2) hx)
  have hmi : ∀ {k1 k2 : Int} {r1 r2 r : Nat}, itemCells W (fun b => w0.heap.size < b ∧ b < W.heap.size ∧ v.ownBlock ≠ some b) k1 k2 r1 r2 r → itemCells W' (fun b => w0.heap.size < b ∧ b < W'.heap.size ∧ (Value.slice (some ⟨g', 0, none⟩) (k + 1) cap).ownBlock ≠ some b) k1 k2 r1 r2 r := fun hx =>
    ⟨⟨hx.1.1, by have := hx.1.2.1; omega, hne _ hx.1.2.1 hx.1.2.2⟩, (hg' _ hx.1.2.1 hx.1.2.2).trans hx.2⟩
  have hvd : ∀ r, v.ownBlock = some r → w0.heap.size < r := fun r e => (h.own.lt r e).1
  refine ⟨(hg' _ hlt fun e => absurd (hvd _ e) (Nat.lt_irrefl _)).trans h.row, h.bel.grown hgrow (by omega) (fun r e => Nat.le_of_lt (hvd r e)), by simp [hls]; omega, by simp [hlq], by rw [List.map_append]; exact hown, fun i h0 h1 h2 => ?_, fun i h1 h2 => ?_⟩
  · by_cases hil : i < q.length
    · have e1 : (s ++ [ra, rb])[2 * i] = s[2 * i]'(by omega) := List.getElem_append_left (by omega)
      have e2 : (s ++ [ra, rb])[2 * i + 1] = s[2 * i + 1]'(by omega) := List.getElem_append_left (by omega)
      have e3 : (q ++ [r3])[i] = q[i] := List.getElem_append_left hil
      rw [e1, e2, e3]
      exact hmi (h.items i hil h1 (by omega))
    · have hie : i = k := by simp [hlq] at h0; omega
      subst hie
      have e1 : (s ++ [ra, rb])[2 * i]'(by omega) = ra := by rw [List.getElem_append_right (by omega)]; simp [hls]
      have e2 : (s ++ [ra, rb])[2 * i + 1] = rb := by rw [List.getElem_append_right (by omega)]; simp [hls]
      have e3 : (q ++ [r3])[i] = r3 := by rw [List.getElem_append_right (by omega)]; simp [hlq]
      rw [e1, e2, e3]
      exact hmi hi
  · by_cases hil : i < s.length
    · have e1 : (s ++ [ra, rb])[i] = s[i] := List.getElem_append_left hil
      rw [e1]
      exact hmv (h.kids i h1 hil)
    · have h2' : i < 2 * k + 2 := by simpa [hls] using h2
      by_cases hie : i = 2 * k
      · subst hie
        have e1 : (s ++ [ra, rb])[2 * k] = ra := by rw [List.getElem_append_right (by omega)]; simp [hls]
        rw [e1]
        exact hmv ha
      · have hie2 : i = 2 * k + 1 := by omega
        subst hie2
        have e1 : (s ++ [ra, rb])[2 * k + 1] = rb := by rw [List.getElem_append_right (by omega)]; simp [hls]
        rw [e1]
        exact hmv hb
end

section
variable {ops : Array Oper} {o : Oper} {a : Act} {W : World} {K : Act → World → Prop} {Q : Exit → Act → World → Prop} {E : Prop}

theorem step_append_item (hgd : o.guard = none) (so x : Operand) (ho : o.op = .call { callee := .builtin .append, args := #[so, x], argTypes := #[185, 185] }) {w0 : World} {l : List Tr} {k : Nat} {s q : List Nat} {v cell : Value} (h : DictAt w0 l k s q v cell W)
    (hs : a.eval so = v) (hlen : l.length ≤ 1000) {ra rb r3 xb : Nat} (hk : 2 * k + 1 < l.length) {ta tb : Tr} (hta : l[2 * k]'(by omega) = ta) (htb : l[2 * k + 1] = tb) (hi : itemCells W (fun b => w0.heap.size < b ∧ b < W.heap.size ∧ v.ownBlock ≠ some b) ta.kind tb.kind ra rb r3)
    (ha : AIn W (fun b => w0.heap.size < b ∧ b < W.heap.size ∧ v.ownBlock ≠ some b) ta ra) (hb : AIn W (fun b => w0.heap.size < b ∧ b < W.heap.size ∧ v.ownBlock ≠ some b) tb rb)
    (hx : a.eval x = .slice (some ⟨xb, 0, none⟩) 1 1) (hxb : W.heap[xb]? = some (.cells #[pp r3] 188 (0, 0)))
    (hK : ∀ g' cap w', DictAt w0 l (k + 1) (s ++ [ra, rb]) (q ++ [r3]) (.slice (some ⟨g', 0, none⟩) (k + 1) cap) cell w' → W.heap.size ≤ w'.heap.size → K (a.put o.dst (.slice (some ⟨g', 0, none⟩) (k + 1) cap)) w') :
    if Region.wanted o (yielded ops a.tmps) = true then Oper.wp Tryz.prog o a W K Q else E := by
  subst hta htb
  obtain ⟨i0, hii, hz0, hz1, hz2⟩ := info_parts (show (Tryz.prog.info? 188).map (fun i => (i.zero, i.size, i.bytes)) = some (some (.pointer none), 1, 8) by kernel_rfl)
  refine step_append_lies W hgd so x 185 ho (w0.heap.size + 1) 188 i0 _ 1 8 Tryz.underlying185 hii hz0 hz1 hz2 rfl (by decide) v k (q.map pp) hs h.own ⟨xb, 0, none⟩ 1 1 [pp r3] hx rfl (World.news_of_block (cs := #[pp r3]) (t := 188) (fr := (0, 0)) hxb) (fun u hu => by rw [List.mem_singleton] at hu; subst hu; rfl) (by decide) (by unfold maxLen; omega) (by omega) h.lt _ rfl ?_
  intro g' cap w' hown hgrow hat hlt
  exact hK g' cap w' (h.snoc hk hi ha hb hown hgrow hat) hgrow.size
end

set_option maxHeartbeats 8000000 in
set_option maxRecDepth 100000 in
theorem un_k27 {N : Nat} {l : List Tr} (hl : ∀ x ∈ l, UnH N x) (cl : ∀ x ∈ l, exprB x.kind) (hlen : l.length ≤ 1000) (he2 : l.length % 2 = 0) : UnH N (.mk 27 ⟨#[]⟩ ⟨#[]⟩ 0 l) := by
  intro v w hv hN
  obtain ⟨k', t', m', n', ks', a, c, he, rfl⟩ := hv.form
  injection he with e1 e2 e3 e4 e5
  subst e1 e2 e3 e4 e5
  have hb0 := (Below.refl w.heap.size w).alloc (Nat.le_refl _) (.cells #[.int .i64 27, .string ⟨#[]⟩, .string ⟨#[]⟩, .int .u64 0, .slice a l.length c] 25)
  have hrow0 := heap_alloc_new w (.cells #[.int .i64 27, .string ⟨#[]⟩, .string ⟨#[]⟩, .int .u64 0, .slice a l.length c] 25)
  have HROW := Lib.hid ((RowN.of hv).keep (Keep.of_below hb0 hN))
  obtain ⟨w0, hw0⟩ : ∃ w0, w0 = w.alloc (.cells #[.int .i64 27, .string ⟨#[]⟩, .string ⟨#[]⟩, .int .u64 0, .slice a l.length c] 25) := ⟨_, rfl⟩
  rw [← hw0] at hb0 hrow0 HROW
  have hN0 : N ≤ w0.heap.size := Nat.le_trans hN hb0.size
  have hD0 : DictAt w0 l 0 [] [] nilS nilS (w0.alloc (.cells #[.pointer none, nilS, nilS, nilS, nilS, nilS] 187)) := ⟨heap_alloc_new w0 _, (Below.refl _ w0).alloc (Nat.le_refl _) _, rfl, rfl, World.ownsRow_nil _ _ _ _, fun i h _ _ => absurd h (Nat.not_lt_zero _), fun i _ h => absurd h (Nat.not_lt_zero _)⟩
  have HC : Hid (∀ x ∈ l, ∀ v W, NodeIn W (· < N) x v → N ≤ W.heap.size → Calls Tryz.prog 44 #[v] W (UnP x W)) := Lib.hid fun x hx v W h1 h2 => nodeOf_Expression (hl x hx) (cl x hx) v W h1 h2
  have HD0 := Lib.hid hD0
  have HB0 := Lib.hid hb0
  have HN0 := Lib.hid hN0
  have HX0 : Hid (∀ W, Below w0.heap.size w0 W → W.cell? ⟨w.heap.size, 4, none⟩ = some (.slice a l.length c)) := Lib.hid fun W hb => by
    have hx := (Array.getElem?_eq_some_iff.1 hrow0).1
    rw [hb.cell (p := ⟨w.heap.size, 4, none⟩) hx, Lib.cell_of_heap hrow0]
    rfl
  have HW0 := Lib.hid hw0
  have HZ0 : Hid (w0.heap.size = w.heap.size + 1) := Lib.hid (by rw [hw0, alloc_size])
  unfold nodeU
  clear hv hb0 hrow0 hl cl hD0
  go_enter Tryz.func23, Tryz.ntmps23
  go_wp2_with fail
  rw [← HW0.out, ← HZ0.out]
  clear hw0 HW0
  have HEND : Hid (∀ W k s q al cc, 2 * k = l.length → DictAt w0 l k s q (.slice al k cc) (.slice al k cc) W → UnP (.mk 27 ⟨#[]⟩ ⟨#[]⟩ 0 l) w (.returned (kv 27 w0.heap.size)) W) := Lib.hid fun W k s q al cc hk h => by
    have hls := h.ls
    have hlq := h.lq
    have hz := HB0.out.size
    refine ⟨w0.heap.size, rfl, .k27 l s (by omega) q (by omega) _ ⟨w0.heap.size + 1, by rw [List.length_map, hlq]; exact h.own, fun r e => ⟨by have := (h.own.lt r e).1; omega, (h.own.lt r e).2⟩⟩ (fun i a b c => ⟨⟨by have := (h.items i a b c).1.1; omega, (h.items i a b c).1.2.1⟩, (h.items i a b c).2⟩) (fun i a b => (h.kids i a b).mono fun b hb => ⟨by omega, hb.2.1⟩) _ ⟨hz, h.lt⟩ h.row, HB0.out.trans (h.bel.mono hz)⟩
  go_loopw [6] (fun i wr => ∃ k j : Nat, j = 2 * k ∧ j ≤ l.length ∧ i = .int .i64 (j : Int) ∧ ∃ s q al cc, Hid (DictAt w0 l k s q (.slice al k cc) (.slice al k cc) wr)) (fun i _ => l.length - (intOf i).toNat)
  case atStart => exact ⟨0, 0, rfl, Nat.zero_le _, rfl, [], [], none, 0, HD0⟩
  case round =>
    obtain ⟨k, j, hj, hjl, rfl, s, q, al, cc, HD⟩ := hrel
    have HJ := Lib.hid hj
    have hw1 : IntKind.i64.wrap ((j : Int) + 1) = ((j + 1 : Nat) : Int) := by rw [IntKind.wrap_i64]; omega
    have hw2 : IntKind.i64.wrap ((j : Int) + 2) = ((j + 2 : Nat) : Int) := by rw [IntKind.wrap_i64]; omega
    have hwp := HX0.out wr HD.out.bel
    have hc4 := HD.out.cell4
    by_cases hlt : j + 1 < l.length
    · obtain ⟨b, o, rfl, hbN, hkid⟩ := HROW.out (by omega)
      have hdr : Below wr.heap.size wr wr.drew := (Below.refl _ wr).drew
      obtain ⟨x1, y1, hin1, d0, d1, d2, d3, d4⟩ := hkid wr (Keep.of_below HD.out.bel HN0.out) j (by omega)
      obtain ⟨x2, y2, hin2, e0, e1, e2, e3, e4⟩ := hkid wr (Keep.of_below HD.out.bel HN0.out) (j + 1) hlt
      have HCA0 := Lib.hid (HC.out l[j] (List.getElem_mem _))
      have HCB0 := Lib.hid (HC.out l[j + 1] (List.getElem_mem hlt))
      obtain ⟨ta, hta⟩ : ∃ ta, l[j] = ta := ⟨_, rfl⟩
      obtain ⟨tb, htb⟩ : ∃ tb, l[j + 1] = tb := ⟨_, rfl⟩
      rw [hta] at hin1 d0 d1 d2 d3 d4 HCA0
      rw [htb] at hin2 e0 e1 e2 e3 e4 HCB0
      have HTA : Hid (∀ h, l[2 * k]'h = ta) := Lib.hid fun h => by
        have h0 : l[j]? = some ta := by rw [List.getElem?_eq_getElem (by omega), hta]
        rw [hj] at h0
        exact (List.getElem?_eq_some_iff.1 h0).2
      have HTB : Hid (∀ h, l[2 * k + 1]'h = tb) := Lib.hid fun h => by
        have h0 : l[j + 1]? = some tb := by rw [List.getElem?_eq_getElem hlt, htb]
        rw [hj] at h0
        exact (List.getElem?_eq_some_iff.1 h0).2
      have hNr : N ≤ wr.heap.size := Nat.le_trans HN0.out HD.out.bel.size
      have hb0' : b < w0.heap.size := Nat.lt_of_lt_of_le hbN HN0.out
      have HKC : Hid (∀ W, Below wr.heap.size wr W → W.cell? ⟨w0.heap.size, 4, none⟩ = some (.slice al k cc)) := Lib.hid fun W hb => (hb.cell (p := ⟨w0.heap.size, 4, none⟩) HD.out.lt).trans hc4
      have HS : Hid (∀ W, Below w0.heap.size w0 W → W.cell? ⟨w.heap.size, 4, none⟩ = some (.slice (some ⟨b, o, none⟩) l.length c) ∧ (W.cell? ⟨b, o + j * 5, none⟩ = some (.int .i64 ta.kind) ∧ W.cell? ⟨b, o + j * 5 + 1, none⟩ = some (.string ta.text) ∧ W.cell? ⟨b, o + j * 5 + 2, none⟩ = some (.string ta.more) ∧ W.cell? ⟨b, o + j * 5 + 3, none⟩ = some (.int .u64 ta.num) ∧ W.cell? ⟨b, o + j * 5 + 4, none⟩ = some (.slice x1 ta.kids.length y1)) ∧ (W.cell? ⟨b, o + (j + 1) * 5, none⟩ = some (.int .i64 tb.kind) ∧ W.cell? ⟨b, o + (j + 1) * 5 + 1, none⟩ = some (.string tb.text) ∧ W.cell? ⟨b, o + (j + 1) * 5 + 2, none⟩ = some (.string tb.more) ∧ W.cell? ⟨b, o + (j + 1) * 5 + 3, none⟩ = some (.int .u64 tb.num) ∧ W.cell? ⟨b, o + (j + 1) * 5 + 4, none⟩ = some (.slice x2 tb.kids.length y2))) := Lib.hid fun W hb => by
        have hc : ∀ i, W.cell? ⟨b, i, none⟩ = wr.cell? ⟨b, i, none⟩ := fun i => (hb.cell (p := ⟨b, i, none⟩) hb0').trans (HD.out.bel.cell (p := ⟨b, i, none⟩) hb0').symm
        exact ⟨HX0.out W hb, ⟨(hc _).trans d0, (hc _).trans d1, (hc _).trans d2, (hc _).trans d3, (hc _).trans d4⟩, ⟨(hc _).trans e0, (hc _).trans e1, (hc _).trans e2, (hc _).trans e3, (hc _).trans e4⟩⟩
      have HCA : Hid (Calls Tryz.prog 44 #[.agg #[.int .i64 ta.kind, .string ta.text, .string ta.more, .int .u64 ta.num, .slice x1 ta.kids.length y1]] wr.drew (UnP ta wr.drew)) := Lib.hid (HCA0.out _ wr.drew (hin1.keep (Keep.of_below hdr hNr)) (Nat.le_trans hNr hdr.size))
      have HCB : Hid (∀ W, Below wr.heap.size wr W → Calls Tryz.prog 44 #[.agg #[.int .i64 tb.kind, .string tb.text, .string tb.more, .int .u64 tb.num, .slice x2 tb.kids.length y2]] W (UnP tb W)) := Lib.hid fun W hb => HCB0.out _ W (hin2.keep (Keep.of_below hb hNr)) (Nat.le_trans hNr hb.size)
      have HDR := Lib.hid hdr
      have hk1 : 2 * k + 1 < l.length := by omega
      have HEND5 : Hid (∀ w4 w5 ra rb, Below wr.heap.size wr w4 → Below w4.heap.size w4 w5 → AIn w4 (fun b => wr.heap.size ≤ b ∧ b < w4.heap.size) ta ra → AIn w5 (fun b => w4.heap.size ≤ b ∧ b < w5.heap.size) tb rb →
          ∀ w6 w7, w6 = w5.alloc (.cells #[kv ta.kind ra, kv tb.kind rb, nilS] 190) → w7 = w6.alloc (.cells #[pp w5.heap.size] 188) →
          Below wr.heap.size wr w6 ∧ Below wr.heap.size wr w7 ∧ DictAt w0 l k s q (.slice al k cc) (.slice al k cc) w7 ∧ itemCells w7 (fun b => w0.heap.size < b ∧ b < w7.heap.size ∧ (Value.slice al k cc).ownBlock ≠ some b) ta.kind tb.kind ra rb w5.heap.size ∧
            AIn w7 (fun b => w0.heap.size < b ∧ b < w7.heap.size ∧ (Value.slice al k cc).ownBlock ≠ some b) ta ra ∧ AIn w7 (fun b => w0.heap.size < b ∧ b < w7.heap.size ∧ (Value.slice al k cc).ownBlock ≠ some b) tb rb ∧ w7.heap[w5.heap.size + 1]? = some (.cells #[pp w5.heap.size] 188 (0, 0))) := Lib.hid fun w4 w5 ra rb h4 h5 ha hb => by
        intro w6 w7 hw6 hw7
        have z6 : w6.heap.size = w5.heap.size + 1 := by rw [hw6, alloc_size]
        have z7 : w7.heap.size = w5.heap.size + 1 + 1 := by rw [hw7, alloc_size, z6]
        have b5 := h4.trans (h5.mono h4.size)
        have b56 : Below w5.heap.size w5 w6 := by rw [hw6]; exact (Below.refl _ w5).alloc (Nat.le_refl _) _
        have b67 : Below w6.heap.size w6 w7 := by rw [hw7]; exact (Below.refl _ w6).alloc (Nat.le_refl _) _
        have b57 := b56.trans (b67.mono b56.size)
        have b6 := b5.trans (b56.mono b5.size)
        have b7 := b5.trans (b57.mono b5.size)
        have hlt := HD.out.lt
        have s4 := h4.size
        have s5 := h5.size
        have hne : ∀ r, wr.heap.size ≤ r → (Value.slice al k cc).ownBlock ≠ some r := fun r hr e => by
          have := (HD.out.own.lt r e).2
          omega
        refine ⟨b6, b7, HD.out.below b7, ⟨⟨by omega, by omega, hne _ (by omega)⟩, (b67.block _ (by omega)).trans (by rw [hw6]; exact heap_alloc_new w5 _)⟩, ?_, ?_, ?_⟩
        · exact AIn.mono (B := fun b => wr.heap.size ≤ b ∧ b < w4.heap.size) (fun r hr => ⟨by omega, by omega, hne r hr.1⟩) (AIn.keep (w := w4) (fun r hr => (h5.trans (b57.mono h5.size)).block r hr.2) ha)
        · exact AIn.mono (B := fun b => w4.heap.size ≤ b ∧ b < w5.heap.size) (fun r hr => ⟨by omega, by omega, hne r (by omega)⟩) (AIn.keep (w := w5) (fun r hr => b57.block r hr.2) hb)
        · rw [← z6, hw7]
          exact heap_alloc_new w6 _
      have m1 := HKC.out _ hdr
      have m1' := HKC.out _ (Below.refl _ wr)
      have hdd := HD.out.bel.drew
      have hdd0 := HD.out.bel
      clear hkid hin1 hin2 HC HX0 HROW HCA0 HCB0 hta htb hdr hj hbN hc4 d0 d1 d2 d3 d4 e0 e1 e2 e3 e4 hb0'
      have hi1 : (j : Int) < l.length := by omega
      have hi2 : ((j + 1 : Nat) : Int) < l.length := by omega
      have hi3 : (j : Int) + 1 < l.length := by omega
      have hi0 : (0 : Int) ≤ j := by omega
      have hi4 : (0 : Int) ≤ (j : Int) + 1 := by omega
      go_upto_region 83 with fail
      refine wp_region_held_drew (S := (fun w' => w'.cell? ⟨w.heap.size, 4, none⟩ = some (.slice (some ⟨b, o, none⟩) l.length c) ∧ (w'.cell? ⟨b, o + j * 5, none⟩ = some (.int .i64 ta.kind) ∧ w'.cell? ⟨b, o + j * 5 + 1, none⟩ = some (.string ta.text) ∧ w'.cell? ⟨b, o + j * 5 + 2, none⟩ = some (.string ta.more) ∧ w'.cell? ⟨b, o + j * 5 + 3, none⟩ = some (.int .u64 ta.num) ∧ w'.cell? ⟨b, o + j * 5 + 4, none⟩ = some (.slice x1 ta.kids.length y1)) ∧ (w'.cell? ⟨b, o + (j + 1) * 5, none⟩ = some (.int .i64 tb.kind) ∧ w'.cell? ⟨b, o + (j + 1) * 5 + 1, none⟩ = some (.string tb.text) ∧ w'.cell? ⟨b, o + (j + 1) * 5 + 2, none⟩ = some (.string tb.more) ∧ w'.cell? ⟨b, o + (j + 1) * 5 + 3, none⟩ = some (.int .u64 tb.num) ∧ w'.cell? ⟨b, o + (j + 1) * 5 + 4, none⟩ = some (.slice x2 tb.kids.length y2)))) (by kernel_rfl) ?_ (fun hHeld => ?_)
      · (try dsimp only); first | exact HS.out _ hdd | exact HS.out _ hdd0 | exact HS.out _ hz40 | exact HS.out _ hz50 | exact HS.out _ hz60 | exact HS.out _ hz70 | exact HS.out _ hf8.bel | exact HS.out _ (hf8.set _).bel
      refine wpAnyH_take (i := 0) (oi := { dst := some 426, op := Op.move (Operand.tmp 5), type := 184, pos := "ast.go:196", after := #[], guard := none }) (v := ?_) rfl (by kernel_rfl) (by kernel_rfl) (by kernel_rfl) (fun _ _ _ h => h) (Or.inl ⟨by rfl, ?_⟩) (by assumption) ?_
      rotate_left
      · (intro w hSw; (try dsimp only at hSw); go_simp)
        all_goals with_reducible rfl
      try simp only [Act.put, List.setIfInBounds_toArray, List.set_cons_zero, List.set_cons_succ]
      refine wpAnyH_take (i := 1) (oi := { dst := some 427, op := Op.move (Operand.tmp 5), type := 184, pos := "ast.go:196", after := #[], guard := none }) (v := ?_) rfl (by kernel_rfl) (by kernel_rfl) (by kernel_rfl) (fun _ _ _ h => h) (Or.inl ⟨by rfl, ?_⟩) (by assumption) ?_
      rotate_left
      · (intro w hSw; (try dsimp only at hSw); go_simp)
        all_goals with_reducible rfl
      try simp only [Act.put, List.setIfInBounds_toArray, List.set_cons_zero, List.set_cons_succ]
      refine wpAnyH_take (i := 2) (oi := { dst := some 428, op := Op.nilCheck (Operand.tmp 427), type := 0, pos := "ast.go:196", after := #[{ on := 1, ground := Ground.data }], guard := none }) (v := ?_) rfl (by kernel_rfl) (by kernel_rfl) (by kernel_rfl) (fun _ _ _ h => h) (Or.inl ⟨by rfl, ?_⟩) (by assumption) ?_
      rotate_left
      · (intro w hSw; (try dsimp only at hSw); go_simp)
        all_goals with_reducible rfl
      try simp only [Act.put, List.setIfInBounds_toArray, List.set_cons_zero, List.set_cons_succ]
      refine wpAnyH_take (i := 3) (oi := { dst := some 429, op := Op.fieldAddr 187 (Operand.tmp 428) 2, type := 0, pos := "ast.go:196", after := #[{ on := 2, ground := Ground.data }], guard := none }) (v := ?_) rfl (by kernel_rfl) (by kernel_rfl) (by kernel_rfl) (fun _ _ _ h => h) (Or.inl ⟨by rfl, ?_⟩) (by assumption) ?_
      rotate_left
      · (intro w hSw; (try dsimp only at hSw); go_simp)
        all_goals with_reducible rfl
      try simp only [Act.put, List.setIfInBounds_toArray, List.set_cons_zero, List.set_cons_succ]
      refine wpAnyH_take (i := 5) (oi := { dst := some 431, op := Op.fieldAddr 25 (Operand.tmp 1) 4, type := 0, pos := "ast.go:196", after := #[], guard := none }) (v := ?_) rfl (by kernel_rfl) (by kernel_rfl) (by kernel_rfl) (fun _ _ _ h => h) (Or.inl ⟨by rfl, ?_⟩) (by assumption) ?_
      rotate_left
      · (intro w hSw; (try dsimp only at hSw); go_simp)
        all_goals with_reducible rfl
      try simp only [Act.put, List.setIfInBounds_toArray, List.set_cons_zero, List.set_cons_succ]
      refine wpAnyH_take (i := 6) (oi := { dst := some 432, op := Op.load 23 (Operand.tmp 431), type := 23, pos := "ast.go:196", after := #[{ on := 5, ground := Ground.data }], guard := none }) (v := ?_) rfl (by kernel_rfl) (by kernel_rfl) (by kernel_rfl) (fun _ _ _ h => h) (Or.inl ⟨by rfl, ?_⟩) (by assumption) ?_
      rotate_left
      · (intro w hSw; (try dsimp only at hSw); go_simp)
        all_goals with_reducible rfl
      try simp only [Act.put, List.setIfInBounds_toArray, List.set_cons_zero, List.set_cons_succ]
      refine wpAnyH_take (i := 7) (oi := { dst := some 433, op := Op.move (Operand.tmp 6), type := 3, pos := "ast.go:196", after := #[], guard := none }) (v := ?_) rfl (by kernel_rfl) (by kernel_rfl) (by kernel_rfl) (fun _ _ _ h => h) (Or.inl ⟨by rfl, ?_⟩) (by assumption) ?_
      rotate_left
      · (intro w hSw; (try dsimp only at hSw); go_simp)
        all_goals with_reducible rfl
      try simp only [Act.put, List.setIfInBounds_toArray, List.set_cons_zero, List.set_cons_succ]
      refine wpAnyH_take (i := 8) (oi := { dst := some 434, op := Op.indexAddr 23 (Operand.tmp 432) (Operand.tmp 433), type := 0, pos := "ast.go:196", after := #[{ on := 6, ground := Ground.data }, { on := 7, ground := Ground.data }], guard := none }) (v := ?_) rfl (by kernel_rfl) (by kernel_rfl) (by kernel_rfl) (fun _ _ _ h => h) (Or.inl ⟨by rfl, ?_⟩) (by assumption) ?_
      rotate_left
      · (intro w hSw; (try dsimp only at hSw); go_simp)
        all_goals with_reducible rfl
      try simp only [Act.put, List.setIfInBounds_toArray, List.set_cons_zero, List.set_cons_succ]
      refine wpAnyH_take (i := 9) (oi := { dst := some 435, op := Op.load 25 (Operand.tmp 434), type := 25, pos := "ast.go:196", after := #[{ on := 8, ground := Ground.data }], guard := none }) (v := ?_) rfl (by kernel_rfl) (by kernel_rfl) (by kernel_rfl) (fun _ _ _ h => h) (Or.inl ⟨by rfl, ?_⟩) (by assumption) ?_
      rotate_left
      · (intro w hSw; (try dsimp only at hSw); go_simp)
        all_goals with_reducible rfl
      try simp only [Act.put, List.setIfInBounds_toArray, List.set_cons_zero, List.set_cons_succ]
      refine wpAnyH_take (i := 11) (oi := { dst := some 437, op := Op.fieldAddr 25 (Operand.tmp 1) 4, type := 0, pos := "ast.go:196", after := #[], guard := none }) (v := ?_) rfl (by kernel_rfl) (by kernel_rfl) (by kernel_rfl) (fun _ _ _ h => h) (Or.inl ⟨by rfl, ?_⟩) (by assumption) ?_
      rotate_left
      · (intro w hSw; (try dsimp only at hSw); go_simp)
        all_goals with_reducible rfl
      try simp only [Act.put, List.setIfInBounds_toArray, List.set_cons_zero, List.set_cons_succ]
      refine wpAnyH_take (i := 12) (oi := { dst := some 438, op := Op.load 23 (Operand.tmp 437), type := 23, pos := "ast.go:196", after := #[{ on := 11, ground := Ground.data }], guard := none }) (v := ?_) rfl (by kernel_rfl) (by kernel_rfl) (by kernel_rfl) (fun _ _ _ h => h) (Or.inl ⟨by rfl, ?_⟩) (by assumption) ?_
      rotate_left
      · (intro w hSw; (try dsimp only at hSw); go_simp)
        all_goals with_reducible rfl
      try simp only [Act.put, List.setIfInBounds_toArray, List.set_cons_zero, List.set_cons_succ]
      refine wpAnyH_take (i := 13) (oi := { dst := some 439, op := Op.move (Operand.tmp 6), type := 3, pos := "ast.go:196", after := #[], guard := none }) (v := ?_) rfl (by kernel_rfl) (by kernel_rfl) (by kernel_rfl) (fun _ _ _ h => h) (Or.inl ⟨by rfl, ?_⟩) (by assumption) ?_
      rotate_left
      · (intro w hSw; (try dsimp only at hSw); go_simp)
        all_goals with_reducible rfl
      try simp only [Act.put, List.setIfInBounds_toArray, List.set_cons_zero, List.set_cons_succ]
      refine wpAnyH_take (i := 14) (oi := { dst := some 440, op := Op.binOp BinOp.add 3 (Operand.tmp 439) (Operand.const (Value.int IntKind.i64 1)) 3, type := 3, pos := "ast.go:196", after := #[{ on := 13, ground := Ground.data }], guard := none }) (v := ?_) rfl (by kernel_rfl) (by kernel_rfl) (by kernel_rfl) (fun _ _ _ h => h) (Or.inl ⟨by rfl, ?_⟩) (by assumption) ?_
      rotate_left
      · (intro w hSw; (try dsimp only at hSw); go_simp)
        all_goals with_reducible rfl
      try simp only [Act.put, List.setIfInBounds_toArray, List.set_cons_zero, List.set_cons_succ]
      refine wpAnyH_take (i := 15) (oi := { dst := some 441, op := Op.indexAddr 23 (Operand.tmp 438) (Operand.tmp 440), type := 0, pos := "ast.go:196", after := #[{ on := 12, ground := Ground.data }, { on := 14, ground := Ground.data }], guard := none }) (v := ?_) rfl (by kernel_rfl) (by kernel_rfl) (by kernel_rfl) (fun _ _ _ h => h) (Or.inl ⟨by rfl, ?_⟩) (by assumption) ?_
      rotate_left
      · (intro w hSw; (try dsimp only at hSw); go_simp)
        all_goals with_reducible rfl
      try simp only [Act.put, List.setIfInBounds_toArray, List.set_cons_zero, List.set_cons_succ]
      refine wpAnyH_take (i := 16) (oi := { dst := some 442, op := Op.load 25 (Operand.tmp 441), type := 25, pos := "ast.go:196", after := #[{ on := 15, ground := Ground.data }], guard := none }) (v := ?_) rfl (by kernel_rfl) (by kernel_rfl) (by kernel_rfl) (fun _ _ _ h => h) (Or.inl ⟨by rfl, ?_⟩) (by assumption) ?_
      rotate_left
      · (intro w hSw; (try dsimp only at hSw); go_simp)
        all_goals with_reducible rfl
      try simp only [Act.put, List.setIfInBounds_toArray, List.set_cons_zero, List.set_cons_succ]
      refine wpAnyH_ready (rs := [4, 10]) (by kernel_rfl) (by simp) ?_
      refine AllReadyH.cons (o := { dst := some 430, op := Op.load 185 (Operand.tmp 429), type := 185, pos := "ast.go:196", after := #[{ on := 3, ground := Ground.data }], guard := none }) rfl (fun K hK => ?_) ?_
      · go_simp
        refine hK.out _ _ ?_ (fun hHeld => ?_)
        · (try dsimp only); first | exact HS.out _ hdd | exact HS.out _ hdd0 | exact HS.out _ hz40 | exact HS.out _ hz50 | exact HS.out _ hz60 | exact HS.out _ hz70 | exact HS.out _ hf8.bel | exact HS.out _ (hf8.set _).bel
        clear hK K
        try simp only [Act.put, List.setIfInBounds_toArray, List.set_cons_zero, List.set_cons_succ]
        refine wpAnyH_ready (rs := [10]) (by kernel_rfl) (by simp) ?_
        refine AllReadyH.cons (o := { dst := some 436, op := Op.call { callee := Callee.value (Operand.func 44), args := #[Operand.tmp 435], argTypes := #[25] }, type := 68, pos := "ast.go:196", after := #[{ on := 9, ground := Ground.data }], guard := none }) rfl (fun K hK => ?_) ?_
        · go_simp
          ((with_reducible refine HCA.out.mono ?_))
          rintro e w4 ⟨ra, he4, hra, hb4⟩
          have he5 : e = .returned (.iface (astP ta.kind) (.pointer (some ⟨ra, 0, none⟩))) := he4
          subst he5
          clear he4
          have hz4 : Below wr.heap.size wr w4 := HDR.out.trans (hb4.mono HDR.out.size)
          have p1 := HKC.out _ hz4
          have hz40 := hdd0.trans (hz4.mono hdd0.size)
          go_wp2_with fail
          refine hK.out _ _ ?_ (fun hHeld => ?_)
          · (try dsimp only); first | exact HS.out _ hdd | exact HS.out _ hdd0 | exact HS.out _ hz40 | exact HS.out _ hz50 | exact HS.out _ hz60 | exact HS.out _ hz70 | exact HS.out _ hf8.bel | exact HS.out _ (hf8.set _).bel
          clear hK K
          try simp only [Act.put, List.setIfInBounds_toArray, List.set_cons_zero, List.set_cons_succ]
          refine wpAnyH_ready (rs := [17]) (by kernel_rfl) (by simp) ?_
          refine AllReadyH.cons (o := { dst := some 443, op := Op.call { callee := Callee.value (Operand.func 44), args := #[Operand.tmp 442], argTypes := #[25] }, type := 68, pos := "ast.go:196", after := #[{ on := 16, ground := Ground.data }, { on := 10, ground := Ground.chain }], guard := none }) rfl (fun K hK => ?_) ?_
          · go_simp
            ((with_reducible refine (HCB.out _ hz4).mono ?_))
            rintro e w5 ⟨rb, he5, hrb, hb5⟩
            have he6 : e = .returned (.iface (astP tb.kind) (.pointer (some ⟨rb, 0, none⟩))) := he5
            subst he6
            clear he5
            have HE7 := Lib.hid (HEND5.out w4 w5 ra rb hz4 hb5 hra hrb _ _ rfl rfl)
            have r1 := HKC.out _ (hz4.trans (hb5.mono hz4.size))
            have s1 := HKC.out _ HE7.out.1
            have t1 := HKC.out _ HE7.out.2.1
            have hz50 := hdd0.trans ((hz4.trans (hb5.mono hz4.size)).mono hdd0.size)
            have hz60 := hdd0.trans (HE7.out.1.mono hdd0.size)
            have hz70 := hdd0.trans (HE7.out.2.1.mono hdd0.size)
            go_wp2_with fail
            refine hK.out _ _ ?_ (fun hHeld => ?_)
            · (try dsimp only); first | exact HS.out _ hdd | exact HS.out _ hdd0 | exact HS.out _ hz40 | exact HS.out _ hz50 | exact HS.out _ hz60 | exact HS.out _ hz70 | exact HS.out _ hf8.bel | exact HS.out _ (hf8.set _).bel
            clear hK K
            try simp only [Act.put, List.setIfInBounds_toArray, List.set_cons_zero, List.set_cons_succ]
            refine wpAnyH_take (i := 18) (oi := { dst := some 444, op := Op.build 190 #[(0, Operand.tmp 436), (1, Operand.tmp 443)], type := 190, pos := "ast.go:196", after := #[{ on := 10, ground := Ground.data }, { on := 17, ground := Ground.data }], guard := none }) (v := ?_) rfl (by kernel_rfl) (by kernel_rfl) (by kernel_rfl) (fun _ _ _ h => h) (Or.inl ⟨by rfl, ?_⟩) (by assumption) ?_
            rotate_left
            · (intro w hSw; (try dsimp only at hSw); go_simp)
              all_goals with_reducible rfl
            try simp only [Act.put, List.setIfInBounds_toArray, List.set_cons_zero, List.set_cons_succ]
            refine wpAnyH_ready (rs := [19]) (by kernel_rfl) (by simp) ?_
            refine AllReadyH.cons (o := { dst := some 445, op := Op.box 190 (Operand.tmp 444), type := 188, pos := "ast.go:196", after := #[{ on := 18, ground := Ground.data }], guard := none }) rfl (fun K hK => ?_) ?_
            · go_simp
              refine hK.out _ _ ?_ (fun hHeld => ?_)
              · (try dsimp only); first | exact HS.out _ hdd | exact HS.out _ hdd0 | exact HS.out _ hz40 | exact HS.out _ hz50 | exact HS.out _ hz60 | exact HS.out _ hz70 | exact HS.out _ hf8.bel | exact HS.out _ (hf8.set _).bel
              clear hK K
              try simp only [Act.put, List.setIfInBounds_toArray, List.set_cons_zero, List.set_cons_succ]
              refine wpAnyH_ready (rs := [20]) (by kernel_rfl) (by simp) ?_
              refine AllReadyH.cons (o := { dst := some 446, op := Op.buildSlice 185 1 #[(0, Operand.tmp 445)], type := 185, pos := "ast.go:196", after := #[{ on := 19, ground := Ground.data }], guard := none }) rfl (fun K hK => ?_) ?_
              · go_simp
                refine hK.out _ _ ?_ (fun hHeld => ?_)
                · (try dsimp only); first | exact HS.out _ hdd | exact HS.out _ hdd0 | exact HS.out _ hz40 | exact HS.out _ hz50 | exact HS.out _ hz60 | exact HS.out _ hz70 | exact HS.out _ hf8.bel | exact HS.out _ (hf8.set _).bel
                clear hK K
                try simp only [Act.put, List.setIfInBounds_toArray, List.set_cons_zero, List.set_cons_succ]
                refine wpAnyH_ready (rs := [21]) (by kernel_rfl) (by simp) ?_
                refine AllReadyH.cons (o := { dst := some 447, op := Op.call { callee := Callee.builtin Builtin.append, args := #[Operand.tmp 430, Operand.tmp 446], argTypes := #[185, 185] }, type := 185, pos := "ast.go:196", after := #[{ on := 4, ground := Ground.data }, { on := 20, ground := Ground.data }, { on := 17, ground := Ground.chain }], guard := none }) rfl (fun K hK => ?_) ?_
                · refine step_append_item (by rfl) _ _ (by rfl) HE7.out.2.2.1 (by rfl) hlen hk1 (HTA.out _) (HTB.out _) HE7.out.2.2.2.1 HE7.out.2.2.2.2.1 HE7.out.2.2.2.2.2.1 (by rfl) HE7.out.2.2.2.2.2.2 ?_
                  intro g' cap w8 hf8 hsz8
                  have c8 := hf8.cell4
                  have f8 := hf8.frozen4
                  refine hK.out _ _ ?_ (fun hHeld => ?_)
                  · (try dsimp only); first | exact HS.out _ hdd | exact HS.out _ hdd0 | exact HS.out _ hz40 | exact HS.out _ hz50 | exact HS.out _ hz60 | exact HS.out _ hz70 | exact HS.out _ hf8.bel | exact HS.out _ (hf8.set _).bel
                  clear hK K
                  try simp only [Act.put, List.setIfInBounds_toArray, List.set_cons_zero, List.set_cons_succ]
                  refine wpAnyH_take (i := 22) (oi := { dst := some 448, op := Op.nilCheck (Operand.tmp 426), type := 0, pos := "ast.go:196", after := #[{ on := 0, ground := Ground.data }, { on := 0, ground := Ground.phase }, { on := 1, ground := Ground.phase }, { on := 2, ground := Ground.phase }, { on := 3, ground := Ground.phase }, { on := 4, ground := Ground.phase }, { on := 5, ground := Ground.phase }, { on := 6, ground := Ground.phase }, { on := 7, ground := Ground.phase }, { on := 8, ground := Ground.phase }, { on := 9, ground := Ground.phase }, { on := 10, ground := Ground.phase }, { on := 11, ground := Ground.phase }, { on := 12, ground := Ground.phase }, { on := 13, ground := Ground.phase }, { on := 14, ground := Ground.phase }, { on := 15, ground := Ground.phase }, { on := 16, ground := Ground.phase }, { on := 17, ground := Ground.phase }, { on := 18, ground := Ground.phase }, { on := 19, ground := Ground.phase }, { on := 20, ground := Ground.phase }, { on := 21, ground := Ground.phase }], guard := none }) (v := ?_) rfl (by kernel_rfl) (by kernel_rfl) (by kernel_rfl) (fun _ _ _ h => h) (Or.inl ⟨by rfl, ?_⟩) (by assumption) ?_
                  rotate_left
                  · (intro w hSw; (try dsimp only at hSw); go_simp)
                    all_goals with_reducible rfl
                  try simp only [Act.put, List.setIfInBounds_toArray, List.set_cons_zero, List.set_cons_succ]
                  refine wpAnyH_take (i := 23) (oi := { dst := some 449, op := Op.fieldAddr 187 (Operand.tmp 448) 2, type := 0, pos := "ast.go:196", after := #[{ on := 22, ground := Ground.data }, { on := 0, ground := Ground.phase }, { on := 1, ground := Ground.phase }, { on := 2, ground := Ground.phase }, { on := 3, ground := Ground.phase }, { on := 4, ground := Ground.phase }, { on := 5, ground := Ground.phase }, { on := 6, ground := Ground.phase }, { on := 7, ground := Ground.phase }, { on := 8, ground := Ground.phase }, { on := 9, ground := Ground.phase }, { on := 10, ground := Ground.phase }, { on := 11, ground := Ground.phase }, { on := 12, ground := Ground.phase }, { on := 13, ground := Ground.phase }, { on := 14, ground := Ground.phase }, { on := 15, ground := Ground.phase }, { on := 16, ground := Ground.phase }, { on := 17, ground := Ground.phase }, { on := 18, ground := Ground.phase }, { on := 19, ground := Ground.phase }, { on := 20, ground := Ground.phase }, { on := 21, ground := Ground.phase }], guard := none }) (v := ?_) rfl (by kernel_rfl) (by kernel_rfl) (by kernel_rfl) (fun _ _ _ h => h) (Or.inl ⟨by rfl, ?_⟩) (by assumption) ?_
                  rotate_left
                  · (intro w hSw; (try dsimp only at hSw); go_simp)
                    all_goals with_reducible rfl
                  try simp only [Act.put, List.setIfInBounds_toArray, List.set_cons_zero, List.set_cons_succ]
                  refine wpAnyH_ready (rs := [24]) (by kernel_rfl) (by simp) ?_
                  refine AllReadyH.cons (o := { dst := none, op := Op.store 185 (Operand.tmp 449) (Operand.tmp 447), type := 0, pos := "ast.go:196", after := #[{ on := 23, ground := Ground.data }, { on := 21, ground := Ground.data }, { on := 21, ground := Ground.chain }, { on := 0, ground := Ground.phase }, { on := 1, ground := Ground.phase }, { on := 2, ground := Ground.phase }, { on := 3, ground := Ground.phase }, { on := 4, ground := Ground.phase }, { on := 5, ground := Ground.phase }, { on := 6, ground := Ground.phase }, { on := 7, ground := Ground.phase }, { on := 8, ground := Ground.phase }, { on := 9, ground := Ground.phase }, { on := 10, ground := Ground.phase }, { on := 11, ground := Ground.phase }, { on := 12, ground := Ground.phase }, { on := 13, ground := Ground.phase }, { on := 14, ground := Ground.phase }, { on := 15, ground := Ground.phase }, { on := 16, ground := Ground.phase }, { on := 17, ground := Ground.phase }, { on := 18, ground := Ground.phase }, { on := 19, ground := Ground.phase }, { on := 20, ground := Ground.phase }, { on := 21, ground := Ground.phase }], guard := none }) rfl (fun K hK => ?_) ?_
                  · go_simp
                    refine hK.out _ _ ?_ (fun hHeld => ?_)
                    · (try dsimp only); first | exact HS.out _ hdd | exact HS.out _ hdd0 | exact HS.out _ hz40 | exact HS.out _ hz50 | exact HS.out _ hz60 | exact HS.out _ hz70 | exact HS.out _ hf8.bel | exact HS.out _ (hf8.set _).bel
                    clear hK K
                    try simp only [Act.put, List.setIfInBounds_toArray, List.set_cons_zero, List.set_cons_succ]
                    refine wpAnyH_done (by kernel_rfl) ?_ _
                    have HD8 := Lib.hid (hf8.set (.slice (some ⟨g', 0, none⟩) (k + 1) cap))
                    clear hf8 hsz8 c8 f8 hHeld
                    go_wp2
                    go_roundw
                    case rel => exact ⟨k + 1, j + 2, by have := HJ.out; omega, by omega, by go_num, _, _, some ⟨g', 0, none⟩, cap, HD8⟩
                    case measure => simp [intOf]; omega
                  exact AllReadyH.nil
                exact AllReadyH.nil
              exact AllReadyH.nil
            exact AllReadyH.nil
          exact AllReadyH.nil
        exact AllReadyH.nil
      refine AllReadyH.cons (o := { dst := some 436, op := Op.call { callee := Callee.value (Operand.func 44), args := #[Operand.tmp 435], argTypes := #[25] }, type := 68, pos := "ast.go:196", after := #[{ on := 9, ground := Ground.data }], guard := none }) rfl (fun K hK => ?_) ?_
      · go_simp
        ((with_reducible refine HCA.out.mono ?_))
        rintro e w4 ⟨ra, he4, hra, hb4⟩
        have he5 : e = .returned (.iface (astP ta.kind) (.pointer (some ⟨ra, 0, none⟩))) := he4
        subst he5
        clear he4
        have hz4 : Below wr.heap.size wr w4 := HDR.out.trans (hb4.mono HDR.out.size)
        have p1 := HKC.out _ hz4
        have hz40 := hdd0.trans (hz4.mono hdd0.size)
        go_wp2_with fail
        refine hK.out _ _ ?_ (fun hHeld => ?_)
        · (try dsimp only); first | exact HS.out _ hdd | exact HS.out _ hdd0 | exact HS.out _ hz40 | exact HS.out _ hz50 | exact HS.out _ hz60 | exact HS.out _ hz70 | exact HS.out _ hf8.bel | exact HS.out _ (hf8.set _).bel
        clear hK K
        try simp only [Act.put, List.setIfInBounds_toArray, List.set_cons_zero, List.set_cons_succ]
        refine wpAnyH_ready (rs := [4, 17]) (by kernel_rfl) (by simp) ?_
        refine AllReadyH.cons (o := { dst := some 430, op := Op.load 185 (Operand.tmp 429), type := 185, pos := "ast.go:196", after := #[{ on := 3, ground := Ground.data }], guard := none }) rfl (fun K hK => ?_) ?_
        · go_simp
          refine hK.out _ _ ?_ (fun hHeld => ?_)
          · (try dsimp only); first | exact HS.out _ hdd | exact HS.out _ hdd0 | exact HS.out _ hz40 | exact HS.out _ hz50 | exact HS.out _ hz60 | exact HS.out _ hz70 | exact HS.out _ hf8.bel | exact HS.out _ (hf8.set _).bel
          clear hK K
          try simp only [Act.put, List.setIfInBounds_toArray, List.set_cons_zero, List.set_cons_succ]
          refine wpAnyH_ready (rs := [17]) (by kernel_rfl) (by simp) ?_
          refine AllReadyH.cons (o := { dst := some 443, op := Op.call { callee := Callee.value (Operand.func 44), args := #[Operand.tmp 442], argTypes := #[25] }, type := 68, pos := "ast.go:196", after := #[{ on := 16, ground := Ground.data }, { on := 10, ground := Ground.chain }], guard := none }) rfl (fun K hK => ?_) ?_
          · go_simp
            ((with_reducible refine (HCB.out _ hz4).mono ?_))
            rintro e w5 ⟨rb, he5, hrb, hb5⟩
            have he6 : e = .returned (.iface (astP tb.kind) (.pointer (some ⟨rb, 0, none⟩))) := he5
            subst he6
            clear he5
            have HE7 := Lib.hid (HEND5.out w4 w5 ra rb hz4 hb5 hra hrb _ _ rfl rfl)
            have r1 := HKC.out _ (hz4.trans (hb5.mono hz4.size))
            have s1 := HKC.out _ HE7.out.1
            have t1 := HKC.out _ HE7.out.2.1
            have hz50 := hdd0.trans ((hz4.trans (hb5.mono hz4.size)).mono hdd0.size)
            have hz60 := hdd0.trans (HE7.out.1.mono hdd0.size)
            have hz70 := hdd0.trans (HE7.out.2.1.mono hdd0.size)
            go_wp2_with fail
            refine hK.out _ _ ?_ (fun hHeld => ?_)
            · (try dsimp only); first | exact HS.out _ hdd | exact HS.out _ hdd0 | exact HS.out _ hz40 | exact HS.out _ hz50 | exact HS.out _ hz60 | exact HS.out _ hz70 | exact HS.out _ hf8.bel | exact HS.out _ (hf8.set _).bel
            clear hK K
            try simp only [Act.put, List.setIfInBounds_toArray, List.set_cons_zero, List.set_cons_succ]
            refine wpAnyH_take (i := 18) (oi := { dst := some 444, op := Op.build 190 #[(0, Operand.tmp 436), (1, Operand.tmp 443)], type := 190, pos := "ast.go:196", after := #[{ on := 10, ground := Ground.data }, { on := 17, ground := Ground.data }], guard := none }) (v := ?_) rfl (by kernel_rfl) (by kernel_rfl) (by kernel_rfl) (fun _ _ _ h => h) (Or.inl ⟨by rfl, ?_⟩) (by assumption) ?_
            rotate_left
            · (intro w hSw; (try dsimp only at hSw); go_simp)
              all_goals with_reducible rfl
            try simp only [Act.put, List.setIfInBounds_toArray, List.set_cons_zero, List.set_cons_succ]
            refine wpAnyH_ready (rs := [19]) (by kernel_rfl) (by simp) ?_
            refine AllReadyH.cons (o := { dst := some 445, op := Op.box 190 (Operand.tmp 444), type := 188, pos := "ast.go:196", after := #[{ on := 18, ground := Ground.data }], guard := none }) rfl (fun K hK => ?_) ?_
            · go_simp
              refine hK.out _ _ ?_ (fun hHeld => ?_)
              · (try dsimp only); first | exact HS.out _ hdd | exact HS.out _ hdd0 | exact HS.out _ hz40 | exact HS.out _ hz50 | exact HS.out _ hz60 | exact HS.out _ hz70 | exact HS.out _ hf8.bel | exact HS.out _ (hf8.set _).bel
              clear hK K
              try simp only [Act.put, List.setIfInBounds_toArray, List.set_cons_zero, List.set_cons_succ]
              refine wpAnyH_ready (rs := [20]) (by kernel_rfl) (by simp) ?_
              refine AllReadyH.cons (o := { dst := some 446, op := Op.buildSlice 185 1 #[(0, Operand.tmp 445)], type := 185, pos := "ast.go:196", after := #[{ on := 19, ground := Ground.data }], guard := none }) rfl (fun K hK => ?_) ?_
              · go_simp
                refine hK.out _ _ ?_ (fun hHeld => ?_)
                · (try dsimp only); first | exact HS.out _ hdd | exact HS.out _ hdd0 | exact HS.out _ hz40 | exact HS.out _ hz50 | exact HS.out _ hz60 | exact HS.out _ hz70 | exact HS.out _ hf8.bel | exact HS.out _ (hf8.set _).bel
                clear hK K
                try simp only [Act.put, List.setIfInBounds_toArray, List.set_cons_zero, List.set_cons_succ]
                refine wpAnyH_ready (rs := [21]) (by kernel_rfl) (by simp) ?_
                refine AllReadyH.cons (o := { dst := some 447, op := Op.call { callee := Callee.builtin Builtin.append, args := #[Operand.tmp 430, Operand.tmp 446], argTypes := #[185, 185] }, type := 185, pos := "ast.go:196", after := #[{ on := 4, ground := Ground.data }, { on := 20, ground := Ground.data }, { on := 17, ground := Ground.chain }], guard := none }) rfl (fun K hK => ?_) ?_
                · refine step_append_item (by rfl) _ _ (by rfl) HE7.out.2.2.1 (by rfl) hlen hk1 (HTA.out _) (HTB.out _) HE7.out.2.2.2.1 HE7.out.2.2.2.2.1 HE7.out.2.2.2.2.2.1 (by rfl) HE7.out.2.2.2.2.2.2 ?_
                  intro g' cap w8 hf8 hsz8
                  have c8 := hf8.cell4
                  have f8 := hf8.frozen4
                  refine hK.out _ _ ?_ (fun hHeld => ?_)
                  · (try dsimp only); first | exact HS.out _ hdd | exact HS.out _ hdd0 | exact HS.out _ hz40 | exact HS.out _ hz50 | exact HS.out _ hz60 | exact HS.out _ hz70 | exact HS.out _ hf8.bel | exact HS.out _ (hf8.set _).bel
                  clear hK K
                  try simp only [Act.put, List.setIfInBounds_toArray, List.set_cons_zero, List.set_cons_succ]
                  refine wpAnyH_take (i := 22) (oi := { dst := some 448, op := Op.nilCheck (Operand.tmp 426), type := 0, pos := "ast.go:196", after := #[{ on := 0, ground := Ground.data }, { on := 0, ground := Ground.phase }, { on := 1, ground := Ground.phase }, { on := 2, ground := Ground.phase }, { on := 3, ground := Ground.phase }, { on := 4, ground := Ground.phase }, { on := 5, ground := Ground.phase }, { on := 6, ground := Ground.phase }, { on := 7, ground := Ground.phase }, { on := 8, ground := Ground.phase }, { on := 9, ground := Ground.phase }, { on := 10, ground := Ground.phase }, { on := 11, ground := Ground.phase }, { on := 12, ground := Ground.phase }, { on := 13, ground := Ground.phase }, { on := 14, ground := Ground.phase }, { on := 15, ground := Ground.phase }, { on := 16, ground := Ground.phase }, { on := 17, ground := Ground.phase }, { on := 18, ground := Ground.phase }, { on := 19, ground := Ground.phase }, { on := 20, ground := Ground.phase }, { on := 21, ground := Ground.phase }], guard := none }) (v := ?_) rfl (by kernel_rfl) (by kernel_rfl) (by kernel_rfl) (fun _ _ _ h => h) (Or.inl ⟨by rfl, ?_⟩) (by assumption) ?_
                  rotate_left
                  · (intro w hSw; (try dsimp only at hSw); go_simp)
                    all_goals with_reducible rfl
                  try simp only [Act.put, List.setIfInBounds_toArray, List.set_cons_zero, List.set_cons_succ]
                  refine wpAnyH_take (i := 23) (oi := { dst := some 449, op := Op.fieldAddr 187 (Operand.tmp 448) 2, type := 0, pos := "ast.go:196", after := #[{ on := 22, ground := Ground.data }, { on := 0, ground := Ground.phase }, { on := 1, ground := Ground.phase }, { on := 2, ground := Ground.phase }, { on := 3, ground := Ground.phase }, { on := 4, ground := Ground.phase }, { on := 5, ground := Ground.phase }, { on := 6, ground := Ground.phase }, { on := 7, ground := Ground.phase }, { on := 8, ground := Ground.phase }, { on := 9, ground := Ground.phase }, { on := 10, ground := Ground.phase }, { on := 11, ground := Ground.phase }, { on := 12, ground := Ground.phase }, { on := 13, ground := Ground.phase }, { on := 14, ground := Ground.phase }, { on := 15, ground := Ground.phase }, { on := 16, ground := Ground.phase }, { on := 17, ground := Ground.phase }, { on := 18, ground := Ground.phase }, { on := 19, ground := Ground.phase }, { on := 20, ground := Ground.phase }, { on := 21, ground := Ground.phase }], guard := none }) (v := ?_) rfl (by kernel_rfl) (by kernel_rfl) (by kernel_rfl) (fun _ _ _ h => h) (Or.inl ⟨by rfl, ?_⟩) (by assumption) ?_
                  rotate_left
                  · (intro w hSw; (try dsimp only at hSw); go_simp)
                    all_goals with_reducible rfl
                  try simp only [Act.put, List.setIfInBounds_toArray, List.set_cons_zero, List.set_cons_succ]
                  refine wpAnyH_ready (rs := [24]) (by kernel_rfl) (by simp) ?_
                  refine AllReadyH.cons (o := { dst := none, op := Op.store 185 (Operand.tmp 449) (Operand.tmp 447), type := 0, pos := "ast.go:196", after := #[{ on := 23, ground := Ground.data }, { on := 21, ground := Ground.data }, { on := 21, ground := Ground.chain }, { on := 0, ground := Ground.phase }, { on := 1, ground := Ground.phase }, { on := 2, ground := Ground.phase }, { on := 3, ground := Ground.phase }, { on := 4, ground := Ground.phase }, { on := 5, ground := Ground.phase }, { on := 6, ground := Ground.phase }, { on := 7, ground := Ground.phase }, { on := 8, ground := Ground.phase }, { on := 9, ground := Ground.phase }, { on := 10, ground := Ground.phase }, { on := 11, ground := Ground.phase }, { on := 12, ground := Ground.phase }, { on := 13, ground := Ground.phase }, { on := 14, ground := Ground.phase }, { on := 15, ground := Ground.phase }, { on := 16, ground := Ground.phase }, { on := 17, ground := Ground.phase }, { on := 18, ground := Ground.phase }, { on := 19, ground := Ground.phase }, { on := 20, ground := Ground.phase }, { on := 21, ground := Ground.phase }], guard := none }) rfl (fun K hK => ?_) ?_
                  · go_simp
                    refine hK.out _ _ ?_ (fun hHeld => ?_)
                    · (try dsimp only); first | exact HS.out _ hdd | exact HS.out _ hdd0 | exact HS.out _ hz40 | exact HS.out _ hz50 | exact HS.out _ hz60 | exact HS.out _ hz70 | exact HS.out _ hf8.bel | exact HS.out _ (hf8.set _).bel
                    clear hK K
                    try simp only [Act.put, List.setIfInBounds_toArray, List.set_cons_zero, List.set_cons_succ]
                    refine wpAnyH_done (by kernel_rfl) ?_ _
                    have HD8 := Lib.hid (hf8.set (.slice (some ⟨g', 0, none⟩) (k + 1) cap))
                    clear hf8 hsz8 c8 f8 hHeld
                    go_wp2
                    go_roundw
                    case rel => exact ⟨k + 1, j + 2, by have := HJ.out; omega, by omega, by go_num, _, _, some ⟨g', 0, none⟩, cap, HD8⟩
                    case measure => simp [intOf]; omega
                  exact AllReadyH.nil
                exact AllReadyH.nil
              exact AllReadyH.nil
            exact AllReadyH.nil
          exact AllReadyH.nil
        refine AllReadyH.cons (o := { dst := some 443, op := Op.call { callee := Callee.value (Operand.func 44), args := #[Operand.tmp 442], argTypes := #[25] }, type := 68, pos := "ast.go:196", after := #[{ on := 16, ground := Ground.data }, { on := 10, ground := Ground.chain }], guard := none }) rfl (fun K hK => ?_) ?_
        · go_simp
          ((with_reducible refine (HCB.out _ hz4).mono ?_))
          rintro e w5 ⟨rb, he5, hrb, hb5⟩
          have he6 : e = .returned (.iface (astP tb.kind) (.pointer (some ⟨rb, 0, none⟩))) := he5
          subst he6
          clear he5
          have HE7 := Lib.hid (HEND5.out w4 w5 ra rb hz4 hb5 hra hrb _ _ rfl rfl)
          have r1 := HKC.out _ (hz4.trans (hb5.mono hz4.size))
          have s1 := HKC.out _ HE7.out.1
          have t1 := HKC.out _ HE7.out.2.1
          have hz50 := hdd0.trans ((hz4.trans (hb5.mono hz4.size)).mono hdd0.size)
          have hz60 := hdd0.trans (HE7.out.1.mono hdd0.size)
          have hz70 := hdd0.trans (HE7.out.2.1.mono hdd0.size)
          go_wp2_with fail
          refine hK.out _ _ ?_ (fun hHeld => ?_)
          · (try dsimp only); first | exact HS.out _ hdd | exact HS.out _ hdd0 | exact HS.out _ hz40 | exact HS.out _ hz50 | exact HS.out _ hz60 | exact HS.out _ hz70 | exact HS.out _ hf8.bel | exact HS.out _ (hf8.set _).bel
          clear hK K
          try simp only [Act.put, List.setIfInBounds_toArray, List.set_cons_zero, List.set_cons_succ]
          refine wpAnyH_take (i := 18) (oi := { dst := some 444, op := Op.build 190 #[(0, Operand.tmp 436), (1, Operand.tmp 443)], type := 190, pos := "ast.go:196", after := #[{ on := 10, ground := Ground.data }, { on := 17, ground := Ground.data }], guard := none }) (v := ?_) rfl (by kernel_rfl) (by kernel_rfl) (by kernel_rfl) (fun _ _ _ h => h) (Or.inl ⟨by rfl, ?_⟩) (by assumption) ?_
          rotate_left
          · (intro w hSw; (try dsimp only at hSw); go_simp)
            all_goals with_reducible rfl
          try simp only [Act.put, List.setIfInBounds_toArray, List.set_cons_zero, List.set_cons_succ]
          refine wpAnyH_ready (rs := [4, 19]) (by kernel_rfl) (by simp) ?_
          refine AllReadyH.cons (o := { dst := some 430, op := Op.load 185 (Operand.tmp 429), type := 185, pos := "ast.go:196", after := #[{ on := 3, ground := Ground.data }], guard := none }) rfl (fun K hK => ?_) ?_
          · go_simp
            refine hK.out _ _ ?_ (fun hHeld => ?_)
            · (try dsimp only); first | exact HS.out _ hdd | exact HS.out _ hdd0 | exact HS.out _ hz40 | exact HS.out _ hz50 | exact HS.out _ hz60 | exact HS.out _ hz70 | exact HS.out _ hf8.bel | exact HS.out _ (hf8.set _).bel
            clear hK K
            try simp only [Act.put, List.setIfInBounds_toArray, List.set_cons_zero, List.set_cons_succ]
            refine wpAnyH_ready (rs := [19]) (by kernel_rfl) (by simp) ?_
            refine AllReadyH.cons (o := { dst := some 445, op := Op.box 190 (Operand.tmp 444), type := 188, pos := "ast.go:196", after := #[{ on := 18, ground := Ground.data }], guard := none }) rfl (fun K hK => ?_) ?_
            · go_simp
              refine hK.out _ _ ?_ (fun hHeld => ?_)
              · (try dsimp only); first | exact HS.out _ hdd | exact HS.out _ hdd0 | exact HS.out _ hz40 | exact HS.out _ hz50 | exact HS.out _ hz60 | exact HS.out _ hz70 | exact HS.out _ hf8.bel | exact HS.out _ (hf8.set _).bel
              clear hK K
              try simp only [Act.put, List.setIfInBounds_toArray, List.set_cons_zero, List.set_cons_succ]
              refine wpAnyH_ready (rs := [20]) (by kernel_rfl) (by simp) ?_
              refine AllReadyH.cons (o := { dst := some 446, op := Op.buildSlice 185 1 #[(0, Operand.tmp 445)], type := 185, pos := "ast.go:196", after := #[{ on := 19, ground := Ground.data }], guard := none }) rfl (fun K hK => ?_) ?_
              · go_simp
                refine hK.out _ _ ?_ (fun hHeld => ?_)
                · (try dsimp only); first | exact HS.out _ hdd | exact HS.out _ hdd0 | exact HS.out _ hz40 | exact HS.out _ hz50 | exact HS.out _ hz60 | exact HS.out _ hz70 | exact HS.out _ hf8.bel | exact HS.out _ (hf8.set _).bel
                clear hK K
                try simp only [Act.put, List.setIfInBounds_toArray, List.set_cons_zero, List.set_cons_succ]
                refine wpAnyH_ready (rs := [21]) (by kernel_rfl) (by simp) ?_
                refine AllReadyH.cons (o := { dst := some 447, op := Op.call { callee := Callee.builtin Builtin.append, args := #[Operand.tmp 430, Operand.tmp 446], argTypes := #[185, 185] }, type := 185, pos := "ast.go:196", after := #[{ on := 4, ground := Ground.data }, { on := 20, ground := Ground.data }, { on := 17, ground := Ground.chain }], guard := none }) rfl (fun K hK => ?_) ?_
                · refine step_append_item (by rfl) _ _ (by rfl) HE7.out.2.2.1 (by rfl) hlen hk1 (HTA.out _) (HTB.out _) HE7.out.2.2.2.1 HE7.out.2.2.2.2.1 HE7.out.2.2.2.2.2.1 (by rfl) HE7.out.2.2.2.2.2.2 ?_
                  intro g' cap w8 hf8 hsz8
                  have c8 := hf8.cell4
                  have f8 := hf8.frozen4
                  refine hK.out _ _ ?_ (fun hHeld => ?_)
                  · (try dsimp only); first | exact HS.out _ hdd | exact HS.out _ hdd0 | exact HS.out _ hz40 | exact HS.out _ hz50 | exact HS.out _ hz60 | exact HS.out _ hz70 | exact HS.out _ hf8.bel | exact HS.out _ (hf8.set _).bel
                  clear hK K
                  try simp only [Act.put, List.setIfInBounds_toArray, List.set_cons_zero, List.set_cons_succ]
                  refine wpAnyH_take (i := 22) (oi := { dst := some 448, op := Op.nilCheck (Operand.tmp 426), type := 0, pos := "ast.go:196", after := #[{ on := 0, ground := Ground.data }, { on := 0, ground := Ground.phase }, { on := 1, ground := Ground.phase }, { on := 2, ground := Ground.phase }, { on := 3, ground := Ground.phase }, { on := 4, ground := Ground.phase }, { on := 5, ground := Ground.phase }, { on := 6, ground := Ground.phase }, { on := 7, ground := Ground.phase }, { on := 8, ground := Ground.phase }, { on := 9, ground := Ground.phase }, { on := 10, ground := Ground.phase }, { on := 11, ground := Ground.phase }, { on := 12, ground := Ground.phase }, { on := 13, ground := Ground.phase }, { on := 14, ground := Ground.phase }, { on := 15, ground := Ground.phase }, { on := 16, ground := Ground.phase }, { on := 17, ground := Ground.phase }, { on := 18, ground := Ground.phase }, { on := 19, ground := Ground.phase }, { on := 20, ground := Ground.phase }, { on := 21, ground := Ground.phase }], guard := none }) (v := ?_) rfl (by kernel_rfl) (by kernel_rfl) (by kernel_rfl) (fun _ _ _ h => h) (Or.inl ⟨by rfl, ?_⟩) (by assumption) ?_
                  rotate_left
                  · (intro w hSw; (try dsimp only at hSw); go_simp)
                    all_goals with_reducible rfl
                  try simp only [Act.put, List.setIfInBounds_toArray, List.set_cons_zero, List.set_cons_succ]
                  refine wpAnyH_take (i := 23) (oi := { dst := some 449, op := Op.fieldAddr 187 (Operand.tmp 448) 2, type := 0, pos := "ast.go:196", after := #[{ on := 22, ground := Ground.data }, { on := 0, ground := Ground.phase }, { on := 1, ground := Ground.phase }, { on := 2, ground := Ground.phase }, { on := 3, ground := Ground.phase }, { on := 4, ground := Ground.phase }, { on := 5, ground := Ground.phase }, { on := 6, ground := Ground.phase }, { on := 7, ground := Ground.phase }, { on := 8, ground := Ground.phase }, { on := 9, ground := Ground.phase }, { on := 10, ground := Ground.phase }, { on := 11, ground := Ground.phase }, { on := 12, ground := Ground.phase }, { on := 13, ground := Ground.phase }, { on := 14, ground := Ground.phase }, { on := 15, ground := Ground.phase }, { on := 16, ground := Ground.phase }, { on := 17, ground := Ground.phase }, { on := 18, ground := Ground.phase }, { on := 19, ground := Ground.phase }, { on := 20, ground := Ground.phase }, { on := 21, ground := Ground.phase }], guard := none }) (v := ?_) rfl (by kernel_rfl) (by kernel_rfl) (by kernel_rfl) (fun _ _ _ h => h) (Or.inl ⟨by rfl, ?_⟩) (by assumption) ?_
                  rotate_left
                  · (intro w hSw; (try dsimp only at hSw); go_simp)
                    all_goals with_reducible rfl
                  try simp only [Act.put, List.setIfInBounds_toArray, List.set_cons_zero, List.set_cons_succ]
                  refine wpAnyH_ready (rs := [24]) (by kernel_rfl) (by simp) ?_
                  refine AllReadyH.cons (o := { dst := none, op := Op.store 185 (Operand.tmp 449) (Operand.tmp 447), type := 0, pos := "ast.go:196", after := #[{ on := 23, ground := Ground.data }, { on := 21, ground := Ground.data }, { on := 21, ground := Ground.chain }, { on := 0, ground := Ground.phase }, { on := 1, ground := Ground.phase }, { on := 2, ground := Ground.phase }, { on := 3, ground := Ground.phase }, { on := 4, ground := Ground.phase }, { on := 5, ground := Ground.phase }, { on := 6, ground := Ground.phase }, { on := 7, ground := Ground.phase }, { on := 8, ground := Ground.phase }, { on := 9, ground := Ground.phase }, { on := 10, ground := Ground.phase }, { on := 11, ground := Ground.phase }, { on := 12, ground := Ground.phase }, { on := 13, ground := Ground.phase }, { on := 14, ground := Ground.phase }, { on := 15, ground := Ground.phase }, { on := 16, ground := Ground.phase }, { on := 17, ground := Ground.phase }, { on := 18, ground := Ground.phase }, { on := 19, ground := Ground.phase }, { on := 20, ground := Ground.phase }, { on := 21, ground := Ground.phase }], guard := none }) rfl (fun K hK => ?_) ?_
                  · go_simp
                    refine hK.out _ _ ?_ (fun hHeld => ?_)
                    · (try dsimp only); first | exact HS.out _ hdd | exact HS.out _ hdd0 | exact HS.out _ hz40 | exact HS.out _ hz50 | exact HS.out _ hz60 | exact HS.out _ hz70 | exact HS.out _ hf8.bel | exact HS.out _ (hf8.set _).bel
                    clear hK K
                    try simp only [Act.put, List.setIfInBounds_toArray, List.set_cons_zero, List.set_cons_succ]
                    refine wpAnyH_done (by kernel_rfl) ?_ _
                    have HD8 := Lib.hid (hf8.set (.slice (some ⟨g', 0, none⟩) (k + 1) cap))
                    clear hf8 hsz8 c8 f8 hHeld
                    go_wp2
                    go_roundw
                    case rel => exact ⟨k + 1, j + 2, by have := HJ.out; omega, by omega, by go_num, _, _, some ⟨g', 0, none⟩, cap, HD8⟩
                    case measure => simp [intOf]; omega
                  exact AllReadyH.nil
                exact AllReadyH.nil
              exact AllReadyH.nil
            exact AllReadyH.nil
          refine AllReadyH.cons (o := { dst := some 445, op := Op.box 190 (Operand.tmp 444), type := 188, pos := "ast.go:196", after := #[{ on := 18, ground := Ground.data }], guard := none }) rfl (fun K hK => ?_) ?_
          · go_simp
            refine hK.out _ _ ?_ (fun hHeld => ?_)
            · (try dsimp only); first | exact HS.out _ hdd | exact HS.out _ hdd0 | exact HS.out _ hz40 | exact HS.out _ hz50 | exact HS.out _ hz60 | exact HS.out _ hz70 | exact HS.out _ hf8.bel | exact HS.out _ (hf8.set _).bel
            clear hK K
            try simp only [Act.put, List.setIfInBounds_toArray, List.set_cons_zero, List.set_cons_succ]
            refine wpAnyH_ready (rs := [4, 20]) (by kernel_rfl) (by simp) ?_
            refine AllReadyH.cons (o := { dst := some 430, op := Op.load 185 (Operand.tmp 429), type := 185, pos := "ast.go:196", after := #[{ on := 3, ground := Ground.data }], guard := none }) rfl (fun K hK => ?_) ?_
            · go_simp
              refine hK.out _ _ ?_ (fun hHeld => ?_)
              · (try dsimp only); first | exact HS.out _ hdd | exact HS.out _ hdd0 | exact HS.out _ hz40 | exact HS.out _ hz50 | exact HS.out _ hz60 | exact HS.out _ hz70 | exact HS.out _ hf8.bel | exact HS.out _ (hf8.set _).bel
              clear hK K
              try simp only [Act.put, List.setIfInBounds_toArray, List.set_cons_zero, List.set_cons_succ]
              refine wpAnyH_ready (rs := [20]) (by kernel_rfl) (by simp) ?_
              refine AllReadyH.cons (o := { dst := some 446, op := Op.buildSlice 185 1 #[(0, Operand.tmp 445)], type := 185, pos := "ast.go:196", after := #[{ on := 19, ground := Ground.data }], guard := none }) rfl (fun K hK => ?_) ?_
              · go_simp
                refine hK.out _ _ ?_ (fun hHeld => ?_)
                · (try dsimp only); first | exact HS.out _ hdd | exact HS.out _ hdd0 | exact HS.out _ hz40 | exact HS.out _ hz50 | exact HS.out _ hz60 | exact HS.out _ hz70 | exact HS.out _ hf8.bel | exact HS.out _ (hf8.set _).bel
                clear hK K
                try simp only [Act.put, List.setIfInBounds_toArray, List.set_cons_zero, List.set_cons_succ]
                refine wpAnyH_ready (rs := [21]) (by kernel_rfl) (by simp) ?_
                refine AllReadyH.cons (o := { dst := some 447, op := Op.call { callee := Callee.builtin Builtin.append, args := #[Operand.tmp 430, Operand.tmp 446], argTypes := #[185, 185] }, type := 185, pos := "ast.go:196", after := #[{ on := 4, ground := Ground.data }, { on := 20, ground := Ground.data }, { on := 17, ground := Ground.chain }], guard := none }) rfl (fun K hK => ?_) ?_
                · refine step_append_item (by rfl) _ _ (by rfl) HE7.out.2.2.1 (by rfl) hlen hk1 (HTA.out _) (HTB.out _) HE7.out.2.2.2.1 HE7.out.2.2.2.2.1 HE7.out.2.2.2.2.2.1 (by rfl) HE7.out.2.2.2.2.2.2 ?_
                  intro g' cap w8 hf8 hsz8
                  have c8 := hf8.cell4
                  have f8 := hf8.frozen4
                  refine hK.out _ _ ?_ (fun hHeld => ?_)
                  · (try dsimp only); first | exact HS.out _ hdd | exact HS.out _ hdd0 | exact HS.out _ hz40 | exact HS.out _ hz50 | exact HS.out _ hz60 | exact HS.out _ hz70 | exact HS.out _ hf8.bel | exact HS.out _ (hf8.set _).bel
                  clear hK K
                  try simp only [Act.put, List.setIfInBounds_toArray, List.set_cons_zero, List.set_cons_succ]
                  refine wpAnyH_take (i := 22) (oi := { dst := some 448, op := Op.nilCheck (Operand.tmp 426), type := 0, pos := "ast.go:196", after := #[{ on := 0, ground := Ground.data }, { on := 0, ground := Ground.phase }, { on := 1, ground := Ground.phase }, { on := 2, ground := Ground.phase }, { on := 3, ground := Ground.phase }, { on := 4, ground := Ground.phase }, { on := 5, ground := Ground.phase }, { on := 6, ground := Ground.phase }, { on := 7, ground := Ground.phase }, { on := 8, ground := Ground.phase }, { on := 9, ground := Ground.phase }, { on := 10, ground := Ground.phase }, { on := 11, ground := Ground.phase }, { on := 12, ground := Ground.phase }, { on := 13, ground := Ground.phase }, { on := 14, ground := Ground.phase }, { on := 15, ground := Ground.phase }, { on := 16, ground := Ground.phase }, { on := 17, ground := Ground.phase }, { on := 18, ground := Ground.phase }, { on := 19, ground := Ground.phase }, { on := 20, ground := Ground.phase }, { on := 21, ground := Ground.phase }], guard := none }) (v := ?_) rfl (by kernel_rfl) (by kernel_rfl) (by kernel_rfl) (fun _ _ _ h => h) (Or.inl ⟨by rfl, ?_⟩) (by assumption) ?_
                  rotate_left
                  · (intro w hSw; (try dsimp only at hSw); go_simp)
                    all_goals with_reducible rfl
                  try simp only [Act.put, List.setIfInBounds_toArray, List.set_cons_zero, List.set_cons_succ]
                  refine wpAnyH_take (i := 23) (oi := { dst := some 449, op := Op.fieldAddr 187 (Operand.tmp 448) 2, type := 0, pos := "ast.go:196", after := #[{ on := 22, ground := Ground.data }, { on := 0, ground := Ground.phase }, { on := 1, ground := Ground.phase }, { on := 2, ground := Ground.phase }, { on := 3, ground := Ground.phase }, { on := 4, ground := Ground.phase }, { on := 5, ground := Ground.phase }, { on := 6, ground := Ground.phase }, { on := 7, ground := Ground.phase }, { on := 8, ground := Ground.phase }, { on := 9, ground := Ground.phase }, { on := 10, ground := Ground.phase }, { on := 11, ground := Ground.phase }, { on := 12, ground := Ground.phase }, { on := 13, ground := Ground.phase }, { on := 14, ground := Ground.phase }, { on := 15, ground := Ground.phase }, { on := 16, ground := Ground.phase }, { on := 17, ground := Ground.phase }, { on := 18, ground := Ground.phase }, { on := 19, ground := Ground.phase }, { on := 20, ground := Ground.phase }, { on := 21, ground := Ground.phase }], guard := none }) (v := ?_) rfl (by kernel_rfl) (by kernel_rfl) (by kernel_rfl) (fun _ _ _ h => h) (Or.inl ⟨by rfl, ?_⟩) (by assumption) ?_
                  rotate_left
                  · (intro w hSw; (try dsimp only at hSw); go_simp)
                    all_goals with_reducible rfl
                  try simp only [Act.put, List.setIfInBounds_toArray, List.set_cons_zero, List.set_cons_succ]
                  refine wpAnyH_ready (rs := [24]) (by kernel_rfl) (by simp) ?_
                  refine AllReadyH.cons (o := { dst := none, op := Op.store 185 (Operand.tmp 449) (Operand.tmp 447), type := 0, pos := "ast.go:196", after := #[{ on := 23, ground := Ground.data }, { on := 21, ground := Ground.data }, { on := 21, ground := Ground.chain }, { on := 0, ground := Ground.phase }, { on := 1, ground := Ground.phase }, { on := 2, ground := Ground.phase }, { on := 3, ground := Ground.phase }, { on := 4, ground := Ground.phase }, { on := 5, ground := Ground.phase }, { on := 6, ground := Ground.phase }, { on := 7, ground := Ground.phase }, { on := 8, ground := Ground.phase }, { on := 9, ground := Ground.phase }, { on := 10, ground := Ground.phase }, { on := 11, ground := Ground.phase }, { on := 12, ground := Ground.phase }, { on := 13, ground := Ground.phase }, { on := 14, ground := Ground.phase }, { on := 15, ground := Ground.phase }, { on := 16, ground := Ground.phase }, { on := 17, ground := Ground.phase }, { on := 18, ground := Ground.phase }, { on := 19, ground := Ground.phase }, { on := 20, ground := Ground.phase }, { on := 21, ground := Ground.phase }], guard := none }) rfl (fun K hK => ?_) ?_
                  · go_simp
                    refine hK.out _ _ ?_ (fun hHeld => ?_)
                    · (try dsimp only); first | exact HS.out _ hdd | exact HS.out _ hdd0 | exact HS.out _ hz40 | exact HS.out _ hz50 | exact HS.out _ hz60 | exact HS.out _ hz70 | exact HS.out _ hf8.bel | exact HS.out _ (hf8.set _).bel
                    clear hK K
                    try simp only [Act.put, List.setIfInBounds_toArray, List.set_cons_zero, List.set_cons_succ]
                    refine wpAnyH_done (by kernel_rfl) ?_ _
                    have HD8 := Lib.hid (hf8.set (.slice (some ⟨g', 0, none⟩) (k + 1) cap))
                    clear hf8 hsz8 c8 f8 hHeld
                    go_wp2
                    go_roundw
                    case rel => exact ⟨k + 1, j + 2, by have := HJ.out; omega, by omega, by go_num, _, _, some ⟨g', 0, none⟩, cap, HD8⟩
                    case measure => simp [intOf]; omega
                  exact AllReadyH.nil
                exact AllReadyH.nil
              exact AllReadyH.nil
            refine AllReadyH.cons (o := { dst := some 446, op := Op.buildSlice 185 1 #[(0, Operand.tmp 445)], type := 185, pos := "ast.go:196", after := #[{ on := 19, ground := Ground.data }], guard := none }) rfl (fun K hK => ?_) ?_
            · go_simp
              refine hK.out _ _ ?_ (fun hHeld => ?_)
              · (try dsimp only); first | exact HS.out _ hdd | exact HS.out _ hdd0 | exact HS.out _ hz40 | exact HS.out _ hz50 | exact HS.out _ hz60 | exact HS.out _ hz70 | exact HS.out _ hf8.bel | exact HS.out _ (hf8.set _).bel
              clear hK K
              try simp only [Act.put, List.setIfInBounds_toArray, List.set_cons_zero, List.set_cons_succ]
              refine wpAnyH_ready (rs := [4]) (by kernel_rfl) (by simp) ?_
              refine AllReadyH.cons (o := { dst := some 430, op := Op.load 185 (Operand.tmp 429), type := 185, pos := "ast.go:196", after := #[{ on := 3, ground := Ground.data }], guard := none }) rfl (fun K hK => ?_) ?_
              · go_simp
                refine hK.out _ _ ?_ (fun hHeld => ?_)
                · (try dsimp only); first | exact HS.out _ hdd | exact HS.out _ hdd0 | exact HS.out _ hz40 | exact HS.out _ hz50 | exact HS.out _ hz60 | exact HS.out _ hz70 | exact HS.out _ hf8.bel | exact HS.out _ (hf8.set _).bel
                clear hK K
                try simp only [Act.put, List.setIfInBounds_toArray, List.set_cons_zero, List.set_cons_succ]
                refine wpAnyH_ready (rs := [21]) (by kernel_rfl) (by simp) ?_
                refine AllReadyH.cons (o := { dst := some 447, op := Op.call { callee := Callee.builtin Builtin.append, args := #[Operand.tmp 430, Operand.tmp 446], argTypes := #[185, 185] }, type := 185, pos := "ast.go:196", after := #[{ on := 4, ground := Ground.data }, { on := 20, ground := Ground.data }, { on := 17, ground := Ground.chain }], guard := none }) rfl (fun K hK => ?_) ?_
                · refine step_append_item (by rfl) _ _ (by rfl) HE7.out.2.2.1 (by rfl) hlen hk1 (HTA.out _) (HTB.out _) HE7.out.2.2.2.1 HE7.out.2.2.2.2.1 HE7.out.2.2.2.2.2.1 (by rfl) HE7.out.2.2.2.2.2.2 ?_
                  intro g' cap w8 hf8 hsz8
                  have c8 := hf8.cell4
                  have f8 := hf8.frozen4
                  refine hK.out _ _ ?_ (fun hHeld => ?_)
                  · (try dsimp only); first | exact HS.out _ hdd | exact HS.out _ hdd0 | exact HS.out _ hz40 | exact HS.out _ hz50 | exact HS.out _ hz60 | exact HS.out _ hz70 | exact HS.out _ hf8.bel | exact HS.out _ (hf8.set _).bel
                  clear hK K
                  try simp only [Act.put, List.setIfInBounds_toArray, List.set_cons_zero, List.set_cons_succ]
                  refine wpAnyH_take (i := 22) (oi := { dst := some 448, op := Op.nilCheck (Operand.tmp 426), type := 0, pos := "ast.go:196", after := #[{ on := 0, ground := Ground.data }, { on := 0, ground := Ground.phase }, { on := 1, ground := Ground.phase }, { on := 2, ground := Ground.phase }, { on := 3, ground := Ground.phase }, { on := 4, ground := Ground.phase }, { on := 5, ground := Ground.phase }, { on := 6, ground := Ground.phase }, { on := 7, ground := Ground.phase }, { on := 8, ground := Ground.phase }, { on := 9, ground := Ground.phase }, { on := 10, ground := Ground.phase }, { on := 11, ground := Ground.phase }, { on := 12, ground := Ground.phase }, { on := 13, ground := Ground.phase }, { on := 14, ground := Ground.phase }, { on := 15, ground := Ground.phase }, { on := 16, ground := Ground.phase }, { on := 17, ground := Ground.phase }, { on := 18, ground := Ground.phase }, { on := 19, ground := Ground.phase }, { on := 20, ground := Ground.phase }, { on := 21, ground := Ground.phase }], guard := none }) (v := ?_) rfl (by kernel_rfl) (by kernel_rfl) (by kernel_rfl) (fun _ _ _ h => h) (Or.inl ⟨by rfl, ?_⟩) (by assumption) ?_
                  rotate_left
                  · (intro w hSw; (try dsimp only at hSw); go_simp)
                    all_goals with_reducible rfl
                  try simp only [Act.put, List.setIfInBounds_toArray, List.set_cons_zero, List.set_cons_succ]
                  refine wpAnyH_take (i := 23) (oi := { dst := some 449, op := Op.fieldAddr 187 (Operand.tmp 448) 2, type := 0, pos := "ast.go:196", after := #[{ on := 22, ground := Ground.data }, { on := 0, ground := Ground.phase }, { on := 1, ground := Ground.phase }, { on := 2, ground := Ground.phase }, { on := 3, ground := Ground.phase }, { on := 4, ground := Ground.phase }, { on := 5, ground := Ground.phase }, { on := 6, ground := Ground.phase }, { on := 7, ground := Ground.phase }, { on := 8, ground := Ground.phase }, { on := 9, ground := Ground.phase }, { on := 10, ground := Ground.phase }, { on := 11, ground := Ground.phase }, { on := 12, ground := Ground.phase }, { on := 13, ground := Ground.phase }, { on := 14, ground := Ground.phase }, { on := 15, ground := Ground.phase }, { on := 16, ground := Ground.phase }, { on := 17, ground := Ground.phase }, { on := 18, ground := Ground.phase }, { on := 19, ground := Ground.phase }, { on := 20, ground := Ground.phase }, { on := 21, ground := Ground.phase }], guard := none }) (v := ?_) rfl (by kernel_rfl) (by kernel_rfl) (by kernel_rfl) (fun _ _ _ h => h) (Or.inl ⟨by rfl, ?_⟩) (by assumption) ?_
                  rotate_left
                  · (intro w hSw; (try dsimp only at hSw); go_simp)
                    all_goals with_reducible rfl
                  try simp only [Act.put, List.setIfInBounds_toArray, List.set_cons_zero, List.set_cons_succ]
                  refine wpAnyH_ready (rs := [24]) (by kernel_rfl) (by simp) ?_
                  refine AllReadyH.cons (o := { dst := none, op := Op.store 185 (Operand.tmp 449) (Operand.tmp 447), type := 0, pos := "ast.go:196", after := #[{ on := 23, ground := Ground.data }, { on := 21, ground := Ground.data }, { on := 21, ground := Ground.chain }, { on := 0, ground := Ground.phase }, { on := 1, ground := Ground.phase }, { on := 2, ground := Ground.phase }, { on := 3, ground := Ground.phase }, { on := 4, ground := Ground.phase }, { on := 5, ground := Ground.phase }, { on := 6, ground := Ground.phase }, { on := 7, ground := Ground.phase }, { on := 8, ground := Ground.phase }, { on := 9, ground := Ground.phase }, { on := 10, ground := Ground.phase }, { on := 11, ground := Ground.phase }, { on := 12, ground := Ground.phase }, { on := 13, ground := Ground.phase }, { on := 14, ground := Ground.phase }, { on := 15, ground := Ground.phase }, { on := 16, ground := Ground.phase }, { on := 17, ground := Ground.phase }, { on := 18, ground := Ground.phase }, { on := 19, ground := Ground.phase }, { on := 20, ground := Ground.phase }, { on := 21, ground := Ground.phase }], guard := none }) rfl (fun K hK => ?_) ?_
                  · go_simp
                    refine hK.out _ _ ?_ (fun hHeld => ?_)
                    · (try dsimp only); first | exact HS.out _ hdd | exact HS.out _ hdd0 | exact HS.out _ hz40 | exact HS.out _ hz50 | exact HS.out _ hz60 | exact HS.out _ hz70 | exact HS.out _ hf8.bel | exact HS.out _ (hf8.set _).bel
                    clear hK K
                    try simp only [Act.put, List.setIfInBounds_toArray, List.set_cons_zero, List.set_cons_succ]
                    refine wpAnyH_done (by kernel_rfl) ?_ _
                    have HD8 := Lib.hid (hf8.set (.slice (some ⟨g', 0, none⟩) (k + 1) cap))
                    clear hf8 hsz8 c8 f8 hHeld
                    go_wp2
                    go_roundw
                    case rel => exact ⟨k + 1, j + 2, by have := HJ.out; omega, by omega, by go_num, _, _, some ⟨g', 0, none⟩, cap, HD8⟩
                    case measure => simp [intOf]; omega
                  exact AllReadyH.nil
                exact AllReadyH.nil
              exact AllReadyH.nil
            exact AllReadyH.nil
          exact AllReadyH.nil
        exact AllReadyH.nil
      exact AllReadyH.nil
    · have he : 2 * k = l.length := by omega
      have HE := Lib.hid (HEND.out wr k s q al cc he HD.out)
      go_wp2
      go_ret
      exact HE.out

end Go.Proofs.YtkohgndmhgcgeaaGreatDoor
