/- What is so while a type is read: the reader, the box that is filled, the list that grows. -/
import Derived.Test.YtgceklahjdbipaaGreatDoorTyRead
import Derived.Deep.AppendLies
import Derived.Deep.RegionLaw
namespace Go.Proofs.YtgceklahjdbipaaGreatDoor
open Go Go.RowKit
set_option linter.unusedVariables false
set_option linter.unusedSimpArgs false

/-- A type's node while it is read. -/
structure FromIn (w : World) (b g L c p : Nat) (bs : List UInt8) (row : Array Value) (T : TypeId) (W : World) : Prop where
  tab : TabAt b g L c p bs W
  row : W.heap[w.heap.size]? = some (.cells row T (0, 0))
  bel : Below w.heap.size w W
  nb : b < w.heap.size
  ng : g < w.heap.size

section
variable {w : World} {b g L c p : Nat} {bs : List UInt8} {row : Array Value} {T : TypeId} {W W' : World}

theorem FromIn.below (h : FromIn w b g L c p bs row T W) (hb : Below W.heap.size W W') : FromIn w b g L c p bs row T W' :=
  ⟨h.tab.below hb, (hb.block _ (Array.getElem?_eq_some_iff.1 h.row).1).trans h.row, h.bel.trans (hb.mono h.bel.size), h.nb, h.ng⟩

theorem FromIn.lt (h : FromIn w b g L c p bs row T W) : w.heap.size < W.heap.size := (Array.getElem?_eq_some_iff.1 h.row).1

theorem FromIn.drew (h : FromIn w b g L c p bs row T W) : FromIn w b g L c p bs row T W.drew := h.below (Below.refl _ W).drew

theorem FromIn.set (h : FromIn w b g L c p bs row T W) (i : Nat) (v : Value) : FromIn w b g L c p bs (row.setIfInBounds i v) T (W.setCell ⟨w.heap.size, i, none⟩ v) :=
  ⟨h.tab.set w.heap.size i v (by have := h.nb; omega) (by have := h.ng; omega), row_setG h.row i v, h.bel.setCell (p := ⟨w.heap.size, i, none⟩) (Nat.le_refl _) v, h.nb, h.ng⟩

theorem FromIn.cell (h : FromIn w b g L c p bs row T W) (i : Nat) : W.cell? ⟨w.heap.size, i, none⟩ = row[i]? := by rw [Lib.cell_of_heap h.row]
theorem FromIn.frozen (h : FromIn w b g L c p bs row T W) (i : Nat) : W.frozen? ⟨w.heap.size, i, none⟩ = false := Lib.frozen_of_heap h.row i

/-- All blocks below a bound stand, but the box. -/
def Stood (n B : Nat) (S W : World) : Prop := S.heap.size ≤ W.heap.size ∧ ∀ r, r < n → r ≠ B → W.heap[r]? = S.heap[r]?

theorem Stood.refl (n B : Nat) (S : World) : Stood n B S S := ⟨Nat.le_refl _, fun _ _ _ => rfl⟩
theorem Stood.below {n B : Nat} {S : World} (h : Stood n B S W) (hn : n ≤ W.heap.size) (hb : Below W.heap.size W W') : Stood n B S W' := ⟨Nat.le_trans h.1 hb.size, fun r h1 h2 => (hb.block r (by omega)).trans (h.2 r h1 h2)⟩
theorem Stood.set {n B : Nat} {S : World} (h : Stood n B S W) (i : Nat) (v : Value) : Stood n B S (W.setCell ⟨B, i, none⟩ v) := ⟨by simp [World.setCell]; exact h.1, fun r h1 h2 => (Below.heap_setCell _ _ _ _ h2).trans (h.2 r h1 h2)⟩

/-- A kid that was made above the box, below a bound. -/
def KidG (B top : Nat) (W : World) (x : Value) (tr : Tr) : Prop := ∃ a b, B < a ∧ b ≤ top ∧ top ≤ W.heap.size ∧ NodeStands a b W x tr

theorem KidG.stood {B top n : Nat} {x : Value} {tr : Tr} (h : KidG B top W x tr) (hn : top ≤ n) (hs : Stood n B W W') : KidG B top W' x tr := by
  obtain ⟨a, b, h1, h2, h3, h4⟩ := h
  exact ⟨a, b, h1, h2, Nat.le_trans h3 hs.1, h4.keep fun r hr hr2 => hs.2 r (by omega) (by omega)⟩
theorem KidG.below {B top : Nat} {x : Value} {tr : Tr} (h : KidG B top W x tr) (hb : Below W.heap.size W W') : KidG B top W' x tr := by
  obtain ⟨a, b, h1, h2, h3, h4⟩ := h
  exact ⟨a, b, h1, h2, Nat.le_trans h3 hb.size, h4.keep fun r hr hr2 => hb.block r (by omega)⟩
theorem KidG.set {B top : Nat} {x : Value} {tr : Tr} (h : KidG B top W x tr) (i : Nat) (v : Value) : KidG B top (W.setCell ⟨B, i, none⟩ v) x tr := by
  obtain ⟨a, b, h1, h2, h3, h4⟩ := h
  exact ⟨a, b, h1, h2, by simp [World.setCell]; exact h3, h4.keep fun r hr hr2 => Below.heap_setCell _ _ _ _ (by show r ≠ B; omega)⟩
theorem KidG.gives {B top : Nat} {x : Value} {tr : Tr} (h : KidG B top W x tr) : NodeGives B W x tr := by
  obtain ⟨a, b, h1, h2, h3, h4⟩ := h
  exact h4.gives (Nat.le_of_lt h1) (by omega)
theorem KidG.of {lo B : Nat} {x : Value} {tr : Tr} (h : NodeGives lo W x tr) (hl : B < lo) : KidG B W.heap.size W x tr := ⟨lo, W.heap.size, hl, Nat.le_refl _, Nat.le_refl _, h.stands⟩
theorem KidG.top {B top top' : Nat} {x : Value} {tr : Tr} (h : KidG B top W x tr) (h1 : top ≤ top') (h2 : top' ≤ W.heap.size) : KidG B top' W x tr := by
  obtain ⟨a, b, k1, k2, k3, k4⟩ := h
  exact ⟨a, b, k1, by omega, h2, k4⟩

/-- A name or none. -/
def OptK (B top : Nat) (W : World) (ad : Option Addr) (tr : Tr) : Prop := (ad = none ∧ tr = noT) ∨ ∃ r, ad = some ⟨r, 0, none⟩ ∧ KidG B top W (.iface 60 (.pointer (some ⟨r, 0, none⟩))) tr

theorem OptK.stood {B top n : Nat} {ad : Option Addr} {tr : Tr} (h : OptK B top W ad tr) (hn : top ≤ n) (hs : Stood n B W W') : OptK B top W' ad tr := h.imp id fun ⟨r, h1, h2⟩ => ⟨r, h1, h2.stood hn hs⟩
theorem OptK.below {B top : Nat} {ad : Option Addr} {tr : Tr} (h : OptK B top W ad tr) (hb : Below W.heap.size W W') : OptK B top W' ad tr := h.imp id fun ⟨r, h1, h2⟩ => ⟨r, h1, h2.below hb⟩
theorem OptK.set {B top : Nat} {ad : Option Addr} {tr : Tr} (h : OptK B top W ad tr) (i : Nat) (v : Value) : OptK B top (W.setCell ⟨B, i, none⟩ v) ad tr := h.imp id fun ⟨r, h1, h2⟩ => ⟨r, h1, h2.set i v⟩
theorem OptK.gives {B top : Nat} {ad : Option Addr} {tr : Tr} (h : OptK B top W ad tr) : OptG B W ad tr := h.imp id fun ⟨r, h1, h2⟩ => ⟨r, h1, h2.gives⟩
theorem OptK.top {B top top' : Nat} {ad : Option Addr} {tr : Tr} (h : OptK B top W ad tr) (h1 : top ≤ top') (h2 : top' ≤ W.heap.size) : OptK B top' W ad tr := h.imp id fun ⟨r, k1, k2⟩ => ⟨r, k1, k2.top h1 h2⟩

theorem RowG.low {T PT : TypeId} {lo lo' : Nat} {v : Value} {kids : List Tr} (h : RowG T PT lo W v kids) (hl : lo' ≤ lo) : RowG T PT lo' W v kids := by
  obtain ⟨rs, h1, h2, h3, h4⟩ := h
  exact ⟨rs, h1, h2, ⟨h3.1, h3.2.imp id fun ⟨g, cap, cur, e1, e2, e3⟩ => ⟨g, cap, cur, e1, Nat.le_trans hl e2, e3⟩⟩, fun i hi hi2 => by
    obtain ⟨a, b, k1, k2⟩ := h4 i hi hi2
    exact ⟨a, b, by omega, k2⟩⟩
theorem RowG.below {T PT : TypeId} {lo : Nat} {v : Value} {kids : List Tr} (h : RowG T PT lo W v kids) (hb : Below W.heap.size W W') : RowG T PT lo W' v kids := h.keep (fun r _ hr => hb.block r hr) hb.size
theorem RowG.set {T PT : TypeId} {lo B : Nat} {v : Value} {kids : List Tr} (h : RowG T PT lo W v kids) (hB : B < lo) (i : Nat) (x : Value) : RowG T PT lo (W.setCell ⟨B, i, none⟩ x) v kids := h.keep (fun r hr _ => Below.heap_setCell _ _ _ _ (by show r ≠ B; omega)) (by simp [World.setCell])
theorem RowG.form {T PT : TypeId} {lo : Nat} {v : Value} {kids : List Tr} (h : RowG T PT lo W v kids) : ∃ a c, v = .slice a kids.length c := by
  obtain ⟨rs, h1, h2, h3, h4⟩ := h
  obtain ⟨a, c, e⟩ := slice_form h3
  exact ⟨a, c, e⟩
end

/-- An optional name's field. -/
def OptF (tr : Tr) (Q : List UInt8 → Nat → Prop) (bs : List UInt8) (p : Nat) (q : List Nat) (i : Nat) : Prop :=
  (tr = noT ∧ (i < q.length → q.getD i 0 = 0)) ∨ (ReadsAs tr Q ∧ tr.kind = 33 ∧ KidF Q bs p q i)

/-- A reader of a name, or nil. -/
def OptP (tr : Tr) (Q : List UInt8 → Nat → Prop) (g L c : Nat) (bs : List UInt8) (w : World) (e : Ending) (w' : World) : Prop :=
  ∃ ad, e = .returned (.pointer ad) ∧ Below w.heap.size w w' ∧ ((ad = none ∧ tr = noT) ∨ ∃ r q, ad = some ⟨r, 0, none⟩ ∧ TabAt r g L c q bs w' ∧ Q bs q ∧ ReadsAs tr Q ∧ tr.kind = 33)

/-- A name is made, or nil. -/
def NameP (tr : Tr) (w : World) (e : Ending) (w' : World) : Prop :=
  ∃ ad, e = .returned (.pointer ad) ∧ Below w.heap.size w w' ∧ ((ad = none ∧ tr = noT) ∨ ∃ r, ad = some ⟨r, 0, none⟩ ∧ NodeGives w.heap.size w' (.iface 60 (.pointer (some ⟨r, 0, none⟩))) tr)

set_option maxHeartbeats 1000000 in
set_option maxRecDepth 100000 in
theorem fromName_none (w : World) :
    Calls Tryz.prog 70 #[.agg #[.pointer none, .slice none 0 0, .slice none 0 0, .string ⟨#[]⟩], .pointer none] w fun e w' => e = .returned (.pointer none) ∧ Below w.heap.size w w' := by
  have HB := Lib.hid ((Below.refl w.heap.size w).alloc (Nat.le_refl _) (.cells #[.pointer none, .slice none 0 0, .slice none 0 0, .string ⟨#[]⟩] 105))
  go_enter Tryz.func70, Tryz.ntmps70
  go_wp2
  go_ret
  exact ⟨rfl, HB.out⟩

/-- Identifier.FromBuf over a reader or nil. -/
theorem fromName_any {tr : Tr} {Q : List UInt8 → Nat → Prop} {g L c : Nat} {bs : List UInt8} {ad : Option Addr} {w : World} (h : (ad = none ∧ tr = noT) ∨ ∃ r q, ad = some ⟨r, 0, none⟩ ∧ TabAt r g L c q bs w ∧ Q bs q ∧ ReadsAs tr Q ∧ tr.kind = 33) :
    Calls Tryz.prog 70 #[.agg #[.pointer none, .slice none 0 0, .slice none 0 0, .string ⟨#[]⟩], .pointer ad] w (NameP tr w) := by
  rcases h with ⟨rfl, rfl⟩ | ⟨r, q, rfl, h1, h2, h3, h4⟩
  · exact (fromName_none w).mono fun e w' h => ⟨none, h.1, h.2, .inl ⟨rfl, rfl⟩⟩
  · refine (reads33 h3 h4 h2 h1).mono ?_
    rintro e w' ⟨r2, rfl, k1, k2, k3⟩
    exact ⟨_, rfl, k3, .inr ⟨r2, rfl, k2⟩⟩

theorem OptK.of {B lo : Nat} {W : World} {ad : Option Addr} {tr : Tr} (h : (ad = none ∧ tr = noT) ∨ ∃ r, ad = some ⟨r, 0, none⟩ ∧ NodeGives lo W (.iface 60 (.pointer (some ⟨r, 0, none⟩))) tr) (hl : B < lo) : OptK B W.heap.size W ad tr := h.imp id fun ⟨r, h1, h2⟩ => ⟨r, h1, .of h2 hl⟩

/-- A union's table. -/
def UnionP (Q : List UInt8 → Nat → Prop) (g L c : Nat) (bs : List UInt8) (w : World) (e : Ending) (w' : World) : Prop :=
  ∃ r z, e = .returned (.pointer (some ⟨r, 0, none⟩)) ∧ TabAt r g L c z bs w' ∧ Q bs z ∧ Below w.heap.size w w'

section
variable {ops : Array Oper} {o : Oper} {a : Act} {W : World} {K : Act → World → Prop} {Q : Exit → Act → World → Prop} {E : Prop}

/-- 'append(list, kid)' in a region that draws. -/
theorem step_append_kid {PT ST : TypeId} (hST : Tryz.prog.underlying ST = some (.slice PT)) (hPT : (Tryz.prog.info? PT).map (fun i => (i.zero, i.size, i.bytes)) = some (some (.pointer none), 1, 8)) (hgd : o.guard = none) (s x : Operand)
    (ho : o.op = .call { callee := .builtin .append, args := #[s, x], argTypes := #[ST, ST] }) {w : World} {b g L c p : Nat} {bs : List UInt8} {row : Array Value} {T : TypeId} (hF : FromIn w b g L c p bs row T W) {lo : Nat} (hlo : w.heap.size < lo) (hloW : lo ≤ W.heap.size) {kids : List Tr} {al : Option Addr} {n cc : Nat} (hn : n = kids.length) (hlen : kids.length ≤ 1000)
    (hs : a.eval s = .slice al n cc) (hR : RowG PT PT lo W (.slice al n cc) kids) {a4 h4 : Nat} {y : Value} (hy : y.oneCell' = true) {tr : Tr} (hl4 : lo ≤ a4) (hle : h4 ≤ W.heap.size) (ha4 : ∀ r, (Value.slice al n cc).ownBlock = some r → r < a4) (hN : NodeStands a4 h4 W (.iface PT y) tr)
    {xb : Nat} (hx : a.eval x = .slice (some ⟨xb, 0, none⟩) 1 1) (hxb : W.heap[xb]? = some (.cells #[y] PT (0, 0)))
    (h : ∀ g' cap w', FromIn w b g L c p bs row T w' → RowG PT PT lo w' (.slice (some ⟨g', 0, none⟩) (n + 1) cap) (kids ++ [tr]) → (∀ r, r < lo → w'.heap[r]? = W.heap[r]?) → W.heap.size ≤ w'.heap.size → K (a.put o.dst (.slice (some ⟨g', 0, none⟩) (n + 1) cap)) w') :
    if Region.wanted o (yielded ops a.tmps) = true then Oper.wp Tryz.prog o a W K Q else E := by
  obtain ⟨i0, hi, hz0, hz1, hz2⟩ := info_parts hPT
  obtain ⟨rs, h1, h2, h3, h5⟩ := hR
  subst hn
  refine step_append_lies W hgd s x ST ho lo PT i0 _ 1 8 hST hi hz0 hz1 hz2 rfl (by decide) _ kids.length rs hs h3 ⟨xb, 0, none⟩ 1 1 [y] hx rfl (World.news_of_block (cs := #[y]) (t := PT) (fr := (0, 0)) hxb) (by simp [hy]) (by decide) (by unfold maxLen; omega) (by omega) hloW _ rfl ?_
  intro g' cap w' hown' hgrow hat hlt
  have hg' : ∀ r, r < W.heap.size → (Value.slice al kids.length cc).ownBlock ≠ some r → w'.heap[r]? = W.heap[r]? := fun r hr hne => hgrow.block r hr fun e => hne e.symm
  have hlow : ∀ r, r < lo → w'.heap[r]? = W.heap[r]? := fun r hr => hg' r (by omega) fun e => by
    have := (h3.lt r e).1
    omega
  have hsz := hgrow.size
  have hbx : xb < W.heap.size := (Array.getElem?_eq_some_iff.1 hxb).1
  refine h g' cap w' ⟨?_, (hlow _ hlo).trans hF.row, hF.bel.grown hgrow (by have := hF.lt; omega) (fun k e => by have := (h3.lt k e).1; omega), hF.nb, hF.ng⟩ (RowG.snoc_of h1 h2 h5 hy hl4 hle ha4 hN hg' hsz ?_ hown') hlow hsz
  · have hb : Below w.heap.size W w' := ⟨hgrow.os, hgrow.tape, hgrow.output, hsz, fun r hr => hlow r (by omega)⟩
    have ht := hF.tab
    exact ⟨(hb.cell (p := ⟨b, 0, none⟩) hF.nb).trans ht.c0, (hb.cell (p := ⟨b, 1, none⟩) hF.nb).trans ht.c1, fun i hi => (hb.cell (p := ⟨g, i, none⟩) hF.ng).trans (ht.row i hi), ht.len, ht.cap, ht.big, Nat.lt_of_lt_of_le ht.gl hsz, Nat.lt_of_lt_of_le ht.bl hsz⟩
  · rcases hat with e | e
    · exact .inl e.symm
    · exact .inr ⟨g', rfl, by omega⟩
end

end Go.Proofs.YtgceklahjdbipaaGreatDoor
