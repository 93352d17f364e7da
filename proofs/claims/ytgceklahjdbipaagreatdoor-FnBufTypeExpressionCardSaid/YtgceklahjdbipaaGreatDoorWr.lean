/- Tables whose slots have certain places and widths: what is asked of the layout, as one closed fact. How a tree's table is written: one statement for all trees. Types' tables: how each kind's is written, over its kids' tables. -/
import Derived.Test.YtgceklahjdbipaaGreatDoorMakerAll
import Derived.Test.YtgceklahjdbipaaGreatDoorBufLeaf
import Derived.Test.YtgceklahjdbipaaGreatDoorRecSlots
import Derived.Test.YtgceklahjdbipaaGreatDoorTySlots
namespace Go.Proofs.YtgceklahjdbipaaGreatDoor
open Go Go.RowKit
set_option linter.unusedVariables false
set_option linter.unusedSimpArgs false

def skS (p : Nat × Nat) : SlotP := ⟨p.1, p.2, 0, none⟩
def skOf (s : SlotP) : Nat × Nat := (s.idx, s.width)

theorem foldl_sk (w : Nat) : ∀ (l : List SlotP) (acc : List Nat × Nat), l.foldl (placeOne w) acc = ((l.map skOf).map skS).foldl (placeOne w) acc
  | [], _ => rfl
  | s :: l, acc => by
    rw [List.foldl_cons, List.map_cons, List.map_cons, List.foldl_cons, foldl_sk w l]
    rfl

theorem most1_sk (l : List SlotP) : most1 l = most1 ((l.map skOf).map skS) := by
  unfold most1
  have h : ∀ (l : List SlotP) (m : Nat), l.foldl (fun m s => max m (s.idx + 1)) m = ((l.map skOf).map skS).foldl (fun m s => max m (s.idx + 1)) m := by
    intro l
    induction l with
    | nil => intro m; rfl
    | cons s l ih =>
      intro m
      rw [List.foldl_cons, List.map_cons, List.map_cons, List.foldl_cons, ih]
      rfl
  exact h l 0

theorem layout_sk (l : List SlotP) : layout l = layout ((l.map skOf).map skS) := by
  unfold layout
  rw [most1_sk l]
  simp only [List.foldl_cons, List.foldl_nil]
  rw [foldl_sk 8 l, foldl_sk 4 l, foldl_sk 2 l, foldl_sk 1 l]

/-- All that is asked of places and widths. -/
def skOk (l : List (Nat × Nat)) (places : List Nat) (size : Nat) : Prop :=
  layout (l.map skS) = (places, size) ∧ most1 (l.map skS) = places.length ∧ places.length < 1000 ∧ 4 ≤ size ∧ size < 60000 ∧ (∀ p ∈ places, p < 65536) ∧ (∀ p ∈ l, 4 ≤ places.getD p.1 0 ∧ places.getD p.1 0 + p.2 ≤ size ∧ 0 < p.2 ∧ p.2 ≤ 8) ∧
    l.Pairwise (fun a b => places.getD a.1 0 + a.2 ≤ places.getD b.1 0 ∨ places.getD b.1 0 + b.2 ≤ places.getD a.1 0) ∧ l.length ≤ 100

instance (l : List (Nat × Nat)) (places : List Nat) (size : Nat) : Decidable (skOk l places size) := by
  unfold skOk
  infer_instance

theorem good_of {fs : List SlotQ} {l : List (Nat × Nat)} {places : List Nat} {size : Nat} (hk : skOk l places size) (hl : fs.map (fun f => skOf f.s) = l) (hok : ∀ f ∈ fs, ∀ P, f.s.ref = some P → f.s.width = 4 ∧ PartOk P f.sz f.Q) (hnum : ∀ f ∈ fs, f.s.num < 18446744073709551616) : TabGood fs places size := by
  obtain ⟨h1, h2, h3, h4, h5, h6, h7, h8, h9⟩ := hk
  have hm : (fs.map SlotQ.s).map skOf = l := by rw [List.map_map]; exact hl
  have hin : ∀ f ∈ fs, skOf f.s ∈ l := fun f hf => by rw [← hl]; exact List.mem_map.2 ⟨f, hf, rfl⟩
  refine ⟨?_, ?_, h3, h4, h5, h6, fun f hf => (h7 _ (hin f hf)).1, fun f hf => (h7 _ (hin f hf)).2.1, ?_, hok, fun f hf => ⟨(h7 _ (hin f hf)).2.2.1, (h7 _ (hin f hf)).2.2.2⟩, hnum, ?_⟩
  · rw [layout_sk, hm, h1]
  · rw [most1_sk, hm, h2]
  · rw [← hm, List.pairwise_map] at h8
    exact h8
  · have := congrArg List.length hl
    rw [List.length_map] at this
    omega

theorem sk_one : skOk [(1, 4)] [0, 4] 8 := by decide
theorem sk_dict : skOk [(1, 1), (2, 4), (3, 1), (4, 4), (0, 4)] [12, 16, 4, 17, 8] 18 := by decide

/-- A tree's table: how it is written, how many bytes it takes at most, what it says. -/
structure Wr (base : Bool) (tr : Tr) (P : List UInt8 → List UInt8 × Nat) (sz : Nat) (Q : List UInt8 → Nat → Prop) : Prop where
  part : PartOk P sz Q
  wr : ∀ M N v, NodeWrites M base N tr v P sz

/-- The slots, and what all nodes have. -/
def fsB (base : Bool) (fs : List SlotQ) : List SlotQ := if base then fs ++ [baseQ] else fs

theorem szSum_base (base : Bool) (fs : List SlotQ) : szSum (fsB base fs) ≤ szSum fs + 64 := by
  cases base with
  | false => exact Nat.le_add_right _ _
  | true =>
    show szSum (fs ++ [baseQ]) ≤ _
    rw [szSum_append]
    exact Nat.le_refl _

theorem Wr.mono {base : Bool} {tr : Tr} {P : List UInt8 → List UInt8 × Nat} {sz sz' : Nat} {Q Q' : List UInt8 → Nat → Prop} (h : Wr base tr P sz Q) (hs : sz ≤ sz') (hq : ∀ l p, Q l p → Q' l p) : Wr base tr P sz' Q' :=
  ⟨h.part.imp hs hq, fun M N v W out a b c d e => h.wr M N v W out a b c d (by omega)⟩

theorem wr_node {base : Bool} {k : Int} (hk40 : (k == 40) = false) {t m : ByteArray} {u : Int} {kids : List Tr} (fs : List SlotQ) (h0 : 0 < fs.length) {places : List Nat} {size : Nat} (hg : TabGood (fsB base fs) places size)
    (hs : ∀ M N a c W out, Mk M base out W → NodeIn W (· < N) (.mk k t m u kids) (nodeU k t m u a kids.length c) → N ≤ W.heap.size → (∀ r, r < N → MkOther M r W) →
      Calls Tryz.prog 65 #[.pointer (some ⟨M, 0, none⟩), .agg #[.int .i64 k, .string t, .string m, .int .u64 u, .slice a kids.length c]] W (SlotsPost M base fs W)) :
    Wr base (.mk k t m u kids) (tableB ((fsB base fs).map SlotQ.s)) (12 + 2 * places.length + size + szSum (fsB base fs)) (TabQ size places (fsB base fs)) := by
  refine ⟨hg.part, fun M N v W out hM hv ho hN hsz => ?_⟩
  obtain ⟨k', x', m', n', ks', a, c, e, rfl⟩ := hv.form
  injection e with e1 e2 e3 e4 e5
  subst e1 e2 e3 e4 e5
  have hs' : ∀ W', Mk M base out W' → Below W.heap.size W W' → Calls Tryz.prog 65 #[.pointer (some ⟨M, 0, none⟩), .agg #[.int .i64 k, .string t, .string m, .int .u64 u, .slice a kids.length c]] W' (SlotsPost M base fs W') := fun W' h' hb' =>
    hs M N a c W' out h' (hv.keep (Keep.of_below hb' hN)) (Nat.le_trans hN hb'.size) fun r hr => (ho r hr).below hM.lt hb'
  cases base with
  | false => exact node_many M out fs h0 places size hg k t m u (.slice a kids.length c) ⟨a, _, c, rfl⟩ W hM hs' hsz
  | true => exact node_many_base M out fs places size hg k hk40 t m u (.slice a kids.length c) ⟨a, _, c, rfl⟩ W hM hs' hsz

/-- An identifier's table. -/
theorem wr_text (base : Bool) (k : Nat) (hk : k = 33 ∨ k = 34) (x : ByteArray) (hx : x.size ≤ 300) : Wr base (.mk k x ⟨#[]⟩ 0 []) (tableB ((textFs base x).map SlotQ.s)) 1000 (LeafText x) :=
  ⟨textFs_part base x hx, fun M N v => text_writes base k hk x hx M N v⟩

set_option maxHeartbeats 4000000 in
set_option maxRecDepth 100000 in
theorem arraySlotsS (M : Nat) (base : Bool) (N : Nat) (t m : ByteArray) (u : Int) (kid : Tr) (a : Option Addr) (c : Nat) (fs : List SlotQ) (w : World) (hN : N ≤ w.heap.size)
    (hv : NodeIn w (· < N) (.mk 47 t m u [kid]) (nodeU 47 t m u a 1 c))
    (hmb : ∀ W a' l' c', Below w.heap.size w W → NodeIn W (· < N) kid (nodeU kid.kind kid.text kid.more kid.num a' l' c') → Calls Tryz.prog 191 #[.int .i64 1, nodeU kid.kind kid.text kid.more kid.num a' l' c'] W (SlotsPost M base fs W)) :
    Calls Tryz.prog 127 #[.agg #[.int .i64 47, .string t, .string m, .int .u64 u, .slice a 1 c]] w (SlotsPost M base fs w) := by
  obtain ⟨b, o, rfl, hbN, hkid⟩ := hv.kidsAt (by simp)
  have hb0 := (Below.refl w.heap.size w).alloc (Nat.le_refl _) (.cells #[.int .i64 47, .string t, .string m, .int .u64 u, .slice (some ⟨b, o, none⟩) 1 c] 25)
  obtain ⟨a', c', hn0, d0, d1, d2, d3, d4⟩ := hkid _ (Keep.of_below hb0 hN) 0 (by simp)
  simp only [List.getElem_cons_zero, Nat.zero_mul, Nat.add_zero] at hn0 d0 d1 d2 d3 d4
  have hM := hmb _ a' kid.kids.length c' hb0 hn0
  unfold nodeU at hM
  have HM := Lib.hid hM
  have HB0 := Lib.hid hb0
  clear hv hkid hn0 hb0 hM hmb
  generalize kid.kind = kk at *
  generalize kid.text = tt at *
  generalize kid.more = mm at *
  generalize kid.num = nn at *
  generalize kid.kids.length = ll at *
  go_enter Tryz.func127, Tryz.ntmps127
  go_wp2_with (go_at_call 191; with_reducible refine HM.out.mono ?_)
  rintro e w2 ⟨v, l, D, rfl, hp⟩
  have HP := Lib.hid (SlotsPost.from HB0.out ⟨v, l, D, rfl, hp⟩)
  clear hp
  go_wp2
  go_ret
  exact HP.out

/-- A slot is in order. -/
def SOk (f : SlotQ) : Prop := (∀ P, f.s.ref = some P → f.s.width = 4 ∧ PartOk P f.sz f.Q) ∧ f.s.num < 18446744073709551616

theorem SOk.kid {i : Nat} {P : List UInt8 → List UInt8 × Nat} {sz : Nat} {Q : List UInt8 → Nat → Prop} (h : PartOk P sz Q) : SOk (kidQ i P sz Q) :=
  ⟨fun P' e => by cases e; exact ⟨rfl, h⟩, by show 0 < _; omega⟩
theorem SOk.num {i wd u : Nat} (h : u < 18446744073709551616) : SOk (numQ i wd u) := ⟨fun P' e => by (cases e), h⟩
theorem SOk.list {i : Nat} {ps : List PartQ} (hn : ps.length < 100000) (hp : ∀ p ∈ ps, PartOk p.P p.sz p.Q) : SOk (listQ i ps) :=
  ⟨fun P' e => list_part hn hp P' e, by show 0 < _; omega⟩
theorem SOk.base : SOk baseQ := ⟨fun P' e => base_part P' e, by show 0 < _; omega⟩

theorem good_base {base : Bool} {fs : List SlotQ} {l : List (Nat × Nat)} {q1 q2 : List Nat} {z1 z2 : Nat} (hf : skOk l q1 z1) (ht : skOk (l ++ [(0, 4)]) q2 z2) (hl : fs.map (fun f => skOf f.s) = l) (hok : ∀ f ∈ fs, SOk f) : TabGood (fsB base fs) (if base then q2 else q1) (if base then z2 else z1) := by
  cases base with
  | false => exact good_of hf hl (fun f hm => (hok f hm).1) fun f hm => (hok f hm).2
  | true =>
    have hok2 : ∀ f ∈ fs ++ [baseQ], SOk f := fun f hm => by
      rcases List.mem_append.1 hm with h | h
      · exact hok f h
      · rw [List.mem_singleton] at h
        rw [h]
        exact SOk.base
    exact good_of ht (by show (fs ++ [baseQ]).map _ = _; rw [List.map_append, hl]; rfl) (fun f hm => (hok2 f hm).1) fun f hm => (hok2 f hm).2

theorem ch_lt (k : Int) : (choiceOf k).toNat < 18446744073709551616 := by
  have := choiceOf_bounds k
  omega

theorem wr_type {base : Bool} {k : Int} (hk : 44 ≤ k) {t m : ByteArray} {u : Int} {kids : List Tr} (fs : List SlotQ) (h0 : 0 < fs.length) {places : List Nat} {size : Nat} (hg : TabGood (fsB base fs) places size)
    (hs : ∀ M N a c W out, Mk M base out W → NodeIn W (· < N) (.mk k t m u kids) (nodeU k t m u a kids.length c) → N ≤ W.heap.size → (∀ r, r < N → MkOther M r W) →
      Calls Tryz.prog 127 #[.agg #[.int .i64 k, .string t, .string m, .int .u64 u, .slice a kids.length c]] W (SlotsPost M base fs W)) :
    Wr base (.mk k t m u kids) (tableB ((fsB base fs).map SlotQ.s)) (12 + 2 * places.length + size + szSum (fsB base fs)) (TabQ size places (fsB base fs)) :=
  wr_node (by rw [beq_eq_false_iff_ne]; omega) fs h0 hg fun M N a c W out hM hv hN ho =>
    slots_type M base out fs k hk t m u a kids.length c W hM fun W' hM' hb' =>
      hs M N a c W' out hM' (hv.keep (Keep.of_below hb' hN)) (Nat.le_trans hN hb'.size) fun r hr => (ho r hr).below hM.lt hb'

/-- A tree's table over slots, with what all nodes have or without. -/
def WrT (base : Bool) (tr : Tr) (fs : List SlotQ) (q1 q2 : List Nat) (z1 z2 : Nat) : Prop :=
  Wr base tr (tableB ((fsB base fs).map SlotQ.s)) (12 + 2 * (if base then q2 else q1).length + (if base then z2 else z1) + szSum (fsB base fs)) (TabQ (if base then z2 else z1) (if base then q2 else q1) (fsB base fs))

theorem either_wr {base : Bool} {k : Tr} {P : List UInt8 → List UInt8 × Nat} {s : Nat} {Q : List UInt8 → Nat → Prop} (h : Wr base k P s Q) (hk : k.kind ≠ 0) (i : Nat) (hi : i < 1000) {M N : Nat} {out : List UInt8} {W : World} (hM : Mk M base out W) (hN : N ≤ W.heap.size) (ho : ∀ r, r < N → MkOther M r W) :
    ∀ W' a' l' c', Below W.heap.size W W' → NodeIn W' (· < N) k (nodeU k.kind k.text k.more k.num a' l' c') → Calls Tryz.prog 191 #[.int .i64 i, nodeU k.kind k.text k.more k.num a' l' c'] W' (SlotsPost M base [numQ i 1 (choiceOf k.kind).toNat, kidQ (i + 1) P s Q] W') := fun W' a' l' c' hb hn =>
  either_some M base out N i hi k k.kind hk k.text k.more k.num a' l' c' P s Q W' (hM.below hb) (Nat.le_trans hN hb.size) (fun r hr => (ho r hr).below hM.lt hb) (h.wr M N _) hn

/-- A name or none, as slots. -/
structure MaybeWr (base : Bool) (k : Tr) (i : Nat) (fs : List SlotQ) : Prop where
  form : (k.kind = 0 ∧ fs = []) ∨ ∃ P s Q, k.kind ≠ 0 ∧ Wr base k P s Q ∧ fs = [kidQ i P s Q]

theorem maybe_wr {base : Bool} {k : Tr} {i : Nat} {fs : List SlotQ} (h : MaybeWr base k i fs) {M N : Nat} {out : List UInt8} {W : World} (hM : Mk M base out W) (hN : N ≤ W.heap.size) (ho : ∀ r, r < N → MkOther M r W) :
    ∀ W' a' l' c', Below W.heap.size W W' → NodeIn W' (· < N) k (nodeU k.kind k.text k.more k.num a' l' c') → Calls Tryz.prog 194 #[.int .i64 i, nodeU k.kind k.text k.more k.num a' l' c'] W' (MaybePost M base fs W') := fun W' a' l' c' hb hn => by
  rcases h.form with ⟨h0, rfl⟩ | ⟨P, s, Q, h0, hw, rfl⟩
  · rw [h0]
    exact maybeAt_none M base i k.text k.more k.num a' l' c' W'
  · exact (maybeAt_some M base out N i k k.kind h0 k.text k.more k.num a' l' c' P s Q W' (hM.below hb) (Nat.le_trans hN hb.size) (fun r hr => (ho r hr).below hM.lt hb) (hw.wr M N _) hn).mono fun e w h => h.maybe (by simp)

/-- The tables of a list of trees. -/
structure ListWr (base : Bool) (kids : List Tr) (ps : List PartQ) : Prop where
  len : ps.length = kids.length
  few : kids.length ≤ 1000
  wr : ∀ i (h : i < kids.length) (h2 : i < ps.length), Wr base kids[i] ps[i].P ps[i].sz ps[i].Q

theorem ListWr.ok {base : Bool} {kids : List Tr} {ps : List PartQ} (h : ListWr base kids ps) : ∀ p ∈ ps, PartOk p.P p.sz p.Q := fun p hp => by
  obtain ⟨i, hi, rfl⟩ := List.mem_iff_getElem.1 hp
  exact (h.wr i (by rw [← h.len]; exact hi) hi).part

theorem ListWr.kids {base : Bool} {kids : List Tr} {ps : List PartQ} (h : ListWr base kids ps) (M N : Nat) : KidWriter M base N kids ps :=
  ⟨h.len, h.few, h.ok, fun i h1 h2 v => (h.wr i h1 h2).wr M N v⟩

theorem ListWr.lt {base : Bool} {kids : List Tr} {ps : List PartQ} (h : ListWr base kids ps) : ps.length < 100000 := by
  have := h.len
  have := h.few
  omega

section
variable {base : Bool} {t m : ByteArray} {u : Int} {k1 k2 : Tr} {P1 P2 : List UInt8 → List UInt8 × Nat} {s1 s2 : Nat} {Q1 Q2 : List UInt8 → Nat → Prop} {rest : List Tr} {ps : List PartQ} {fs : List SlotQ}

theorem wr_name (k : Int) (hk : k = 45 ∨ k = 46) (h1 : Wr base k1 P1 s1 Q1) : WrT base (.mk k t m u [k1]) [kidQ 1 P1 s1 Q1] [0, 4] [8, 4] 8 12 :=
  wr_type (by omega) [kidQ 1 P1 s1 Q1] (by simp) (good_base (l := [(1, 4)]) (by decide) (by decide) rfl (one_all (SOk.kid h1.part))) fun M N a c W out hM hv hN ho =>
    typeSlots_kid M base out N k hk t m u k1 a c P1 s1 Q1 W hM hN ho hv (h1.wr M N)

theorem wr_dict (h1 : Wr base k1 P1 s1 Q1) (n1 : k1.kind ≠ 0) (h2 : Wr base k2 P2 s2 Q2) (n2 : k2.kind ≠ 0) :
    WrT base (.mk 48 t m u [k1, k2]) ([numQ 1 1 (choiceOf k1.kind).toNat, kidQ 2 P1 s1 Q1] ++ [numQ 3 1 (choiceOf k2.kind).toNat, kidQ 4 P2 s2 Q2]) [0, 12, 4, 13, 8] [12, 16, 4, 17, 8] 14 18 :=
  wr_type (by omega) ([numQ 1 1 (choiceOf k1.kind).toNat, kidQ 2 P1 s1 Q1] ++ [numQ 3 1 (choiceOf k2.kind).toNat, kidQ 4 P2 s2 Q2]) (by simp)
    (good_base (l := [(1, 1), (2, 4), (3, 1), (4, 4)]) (by decide) (by decide) rfl (by
      simp only [List.cons_append, List.nil_append, List.forall_mem_cons]
      exact ⟨SOk.num (ch_lt _), SOk.kid h1.part, SOk.num (ch_lt _), SOk.kid h2.part, by simp⟩)) fun M N a c W out hM hv hN ho =>
    dictSlots M base out N t m u k1 k2 a c _ _ (by simp) W hM hN ho hv (fun W' a' l' c' hb hn => (either_wr h1 n1 1 (by decide) hM hN ho W' a' l' c' hb hn).mono fun e w h => h.maybe (by simp)) (fun W' a' l' c' hb hn => (either_wr h2 n2 3 (by decide) hM hN ho W' a' l' c' hb hn).mono fun e w h => h.maybe (by simp))

theorem wr_array (h1 : Wr base k1 P1 s1 Q1) (n1 : k1.kind ≠ 0) : WrT base (.mk 47 t m u [k1]) [numQ 1 1 (choiceOf k1.kind).toNat, kidQ 2 P1 s1 Q1] [0, 8, 4] [8, 12, 4] 9 13 :=
  wr_type (by omega) [numQ 1 1 (choiceOf k1.kind).toNat, kidQ 2 P1 s1 Q1] (by simp) (good_base (l := [(1, 1), (2, 4)]) (by decide) (by decide) rfl (two_all (SOk.num (ch_lt _)) (SOk.kid h1.part))) fun M N a c W out hM hv hN ho =>
    arraySlotsS M base N t m u k1 a c _ W hN hv (either_wr h1 n1 1 (by decide) hM hN ho)

theorem wr_rec (hl : ListWr base rest ps) (n2 : k2.kind = 0) : WrT base (.mk 49 t m u (k2 :: rest)) [listQ 1 ps] [0, 4] [8, 4] 8 12 :=
  wr_type (by omega) [listQ 1 ps] (by simp) (good_base (l := [(1, 4)]) (by decide) (by decide) rfl (one_all (SOk.list hl.lt hl.ok))) fun M N a c W out hM hv hN ho =>
    recSlots M base out N t m u k2 rest a c [] (by simp) ps W hM hN ho hv (hl.kids M N) (maybe_wr (i := 2) ⟨.inl ⟨n2, rfl⟩⟩ hM hN ho)

theorem wr_recWith (hl : ListWr base rest ps) (h2 : Wr base k2 P2 s2 Q2) (n2 : k2.kind ≠ 0) : WrT base (.mk 49 t m u (k2 :: rest)) ([listQ 1 ps] ++ [kidQ 2 P2 s2 Q2]) [0, 4, 8] [12, 4, 8] 12 16 :=
  wr_type (by omega) ([listQ 1 ps] ++ [kidQ 2 P2 s2 Q2]) (by simp) (good_base (l := [(1, 4), (2, 4)]) (by decide) (by decide) rfl (two_all (SOk.list hl.lt hl.ok) (SOk.kid h2.part))) fun M N a c W out hM hv hN ho =>
    recSlots M base out N t m u k2 rest a c [kidQ 2 P2 s2 Q2] (by simp) ps W hM hN ho hv (hl.kids M N) (maybe_wr (i := 2) ⟨.inr ⟨_, _, _, n2, h2, rfl⟩⟩ hM hN ho)

theorem wr_param (x : Nat) (hx : x < 18446744073709551616) (n1 : k1.kind = 0) (h2 : Wr base k2 P2 s2 Q2) (n2 : k2.kind ≠ 0) :
    WrT base (.mk 52 t m x [k1, k2]) ([] ++ [numQ 2 1 (choiceOf k2.kind).toNat, kidQ 3 P2 s2 Q2] ++ [numQ 4 1 x]) [0, 0, 8, 4, 9] [8, 0, 12, 4, 13] 10 14 :=
  wr_type (by omega) ([] ++ [numQ 2 1 (choiceOf k2.kind).toNat, kidQ 3 P2 s2 Q2] ++ [numQ 4 1 x]) (by simp)
    (good_base (l := [(2, 1), (3, 4), (4, 1)]) (by decide) (by decide) rfl (by
      simp only [List.cons_append, List.nil_append, List.forall_mem_cons]
      exact ⟨SOk.num (ch_lt _), SOk.kid h2.part, SOk.num hx, by simp⟩)) fun M N a c W out hM hv hN ho =>
    paramSlots M base out N t m x k1 k2 a c [] _ (by simp) W hM hN ho hv (maybe_wr (i := 1) ⟨.inl ⟨n1, rfl⟩⟩ hM hN ho) (fun W' a' l' c' hb hn => (either_wr h2 n2 2 (by decide) hM hN ho W' a' l' c' hb hn).mono fun e w h => h.maybe (by simp))

theorem wr_paramWith (x : Nat) (hx : x < 18446744073709551616) (h1 : Wr base k1 P1 s1 Q1) (n1 : k1.kind ≠ 0) (h2 : Wr base k2 P2 s2 Q2) (n2 : k2.kind ≠ 0) :
    WrT base (.mk 52 t m x [k1, k2]) ([kidQ 1 P1 s1 Q1] ++ [numQ 2 1 (choiceOf k2.kind).toNat, kidQ 3 P2 s2 Q2] ++ [numQ 4 1 x]) [0, 4, 12, 8, 13] [12, 4, 16, 8, 17] 14 18 :=
  wr_type (by omega) ([kidQ 1 P1 s1 Q1] ++ [numQ 2 1 (choiceOf k2.kind).toNat, kidQ 3 P2 s2 Q2] ++ [numQ 4 1 x]) (by simp)
    (good_base (l := [(1, 4), (2, 1), (3, 4), (4, 1)]) (by decide) (by decide) rfl (by
      simp only [List.cons_append, List.nil_append, List.forall_mem_cons]
      exact ⟨SOk.kid h1.part, SOk.num (ch_lt _), SOk.kid h2.part, SOk.num hx, by simp⟩)) fun M N a c W out hM hv hN ho =>
    paramSlots M base out N t m x k1 k2 a c [kidQ 1 P1 s1 Q1] _ (by simp) W hM hN ho hv (maybe_wr (i := 1) ⟨.inr ⟨_, _, _, n1, h1, rfl⟩⟩ hM hN ho) (fun W' a' l' c' hb hn => (either_wr h2 n2 2 (by decide) hM hN ho W' a' l' c' hb hn).mono fun e w h => h.maybe (by simp))

theorem wr_prop (h1 : Wr base k1 P1 s1 Q1) (h2 : Wr base k2 P2 s2 Q2) (n2 : k2.kind ≠ 0) :
    WrT base (.mk 50 t m u [k1, k2]) ([kidQ 1 P1 s1 Q1] ++ [numQ 2 1 (choiceOf k2.kind).toNat, kidQ 3 P2 s2 Q2]) [0, 4, 12, 8] [12, 4, 16, 8] 13 17 :=
  wr_type (by omega) ([kidQ 1 P1 s1 Q1] ++ [numQ 2 1 (choiceOf k2.kind).toNat, kidQ 3 P2 s2 Q2]) (by simp)
    (good_base (l := [(1, 4), (2, 1), (3, 4)]) (by decide) (by decide) rfl (by
      simp only [List.cons_append, List.nil_append, List.forall_mem_cons]
      exact ⟨SOk.kid h1.part, SOk.num (ch_lt _), SOk.kid h2.part, by simp⟩)) fun M N a c W out hM hv hN ho =>
    propSlots M base out N t m u k1 k2 a c _ (by simp) P1 s1 Q1 W hM hN ho hv (h1.wr M N) (fun W' a' l' c' hb hn => (either_wr h2 n2 2 (by decide) hM hN ho W' a' l' c' hb hn).mono fun e w h => h.maybe (by simp))

theorem wr_func (hl : ListWr base rest ps) (h2 : Wr base k2 P2 s2 Q2) (n2 : k2.kind ≠ 0) :
    WrT base (.mk 51 t m u (k2 :: rest)) ([listQ 1 ps] ++ [numQ 2 1 (choiceOf k2.kind).toNat, kidQ 3 P2 s2 Q2]) [0, 4, 12, 8] [12, 4, 16, 8] 13 17 :=
  wr_type (by omega) ([listQ 1 ps] ++ [numQ 2 1 (choiceOf k2.kind).toNat, kidQ 3 P2 s2 Q2]) (by simp)
    (good_base (l := [(1, 4), (2, 1), (3, 4)]) (by decide) (by decide) rfl (by
      simp only [List.cons_append, List.nil_append, List.forall_mem_cons]
      exact ⟨SOk.list hl.lt hl.ok, SOk.num (ch_lt _), SOk.kid h2.part, by simp⟩)) fun M N a c W out hM hv hN ho =>
    funcSlots M base out N t m u k2 rest a c _ (by simp) ps W hM hN ho hv (hl.kids M N) (fun W' a' l' c' hb hn => (either_wr h2 n2 2 (by decide) hM hN ho W' a' l' c' hb hn).mono fun e w h => h.maybe (by simp))

theorem wr_cons (h2 : Wr base k2 P2 s2 Q2) (hl : ListWr base rest ps) :
    WrT base (.mk 53 t m u (k2 :: rest)) [kidQ 1 P2 s2 Q2, listQ 2 ps] [0, 4, 8] [12, 4, 8] 12 16 :=
  wr_type (by omega) [kidQ 1 P2 s2 Q2, listQ 2 ps] (by simp)
    (good_base (l := [(1, 4), (2, 4)]) (by decide) (by decide) rfl (two_all (SOk.kid h2.part) (SOk.list hl.lt hl.ok))) fun M N a c W out hM hv hN ho =>
    consSlots M base out N t m u k2 rest a c P2 s2 Q2 ps W hM hN ho hv (hl.kids M N) (h2.wr M N)

theorem wr_expr (h2 : Wr base k2 P2 s2 Q2) (n2 : k2.kind ≠ 0) (hl : ListWr base rest ps) :
    WrT base (.mk 44 t m u (k2 :: rest)) ([numQ 1 1 (choiceOf k2.kind).toNat, kidQ 2 P2 s2 Q2] ++ [listQ 3 ps]) [0, 12, 4, 8] [12, 16, 4, 8] 13 17 :=
  wr_type (by omega) ([numQ 1 1 (choiceOf k2.kind).toNat, kidQ 2 P2 s2 Q2] ++ [listQ 3 ps]) (by simp)
    (good_base (l := [(1, 1), (2, 4), (3, 4)]) (by decide) (by decide) rfl (by
      simp only [List.cons_append, List.nil_append, List.forall_mem_cons]
      exact ⟨SOk.num (ch_lt _), SOk.kid h2.part, SOk.list hl.lt hl.ok, by simp⟩)) fun M N a c W out hM hv hN ho =>
    exprSlots M base out N t m u k2 rest a c _ (by simp) ps W hM hN ho hv (hl.kids M N) (fun W' a' l' c' hb hn => (either_wr h2 n2 1 (by decide) hM hN ho W' a' l' c' hb hn).mono fun e w h => h.maybe (by simp))

end

end Go.Proofs.YtgceklahjdbipaaGreatDoor
