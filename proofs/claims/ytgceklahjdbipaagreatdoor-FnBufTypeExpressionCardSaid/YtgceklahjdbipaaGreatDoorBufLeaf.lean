/- impl: what all readings of buffers share: the deferred call, the copy of the bytes, the results. The law's side: what is asked of leaves, and their buffers. Buffers of nodes of one node. -/
import Derived.Test.YtgceklahjdbipaaGreatDoorFromLeaf
import Derived.Test.YtgceklahjdbipaaGreatDoorNodeLeaf
import Derived.Test.YtgceklahjdbipaaGreatDoorMakerAll
import Derived.Test.YtgceklahjdbipaaGreatDoorFits
import Derived.Test.YtgceklahjdbipaaGreatDoorSame
import Derived.Defers
import Derived.Recover
namespace Go.Proofs.YtgceklahjdbipaaGreatDoor
open Go Go.RowKit
set_option linter.unusedVariables false
set_option linter.unusedSimpArgs false

theorem noNode_idle (p q : Option Addr) (w : World) :
    CallsD Tryz.prog 18 #[.pointer p, .pointer q] .returning w fun e u' w' => e = .returned (.tuple #[]) ∧ u' = .returning ∧ w' = w := by
  refine callsD_of_wpS Tryz.func18 rfl fun c₀ cs hu => ?_
  apply wpS_seq
  apply wpS_region
  simp [wpOpsS, go_sem, recoverD, hu, Tryz.ntmps18, Exit.thenS]
  refine wpS_cond (t := false) (by simp [Act.eval, Array.replicate]) ?_
  simp only [Bool.false_eq_true, if_false]
  refine wpS_of_wp (wp_skip ?_)
  cases c₀
  simp_all [bodyPostS, results, Tryz.results18]

theorem row_bytes {w : World} {g : Nat} {bs : List UInt8} (h : RowIn w g bs) : BytesIn w ⟨g, 0, none⟩ bs := fun j u hu => by
  unfold Lib.byteCells at hu
  rw [List.getElem?_map] at hu
  obtain ⟨x, hx, rfl⟩ := Option.map_eq_some_iff.1 hu
  obtain ⟨hj, hx2⟩ := List.getElem?_eq_some_iff.1 hx
  have h1 := h j hj
  rw [show (⟨g, 0, none⟩ : Addr).add j = ⟨g, j, none⟩ by unfold Addr.add; split <;> simp_all, h1]
  unfold gB
  simp [List.getD, hx]

theorem bytes_row {w : World} {g : Nat} {bs : List UInt8} (h : BytesIn w ⟨g, 0, none⟩ bs) : RowIn w g bs := fun i hi => by
  have h1 := h i (.int .u8 ((gB bs i).toNat : Int)) (by unfold Lib.byteCells gB; simp [List.getD, hi])
  rwa [show (⟨g, 0, none⟩ : Addr).add i = ⟨g, 0 + i, none⟩ by unfold Addr.add; split <;> simp_all, Nat.zero_add] at h1

theorem row_form {w : World} {base : Nat} {e : TypeId} {v : Value} {n : Nat} {xs : List Value} (h : w.ownsRow base e 1 v n xs) (hn : 0 < n) : ∃ g c, v = .slice (some ⟨g, 0, none⟩) n c ∧ base ≤ g ∧ n ≤ c ∧ g < w.heap.size := by
  rcases h.2 with ⟨rfl, h0⟩ | ⟨g, cap, cur, rfl, hb, hg, hnc, _⟩
  · omega
  · exact ⟨g, cap, rfl, hb, hnc, (Array.getElem?_eq_some_iff.1 hg).1⟩

theorem impl_end {w w8 : World} {x0 x1 x2 x3 x4 x5 : Value} {T T2 : TypeId} (hb : Below w.heap.size w w8) (hn : w8.heap[w.heap.size]? = some (.cells #[x0, x1, x2, x3, x4] T (0, 0))) (hm : w8.heap[w.heap.size + 1]? = some (.cells #[x5] T2 (0, 0))) (v0 v1 v2 v3 v4 v5 : Value) :
    ((((((w8.setCell ⟨w.heap.size, 0, none⟩ v0).setCell ⟨w.heap.size, 1, none⟩ v1).setCell ⟨w.heap.size, 2, none⟩ v2).setCell ⟨w.heap.size, 3, none⟩ v3).setCell ⟨w.heap.size, 4, none⟩ v4).setCell ⟨w.heap.size + 1, 0, none⟩ v5).heap[w.heap.size]? = some (.cells #[v0, v1, v2, v3, v4] T (0, 0)) ∧
    ((((((w8.setCell ⟨w.heap.size, 0, none⟩ v0).setCell ⟨w.heap.size, 1, none⟩ v1).setCell ⟨w.heap.size, 2, none⟩ v2).setCell ⟨w.heap.size, 3, none⟩ v3).setCell ⟨w.heap.size, 4, none⟩ v4).setCell ⟨w.heap.size + 1, 0, none⟩ v5).heap[w.heap.size + 1]? = some (.cells #[v5] T2 (0, 0)) ∧
    Below w.heap.size w ((((((w8.setCell ⟨w.heap.size, 0, none⟩ v0).setCell ⟨w.heap.size, 1, none⟩ v1).setCell ⟨w.heap.size, 2, none⟩ v2).setCell ⟨w.heap.size, 3, none⟩ v3).setCell ⟨w.heap.size, 4, none⟩ v4).setCell ⟨w.heap.size + 1, 0, none⟩ v5) := by
  refine ⟨?_, ?_, ?_⟩
  · exact (Below.heap_setCell _ _ _ _ (by show w.heap.size ≠ w.heap.size + 1; omega)).trans (row_setG (row_setG (row_setG (row_setG (row_setG hn 0 v0) 1 v1) 2 v2) 3 v3) 4 v4)
  · refine row_setG (cur := #[x5]) ?_ 0 v5
    rw [Below.heap_setCell _ _ _ _ (by show w.heap.size + 1 ≠ w.heap.size; omega), Below.heap_setCell _ _ _ _ (by show w.heap.size + 1 ≠ w.heap.size; omega), Below.heap_setCell _ _ _ _ (by show w.heap.size + 1 ≠ w.heap.size; omega), Below.heap_setCell _ _ _ _ (by show w.heap.size + 1 ≠ w.heap.size; omega), Below.heap_setCell _ _ _ _ (by show w.heap.size + 1 ≠ w.heap.size; omega)]
    exact hm
  · exact (((((hb.setCell (p := ⟨w.heap.size, 0, none⟩) (Nat.le_refl _) v0).setCell (p := ⟨w.heap.size, 1, none⟩) (Nat.le_refl _) v1).setCell (p := ⟨w.heap.size, 2, none⟩) (Nat.le_refl _) v2).setCell (p := ⟨w.heap.size, 3, none⟩) (Nat.le_refl _) v3).setCell (p := ⟨w.heap.size, 4, none⟩) (Nat.le_refl _) v4).setCell (p := ⟨w.heap.size + 1, 0, none⟩) (Nat.le_succ _) v5

/-- A new empty row. -/
theorem own_empty (w : World) (T : TypeId) (n : Nat) (hn : n ≤ w.heap.size) : (w.alloc (.cells #[] T)).ownsRow n T 1 (.slice (some ⟨w.heap.size, 0, none⟩) 0 0) 0 [] :=
  ⟨by simp, .inr ⟨w.heap.size, 0, #[], rfl, hn, heap_alloc_new w _, Nat.le_refl _, Nat.zero_le _, rfl, rfl⟩⟩

/-- A buffer whose root is a node of one text or number. -/
def LeafBuf (S : List UInt8 → Nat → Prop) (w : World) (e : Ending) (w' : World) : Prop :=
  ∃ (g L c : Nat) (bs : List UInt8) (q size p0 p1 : Nat), e = .returned (.slice (some ⟨g, 0, none⟩) L c) ∧ RowAt g L c bs w' ∧ Below w.heap.size w w' ∧ rd bs 0 4 = q ∧ LeafQ bs q size p0 p1 ∧ S bs (q + p1)

theorem leaf_buf (base : Bool) (fs : List SlotQ) (p0 p1 size : Nat) (S : List UInt8 → Nat → Prop) (hg : TabGood fs [p0, p1] size) (hsz : 12 + 2 * 2 + size + szSum fs < 700000) (hfs : ∀ bs q, TabQ size [p0, p1] fs bs q → LeafQ bs q size p0 p1 ∧ S bs (q + p1))
    (k : Int) (t m : ByteArray) (u : Int) (kids : Value) (hkids : ∃ a n c, kids = .slice a n c) (w : World)
    (hn : ∀ M W, Mk M base (List.replicate 4 0) W → Below w.heap.size w W → (∀ r, r < w.heap.size → MkOther M r W) → Calls Tryz.prog 22 #[.pointer (some ⟨M, 0, none⟩), .agg #[.int .i64 k, .string t, .string m, .int .u64 u, kids]] W (AtPost M base (tableB (fs.map SlotQ.s) (List.replicate 4 0)).1 (tableB (fs.map SlotQ.s) (List.replicate 4 0)).2 W)) :
    Calls Tryz.prog 10 #[.agg #[.int .i64 k, .string t, .string m, .int .u64 u, kids], .bool base] w (LeafBuf S w) := by
  have hp := hg.part
  have hs2 : ([p0, p1] : List Nat).length = 2 := rfl
  rw [hs2] at hp
  refine (buffer_any base (tableB (fs.map SlotQ.s)) _ _ hp (by omega) k t m u kids hkids w hn).mono ?_
  rintro e w' ⟨g, c, rfl, hby, hb, hc, hgl⟩
  obtain ⟨hl, q, h1, h2, h3, h4⟩ := whole_ok _ _ _ hp (by omega)
  obtain ⟨hq, hs⟩ := hfs _ _ h4
  exact ⟨g, _, c, _, q, size, p0, p1, rfl, ⟨bytes_row hby, rfl, hc, by omega, hgl⟩, hb, h1, hq, hs⟩

theorem leafQ_plain {bs : List UInt8} {q size p1 : Nat} {fs : List SlotQ} (h : TabQ size [0, p1] fs bs q) (h4 : 4 ≤ size) (h1 : 0 < p1) (h2 : p1 < 60000) : LeafQ bs q size 0 p1 := ⟨h.vt, h4, h1, h2, .inl rfl⟩
theorem leafQ_base {bs : List UInt8} {q size p0 p1 : Nat} {x : SlotQ} (h : TabQ size [p0, p1] [x, baseQ] bs q) (h4 : 4 ≤ size) (h0 : 0 < p0) (h01 : p0 < 60000) (h1 : 0 < p1) (h2 : p1 < 60000) : LeafQ bs q size p0 p1 := by
  obtain ⟨z, z1, z2, z3, z4⟩ := (h.2.2.2.2.2 baseQ (by simp)).2 (by simp [baseQ])
  exact ⟨h.vt, h4, h1, h2, .inr ⟨h0, h01, z, z2, z1, z3, BaseQ2.of z4⟩⟩

theorem textRef_of {bs : List UInt8} {q size p0 p1 : Nat} {fs : List SlotQ} {t : ByteArray} (h : TabQ size [p0, p1] fs bs q) (hm : textQ 1 t ∈ fs) : TextRef t bs (q + p1) := by
  obtain ⟨z, z1, z2, z3, z4⟩ := (h.2.2.2.2.2 (textQ 1 t) hm).2 (by simp [textQ])
  exact ⟨z, z2, z1, z4⟩
theorem numRef_of {bs : List UInt8} {q size p0 p1 : Nat} {fs : List SlotQ} {u : Nat} (hu : u < 18446744073709551616) (h : TabQ size [p0, p1] fs bs q) (hm : numQ 1 8 u ∈ fs) (hf : p1 + 8 ≤ size) : rd bs (q + p1) 8 = u ∧ q + p1 + 8 ≤ bs.length := by
  have h1 := (h.2.2.2.2.2 (numQ 1 8 u) hm).1 rfl
  have h2 : rd bs (q + p1) 8 = u % 256 ^ 8 := h1
  have h3 := h.2.2.2.2.1
  rw [Nat.mod_eq_of_lt (by omega)] at h2
  exact ⟨h2, by omega⟩

/-- The slots of a node are one. -/
def SlotsAre (base : Bool) (k : Int) (t m : ByteArray) (u : Int) (kids : Value) (q : SlotQ) : Prop :=
  ∀ M W, Mk M base (List.replicate 4 0) W → Calls Tryz.prog 65 #[.pointer (some ⟨M, 0, none⟩), .agg #[.int .i64 k, .string t, .string m, .int .u64 u, kids]] W (OneSlot M base q W)

theorem buf_text (base : Bool) (k : Int) (hk40 : (k == 40) = false) (t m : ByteArray) (ht : t.size ≤ 300) (u : Int) (kids : Value) (hkids : ∃ a n c, kids = .slice a n c) (w : World) (hs : SlotsAre base k t m u kids (textQ 1 t)) :
    Calls Tryz.prog 10 #[.agg #[.int .i64 k, .string t, .string m, .int .u64 u, kids], .bool base] w (LeafBuf (TextRef t) w) := by
  have hz1 : szSum [textQ 1 t] = t.size + 9 + 0 := rfl
  have hz2 : szSum [textQ 1 t, baseQ] = t.size + 9 + (64 + 0) := rfl
  cases base with
  | false =>
    refine leaf_buf false [textQ 1 t] 0 4 8 (TextRef t) (good_text1 t (by omega)) (by rw [hz1]; omega) (fun bs q h => ⟨leafQ_plain h (by decide) (by decide) (by decide), textRef_of h (by simp)⟩) k t m u kids hkids w (fun M W hM _ _ => ?_)
    exact node_plain M _ (textQ 1 t) [0, 4] 8 (good_text1 t (by omega)) k t m u kids hkids W hM (fun W' h => hs M W' h) (by rw [hz1]; simp; omega)
  | true =>
    refine leaf_buf true [textQ 1 t, baseQ] 8 4 12 (TextRef t) (good_text2 t (by omega)) (by rw [hz2]; omega) (fun bs q h => ⟨leafQ_base h (by decide) (by decide) (by decide) (by decide) (by decide), textRef_of h (by simp)⟩) k t m u kids hkids w (fun M W hM _ _ => ?_)
    exact node_base M _ (textQ 1 t) [8, 4] 12 (good_text2 t (by omega)) k hk40 t m u kids hkids W hM (fun W' h => hs M W' h) (by rw [hz2]; simp; omega)

theorem buf_num (base : Bool) (k : Int) (hk40 : (k == 40) = false) (t m : ByteArray) (n : Nat) (hn : n < 18446744073709551616) (u : Int) (kids : Value) (hkids : ∃ a n c, kids = .slice a n c) (w : World) (hs : SlotsAre base k t m u kids (numQ 1 8 n)) :
    Calls Tryz.prog 10 #[.agg #[.int .i64 k, .string t, .string m, .int .u64 u, kids], .bool base] w (LeafBuf (fun bs p => rd bs p 8 = n ∧ p + 8 ≤ bs.length) w) := by
  have hz1 : szSum [numQ 1 8 n] = 0 + 0 := rfl
  have hz2 : szSum [numQ 1 8 n, baseQ] = 0 + (64 + 0) := rfl
  cases base with
  | false =>
    refine leaf_buf false [numQ 1 8 n] 0 8 16 _ (good_num1 n hn) (by rw [hz1]; omega) (fun bs q h => ⟨leafQ_plain h (by decide) (by decide) (by decide), numRef_of hn h (by simp) (by decide)⟩) k t m u kids hkids w (fun M W hM _ _ => ?_)
    exact node_plain M _ (numQ 1 8 n) [0, 8] 16 (good_num1 n hn) k t m u kids hkids W hM (fun W' h => hs M W' h) (by rw [hz1]; simp)
  | true =>
    refine leaf_buf true [numQ 1 8 n, baseQ] 16 8 20 _ (good_num2 n hn) (by rw [hz2]; omega) (fun bs q h => ⟨leafQ_base h (by decide) (by decide) (by decide) (by decide) (by decide), numRef_of hn h (by simp) (by decide)⟩) k t m u kids hkids w (fun M W hM _ _ => ?_)
    exact node_base M _ (numQ 1 8 n) [16, 8] 20 (good_num2 n hn) k hk40 t m u kids hkids W hM (fun W' h => hs M W' h) (by rw [hz2]; simp)

theorem PartOk.imp {P : List UInt8 → List UInt8 × Nat} {sz sz' : Nat} {Q Q' : List UInt8 → Nat → Prop} (h : PartOk P sz Q) (hs : sz ≤ sz') (hq : ∀ l p, Q l p → Q' l p) : PartOk P sz' Q' := fun l hl => by
  obtain ⟨h1, h2, h3, h4, h5, h6⟩ := h l (by omega)
  exact ⟨h1, by omega, h3, h4, h5, fun l' a b => hq _ _ (h6 l' a b)⟩

/-- The slots of a node of one text. -/
def textFs (base : Bool) (x : ByteArray) : List SlotQ := if base then [textQ 1 x, baseQ] else [textQ 1 x]

theorem textFs_part (base : Bool) (x : ByteArray) (hx : x.size ≤ 300) : PartOk (tableB ((textFs base x).map SlotQ.s)) 1000 (LeafText x) := by
  have hz1 : szSum [textQ 1 x] = x.size + 9 + 0 := rfl
  have hz2 : szSum [textQ 1 x, baseQ] = x.size + 9 + (64 + 0) := rfl
  cases base with
  | false =>
    refine PartOk.imp (good_text1 x (by omega)).part (by show 12 + 2 * 2 + 8 + szSum [textQ 1 x] ≤ 1000; rw [hz1]; omega) fun bs q h => ⟨8, 0, 4, leafQ_plain h (by decide) (by decide) (by decide), textRef_of h (by simp)⟩
  | true =>
    refine PartOk.imp (good_text2 x (by omega)).part (by show 12 + 2 * 2 + 12 + szSum [textQ 1 x, baseQ] ≤ 1000; rw [hz2]; omega) fun bs q h => ⟨12, 8, 4, leafQ_base h (by decide) (by decide) (by decide) (by decide) (by decide), textRef_of h (by simp)⟩

theorem text_writes (base : Bool) (k : Nat) (hk : k = 33 ∨ k = 34) (x : ByteArray) (hx : x.size ≤ 300) (M N : Nat) (v : Value) : NodeWrites M base N (.mk k x ⟨#[]⟩ 0 []) v (tableB ((textFs base x).map SlotQ.s)) 1000 := by
  intro W out hM hv _ _ hsz
  obtain ⟨k', x', m', n', ks', a, c, e, rfl⟩ := hv.form
  injection e with e1 e2 e3 e4 e5
  subst e1 e2 e3 e4 e5
  have hz1 : szSum [textQ 1 x] = x.size + 9 + 0 := rfl
  have hz2 : szSum [textQ 1 x, baseQ] = x.size + 9 + (64 + 0) := rfl
  have hs : ∀ W', Mk M base out W' → Calls Tryz.prog 65 #[.pointer (some ⟨M, 0, none⟩), .agg #[.int .i64 k, .string x, .string ⟨#[]⟩, .int .u64 0, .slice a 0 c]] W' (OneSlot M base (textQ 1 x) W') := fun W' h' =>
    slots_lit M base out (textQ 1 x) k (by omega) x ⟨#[]⟩ 0 _ ⟨a, 0, c, rfl⟩ W' h' (fun W2 h2 => literal_text M base out k (by omega) x ⟨#[]⟩ 0 _ ⟨a, 0, c, rfl⟩ (by omega) W2 h2)
  have hk40 : ((k : Int) == 40) = false := by rcases hk with rfl | rfl <;> rfl
  cases base with
  | false => exact node_plain M out (textQ 1 x) [0, 4] 8 (good_text1 x (by omega)) k x ⟨#[]⟩ 0 (.slice a 0 c) ⟨a, 0, c, rfl⟩ W hM hs (by rw [hz1]; simp; omega)
  | true => exact node_base M out (textQ 1 x) [8, 4] 12 (good_text2 x (by omega)) k hk40 x ⟨#[]⟩ 0 (.slice a 0 c) ⟨a, 0, c, rfl⟩ W hM hs (by rw [hz2]; simp; omega)

theorem kidRef_of {bs : List UInt8} {q size sz i : Nat} {places : List Nat} {fs : List SlotQ} {P : List UInt8 → List UInt8 × Nat} {S : List UInt8 → Nat → Prop} (h : TabQ size places fs bs q) (hm : kidQ i P sz S ∈ fs) : KidRef S bs (q + places.getD i 0) := by
  obtain ⟨z, z1, z2, z3, z4⟩ := (h.2.2.2.2.2 (kidQ i P sz S) hm).2 (by simp [kidQ])
  exact ⟨z, z2, z1, z3, z4⟩

theorem kid_part {i : Nat} {P : List UInt8 → List UInt8 × Nat} {sz : Nat} {S : List UInt8 → Nat → Prop} (hp : PartOk P sz S) (P' : List UInt8 → List UInt8 × Nat) (hP : (kidQ i P sz S).s.ref = some P') : (kidQ i P sz S).s.width = 4 ∧ PartOk P' (kidQ i P sz S).sz (kidQ i P sz S).Q := by
  obtain rfl : P = P' := by
    unfold kidQ at hP
    exact Option.some.inj hP
  exact ⟨rfl, hp⟩

theorem good_kid1 {P : List UInt8 → List UInt8 × Nat} {sz : Nat} {S : List UInt8 → Nat → Prop} (hp : PartOk P sz S) : TabGood [kidQ 1 P sz S] [0, 4] 8 :=
  ⟨by simp [layout, most1, placeOne, alignUp, kidQ], by simp [most1, kidQ], by decide, by decide, by decide, by decide, one_all (by show 4 ≤ 4; omega), one_all (by show 4 + 4 ≤ 8; omega), by simp, one_all (kid_part hp), one_all (by show 0 < 4 ∧ 4 ≤ 8; omega), one_all (by show 0 < 18446744073709551616; omega), by simp⟩
theorem good_kid2 {P : List UInt8 → List UInt8 × Nat} {sz : Nat} {S : List UInt8 → Nat → Prop} (hp : PartOk P sz S) : TabGood [kidQ 1 P sz S, baseQ] [8, 4] 12 :=
  ⟨by simp [layout, most1, placeOne, alignUp, kidQ, baseQ], by simp [most1, kidQ, baseQ], by decide, by decide, by decide, by decide, two_all (by show 4 ≤ 4; omega) (by show 4 ≤ 8; omega), two_all (by show 4 + 4 ≤ 12; omega) (by show 8 + 4 ≤ 12; omega), by
    simp only [List.map_cons, List.map_nil, List.pairwise_cons]
    refine ⟨fun b hb => ?_, ⟨fun b hb => by simp at hb, List.Pairwise.nil⟩⟩
    rw [List.mem_singleton] at hb; rw [hb]; left; show 4 + 4 ≤ 8; omega, two_all (kid_part hp) base_part, two_all (by show 0 < 4 ∧ 4 ≤ 8; omega) (by show 0 < 4 ∧ 4 ≤ 8; omega), two_all (by show 0 < 18446744073709551616; omega) (by show 0 < 18446744073709551616; omega), by simp⟩

/-- The buffer of a node of one node (NamedType, TvarType). -/
theorem buf_kid (base : Bool) (k : Nat) (hk : k = 45 ∨ k = 46) (t m : ByteArray) (u : Int) (kid : Tr) (a : Option Addr) (c N : Nat) (P : List UInt8 → List UInt8 × Nat) (sz : Nat) (hsz : sz ≤ 100000) (S : List UInt8 → Nat → Prop) (hp : PartOk P sz S) (w : World) (hN : N ≤ w.heap.size)
    (hv : NodeIn w (· < N) (.mk k t m u [kid]) (nodeU k t m u a 1 c)) (hw : ∀ M v, NodeWrites M base N kid v P sz) :
    Calls Tryz.prog 10 #[.agg #[.int .i64 k, .string t, .string m, .int .u64 u, .slice a 1 c], .bool base] w (LeafBuf (KidRef S) w) := by
  have hz1 : szSum [kidQ 1 P sz S] = sz + 0 := rfl
  have hz2 : szSum [kidQ 1 P sz S, baseQ] = sz + (64 + 0) := rfl
  have hk40 : ((k : Int) == 40) = false := by rcases hk with rfl | rfl <;> rfl
  have hs : ∀ M out W, Mk M base out W → Below w.heap.size w W → (∀ r, r < w.heap.size → MkOther M r W) → ∀ W', Mk M base out W' → Below W.heap.size W W' →
      Calls Tryz.prog 65 #[.pointer (some ⟨M, 0, none⟩), .agg #[.int .i64 k, .string t, .string m, .int .u64 u, .slice a 1 c]] W' (SlotsPost M base [kidQ 1 P sz S] W') := fun M out W hM hb ho W' hM' hb' =>
    slots_type M base out [kidQ 1 P sz S] k (by omega) t m u a 1 c W' hM' fun W2 hM2 hb2 => by
      have hbb : Below W.heap.size W W2 := hb'.trans (hb2.mono hb'.size)
      have hb3 : Below w.heap.size w W2 := hb.trans (hbb.mono hb.size)
      exact typeSlots_kid M base out N k (by omega) t m u kid a c P sz S W2 hM2 (Nat.le_trans hN hb3.size) (fun r hr => (ho r (Nat.lt_of_lt_of_le hr hN)).below hM.lt hbb) (hv.keep (Keep.of_below hb3 hN)) (fun v => hw M v)
  cases base with
  | false =>
    refine leaf_buf false [kidQ 1 P sz S] 0 4 8 (KidRef S) (good_kid1 hp) (by rw [hz1]; omega) (fun bs q h => ⟨leafQ_plain h (by decide) (by decide) (by decide), kidRef_of (i := 1) (P := P) (sz := sz) h (by simp)⟩) k t m u (.slice a 1 c) ⟨a, 1, c, rfl⟩ w (fun M W hM hb ho => ?_)
    exact node_many M _ [kidQ 1 P sz S] (by simp) [0, 4] 8 (good_kid1 hp) k t m u (.slice a 1 c) ⟨a, 1, c, rfl⟩ W hM (hs M _ W hM hb ho) (by rw [hz1]; simp; omega)
  | true =>
    refine leaf_buf true [kidQ 1 P sz S, baseQ] 8 4 12 (KidRef S) (good_kid2 hp) (by rw [hz2]; omega) (fun bs q h => ⟨leafQ_base h (by decide) (by decide) (by decide) (by decide) (by decide), kidRef_of (i := 1) (P := P) (sz := sz) h (by simp)⟩) k t m u (.slice a 1 c) ⟨a, 1, c, rfl⟩ w (fun M W hM hb ho => ?_)
    exact node_many_base M _ [kidQ 1 P sz S] [8, 4] 12 (good_kid2 hp) k hk40 t m u (.slice a 1 c) ⟨a, 1, c, rfl⟩ W hM (hs M _ W hM hb ho) (by show _ + (12 + 2 * 2 + 12 + szSum [kidQ 1 P sz S, baseQ]) < _; rw [hz2]; simp; omega)

end Go.Proofs.YtgceklahjdbipaaGreatDoor
