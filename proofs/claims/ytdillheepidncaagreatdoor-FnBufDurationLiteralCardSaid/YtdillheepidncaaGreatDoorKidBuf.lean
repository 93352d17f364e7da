/- Buffers of nodes of one node. -/
import Derived.Test.YtdillheepidncaaGreatDoorBufLeaf
import Derived.Test.YtdillheepidncaaGreatDoorMakerAll
namespace Go.Proofs.YtdillheepidncaaGreatDoor
open Go Go.RowKit
set_option linter.unusedVariables false
set_option linter.unusedSimpArgs false

theorem PartOk.imp {P : List UInt8 → List UInt8 × Nat} {sz sz' : Nat} {Q Q' : List UInt8 → Nat → Prop} (h : PartOk P sz Q) (hs : sz ≤ sz') (hq : ∀ l p, Q l p → Q' l p) : PartOk P sz' Q' := fun l hl => by
  obtain ⟨h1, h2, h3, h4, h5, h6⟩ := h l (by omega)
  exact ⟨h1, by omega, h3, h4, h5, fun l' a b => hq _ _ (h6 l' a b)⟩

/-- The slots of a node of one text. -/
def textFs (base : Bool) (x : ByteArray) : List SlotQ := if base then [textQ 1 x, baseQ] else [textQ 1 x]

theorem textFs_part (base : Bool) (x : ByteArray) (hx : x.size ≤ 300) : PartOk (tableB ((textFs base x).map SlotQ.s)) 1000 (LeafText x) := by
  have hz1 : szSum [textQ 1 x] = x.size + 9 + 0 := rfl
  have hz2 : szSum [textQ 1 x, baseQ] = x.size + 9 + (64 + 0) := rfl
  cases base with
  | false =>
    refine PartOk.imp (good_text1 x (by omega)).part (by show 12 + 2 * 2 + 8 + szSum [textQ 1 x] ≤ 1000; rw [hz1]; omega) fun bs q h => ⟨8, 0, 4, leafQ_plain h (by decide) (by decide) (by decide), textRef_of h (by simp)⟩
  | true =>
    refine PartOk.imp (good_text2 x (by omega)).part (by show 12 + 2 * 2 + 12 + szSum [textQ 1 x, baseQ] ≤ 1000; rw [hz2]; omega) fun bs q h => ⟨12, 8, 4, leafQ_base h (by decide) (by decide) (by decide) (by decide) (by decide), textRef_of h (by simp)⟩

theorem text_writes (base : Bool) (k : Nat) (hk : k = 33 ∨ k = 34) (x : ByteArray) (hx : x.size ≤ 300) (M N : Nat) (v : Value) : NodeWrites M base N (.mk k x ⟨#[]⟩ 0 []) v (tableB ((textFs base x).map SlotQ.s)) 1000 := by
  intro W out hM hv _ _ hsz
  obtain ⟨k', x', m', n', ks', a, c, e, rfl⟩ := hv.form
  injection e with e1 e2 e3 e4 e5
  subst e1 e2 e3 e4 e5
  have hz1 : szSum [textQ 1 x] = x.size + 9 + 0 := rfl
  have hz2 : szSum [textQ 1 x, baseQ] = x.size + 9 + (64 + 0) := rfl
  have hs : ∀ W', Mk M base out W' → Calls Tryz.prog 57 #[.pointer (some ⟨M, 0, none⟩), .agg #[.int .i64 k, .string x, .string ⟨#[]⟩, .int .u64 0, .slice a 0 c]] W' (OneSlot M base (textQ 1 x) W') := fun W' h' =>
    slots_lit M base out (textQ 1 x) k (by omega) x ⟨#[]⟩ 0 _ ⟨a, 0, c, rfl⟩ W' h' (fun W2 h2 => literal_text M base out k (by omega) x ⟨#[]⟩ 0 _ ⟨a, 0, c, rfl⟩ (by omega) W2 h2)
  have hk40 : ((k : Int) == 40) = false := by rcases hk with rfl | rfl <;> rfl
  cases base with
  | false => exact node_plain M out (textQ 1 x) [0, 4] 8 (good_text1 x (by omega)) k x ⟨#[]⟩ 0 (.slice a 0 c) ⟨a, 0, c, rfl⟩ W hM hs (by rw [hz1]; simp; omega)
  | true => exact node_base M out (textQ 1 x) [8, 4] 12 (good_text2 x (by omega)) k hk40 x ⟨#[]⟩ 0 (.slice a 0 c) ⟨a, 0, c, rfl⟩ W hM hs (by rw [hz2]; simp; omega)

theorem kidRef_of {bs : List UInt8} {q size sz i : Nat} {places : List Nat} {fs : List SlotQ} {P : List UInt8 → List UInt8 × Nat} {S : List UInt8 → Nat → Prop} (h : TabQ size places fs bs q) (hm : kidQ i P sz S ∈ fs) : KidRef S bs (q + places.getD i 0) := by
  obtain ⟨z, z1, z2, z3, z4⟩ := (h.2.2.2.2.2 (kidQ i P sz S) hm).2 (by simp [kidQ])
  exact ⟨z, z2, z1, z3, z4⟩

theorem kid_part {i : Nat} {P : List UInt8 → List UInt8 × Nat} {sz : Nat} {S : List UInt8 → Nat → Prop} (hp : PartOk P sz S) (P' : List UInt8 → List UInt8 × Nat) (hP : (kidQ i P sz S).s.ref = some P') : (kidQ i P sz S).s.width = 4 ∧ PartOk P' (kidQ i P sz S).sz (kidQ i P sz S).Q := by
  obtain rfl : P = P' := by
    unfold kidQ at hP
    exact Option.some.inj hP
  exact ⟨rfl, hp⟩

theorem good_kid1 {P : List UInt8 → List UInt8 × Nat} {sz : Nat} {S : List UInt8 → Nat → Prop} (hp : PartOk P sz S) : TabGood [kidQ 1 P sz S] [0, 4] 8 :=
  ⟨by simp [layout, most1, placeOne, alignUp, kidQ], by simp [most1, kidQ], by decide, by decide, by decide, by decide, one_all (by show 4 ≤ 4; omega), one_all (by show 4 + 4 ≤ 8; omega), by simp, one_all (kid_part hp), one_all (by show 0 < 4 ∧ 4 ≤ 8; omega), one_all (by show 0 < 18446744073709551616; omega), by simp⟩
theorem good_kid2 {P : List UInt8 → List UInt8 × Nat} {sz : Nat} {S : List UInt8 → Nat → Prop} (hp : PartOk P sz S) : TabGood [kidQ 1 P sz S, baseQ] [8, 4] 12 :=
  ⟨by simp [layout, most1, placeOne, alignUp, kidQ, baseQ], by simp [most1, kidQ, baseQ], by decide, by decide, by decide, by decide, two_all (by show 4 ≤ 4; omega) (by show 4 ≤ 8; omega), two_all (by show 4 + 4 ≤ 12; omega) (by show 8 + 4 ≤ 12; omega), by
    simp only [List.map_cons, List.map_nil, List.pairwise_cons]
    refine ⟨fun b hb => ?_, ⟨fun b hb => by simp at hb, List.Pairwise.nil⟩⟩
    rw [List.mem_singleton] at hb; rw [hb]; left; show 4 + 4 ≤ 8; omega, two_all (kid_part hp) base_part, two_all (by show 0 < 4 ∧ 4 ≤ 8; omega) (by show 0 < 4 ∧ 4 ≤ 8; omega), two_all (by show 0 < 18446744073709551616; omega) (by show 0 < 18446744073709551616; omega), by simp⟩

/-- The buffer of a node of one node (NamedType, TvarType). -/
theorem buf_kid (base : Bool) (k : Nat) (hk : k = 45 ∨ k = 46) (t m : ByteArray) (u : Int) (kid : Tr) (a : Option Addr) (c N : Nat) (P : List UInt8 → List UInt8 × Nat) (sz : Nat) (hsz : sz ≤ 100000) (S : List UInt8 → Nat → Prop) (hp : PartOk P sz S) (w : World) (hN : N ≤ w.heap.size)
    (hv : NodeIn w (· < N) (.mk k t m u [kid]) (nodeU k t m u a 1 c)) (hw : ∀ M v, NodeWrites M base N kid v P sz) :
    Calls Tryz.prog 9 #[.agg #[.int .i64 k, .string t, .string m, .int .u64 u, .slice a 1 c], .bool base] w (LeafBuf (KidRef S) w) := by
  have hz1 : szSum [kidQ 1 P sz S] = sz + 0 := rfl
  have hz2 : szSum [kidQ 1 P sz S, baseQ] = sz + (64 + 0) := rfl
  have hk40 : ((k : Int) == 40) = false := by rcases hk with rfl | rfl <;> rfl
  have hs : ∀ M out W, Mk M base out W → Below w.heap.size w W → (∀ r, r < w.heap.size → MkOther M r W) → ∀ W', Mk M base out W' → Below W.heap.size W W' →
      Calls Tryz.prog 57 #[.pointer (some ⟨M, 0, none⟩), .agg #[.int .i64 k, .string t, .string m, .int .u64 u, .slice a 1 c]] W' (SlotsPost M base [kidQ 1 P sz S] W') := fun M out W hM hb ho W' hM' hb' =>
    slots_type M base out [kidQ 1 P sz S] k (by omega) t m u a 1 c W' hM' fun W2 hM2 hb2 => by
      have hbb : Below W.heap.size W W2 := hb'.trans (hb2.mono hb'.size)
      have hb3 : Below w.heap.size w W2 := hb.trans (hbb.mono hb.size)
      exact typeSlots_kid M base out N k (by omega) t m u kid a c P sz S W2 hM2 (Nat.le_trans hN hb3.size) (fun r hr => (ho r (Nat.lt_of_lt_of_le hr hN)).below hM.lt hbb) (hv.keep (Keep.of_below hb3 hN)) (fun v => hw M v)
  cases base with
  | false =>
    refine leaf_buf false [kidQ 1 P sz S] 0 4 8 (KidRef S) (good_kid1 hp) (by rw [hz1]; omega) (fun bs q h => ⟨leafQ_plain h (by decide) (by decide) (by decide), kidRef_of (i := 1) (P := P) (sz := sz) h (by simp)⟩) k t m u (.slice a 1 c) ⟨a, 1, c, rfl⟩ w (fun M W hM hb ho => ?_)
    exact node_many M _ [kidQ 1 P sz S] (by simp) [0, 4] 8 (good_kid1 hp) k t m u (.slice a 1 c) ⟨a, 1, c, rfl⟩ W hM (hs M _ W hM hb ho) (by rw [hz1]; simp; omega)
  | true =>
    refine leaf_buf true [kidQ 1 P sz S, baseQ] 8 4 12 (KidRef S) (good_kid2 hp) (by rw [hz2]; omega) (fun bs q h => ⟨leafQ_base h (by decide) (by decide) (by decide) (by decide) (by decide), kidRef_of (i := 1) (P := P) (sz := sz) h (by simp)⟩) k t m u (.slice a 1 c) ⟨a, 1, c, rfl⟩ w (fun M W hM hb ho => ?_)
    exact node_many_base M _ [kidQ 1 P sz S] [8, 4] 12 (good_kid2 hp) k hk40 t m u (.slice a 1 c) ⟨a, 1, c, rfl⟩ W hM (hs M _ W hM hb ho) (by show _ + (12 + 2 * 2 + 12 + szSum [kidQ 1 P sz S, baseQ]) < _; rw [hz2]; simp; omega)

end Go.Proofs.YtdillheepidncaaGreatDoor
