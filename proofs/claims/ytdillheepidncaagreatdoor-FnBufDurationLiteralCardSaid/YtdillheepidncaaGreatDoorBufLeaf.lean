/- The law's side: what is asked of leaves, and their buffers. -/
import Derived.Test.YtdillheepidncaaGreatDoorBufEnd
import Derived.Test.YtdillheepidncaaGreatDoorFits
import Derived.Test.YtdillheepidncaaGreatDoorSame
namespace Go.Proofs.YtdillheepidncaaGreatDoor
open Go Go.RowKit
set_option linter.unusedVariables false
set_option linter.unusedSimpArgs false

/-- A buffer whose root is a node of one text or number. -/
def LeafBuf (S : List UInt8 → Nat → Prop) (w : World) (e : Ending) (w' : World) : Prop :=
  ∃ (g L c : Nat) (bs : List UInt8) (q size p0 p1 : Nat), e = .returned (.slice (some ⟨g, 0, none⟩) L c) ∧ RowAt g L c bs w' ∧ Below w.heap.size w w' ∧ rd bs 0 4 = q ∧ LeafQ bs q size p0 p1 ∧ S bs (q + p1)

theorem leaf_buf (base : Bool) (fs : List SlotQ) (p0 p1 size : Nat) (S : List UInt8 → Nat → Prop) (hg : TabGood fs [p0, p1] size) (hsz : 12 + 2 * 2 + size + szSum fs < 700000) (hfs : ∀ bs q, TabQ size [p0, p1] fs bs q → LeafQ bs q size p0 p1 ∧ S bs (q + p1))
    (k : Int) (t m : ByteArray) (u : Int) (kids : Value) (hkids : ∃ a n c, kids = .slice a n c) (w : World)
    (hn : ∀ M W, Mk M base (List.replicate 4 0) W → Below w.heap.size w W → (∀ r, r < w.heap.size → MkOther M r W) → Calls Tryz.prog 20 #[.pointer (some ⟨M, 0, none⟩), .agg #[.int .i64 k, .string t, .string m, .int .u64 u, kids]] W (AtPost M base (tableB (fs.map SlotQ.s) (List.replicate 4 0)).1 (tableB (fs.map SlotQ.s) (List.replicate 4 0)).2 W)) :
    Calls Tryz.prog 9 #[.agg #[.int .i64 k, .string t, .string m, .int .u64 u, kids], .bool base] w (LeafBuf S w) := by
  have hp := hg.part
  have hs2 : ([p0, p1] : List Nat).length = 2 := rfl
  rw [hs2] at hp
  refine (buffer_any base (tableB (fs.map SlotQ.s)) _ _ hp (by omega) k t m u kids hkids w hn).mono ?_
  rintro e w' ⟨g, c, rfl, hby, hb, hc, hgl⟩
  obtain ⟨hl, q, h1, h2, h3, h4⟩ := whole_ok _ _ _ hp (by omega)
  obtain ⟨hq, hs⟩ := hfs _ _ h4
  exact ⟨g, _, c, _, q, size, p0, p1, rfl, ⟨bytes_row hby, rfl, hc, by omega, hgl⟩, hb, h1, hq, hs⟩

theorem leafQ_plain {bs : List UInt8} {q size p1 : Nat} {fs : List SlotQ} (h : TabQ size [0, p1] fs bs q) (h4 : 4 ≤ size) (h1 : 0 < p1) (h2 : p1 < 60000) : LeafQ bs q size 0 p1 := ⟨h.vt, h4, h1, h2, .inl rfl⟩
theorem leafQ_base {bs : List UInt8} {q size p0 p1 : Nat} {x : SlotQ} (h : TabQ size [p0, p1] [x, baseQ] bs q) (h4 : 4 ≤ size) (h0 : 0 < p0) (h01 : p0 < 60000) (h1 : 0 < p1) (h2 : p1 < 60000) : LeafQ bs q size p0 p1 := by
  obtain ⟨z, z1, z2, z3, z4⟩ := (h.2.2.2.2.2 baseQ (by simp)).2 (by simp [baseQ])
  exact ⟨h.vt, h4, h1, h2, .inr ⟨h0, h01, z, z2, z1, z3, BaseQ2.of z4⟩⟩

theorem textRef_of {bs : List UInt8} {q size p0 p1 : Nat} {fs : List SlotQ} {t : ByteArray} (h : TabQ size [p0, p1] fs bs q) (hm : textQ 1 t ∈ fs) : TextRef t bs (q + p1) := by
  obtain ⟨z, z1, z2, z3, z4⟩ := (h.2.2.2.2.2 (textQ 1 t) hm).2 (by simp [textQ])
  exact ⟨z, z2, z1, z4⟩
theorem numRef_of {bs : List UInt8} {q size p0 p1 : Nat} {fs : List SlotQ} {u : Nat} (hu : u < 18446744073709551616) (h : TabQ size [p0, p1] fs bs q) (hm : numQ 1 8 u ∈ fs) (hf : p1 + 8 ≤ size) : rd bs (q + p1) 8 = u ∧ q + p1 + 8 ≤ bs.length := by
  have h1 := (h.2.2.2.2.2 (numQ 1 8 u) hm).1 rfl
  have h2 : rd bs (q + p1) 8 = u % 256 ^ 8 := h1
  have h3 := h.2.2.2.2.1
  rw [Nat.mod_eq_of_lt (by omega)] at h2
  exact ⟨h2, by omega⟩

/-- The slots of a node are one. -/
def SlotsAre (base : Bool) (k : Int) (t m : ByteArray) (u : Int) (kids : Value) (q : SlotQ) : Prop :=
  ∀ M W, Mk M base (List.replicate 4 0) W → Calls Tryz.prog 57 #[.pointer (some ⟨M, 0, none⟩), .agg #[.int .i64 k, .string t, .string m, .int .u64 u, kids]] W (OneSlot M base q W)

theorem buf_text (base : Bool) (k : Int) (hk40 : (k == 40) = false) (t m : ByteArray) (ht : t.size ≤ 300) (u : Int) (kids : Value) (hkids : ∃ a n c, kids = .slice a n c) (w : World) (hs : SlotsAre base k t m u kids (textQ 1 t)) :
    Calls Tryz.prog 9 #[.agg #[.int .i64 k, .string t, .string m, .int .u64 u, kids], .bool base] w (LeafBuf (TextRef t) w) := by
  have hz1 : szSum [textQ 1 t] = t.size + 9 + 0 := rfl
  have hz2 : szSum [textQ 1 t, baseQ] = t.size + 9 + (64 + 0) := rfl
  cases base with
  | false =>
    refine leaf_buf false [textQ 1 t] 0 4 8 (TextRef t) (good_text1 t (by omega)) (by rw [hz1]; omega) (fun bs q h => ⟨leafQ_plain h (by decide) (by decide) (by decide), textRef_of h (by simp)⟩) k t m u kids hkids w (fun M W hM _ _ => ?_)
    exact node_plain M _ (textQ 1 t) [0, 4] 8 (good_text1 t (by omega)) k t m u kids hkids W hM (fun W' h => hs M W' h) (by rw [hz1]; simp; omega)
  | true =>
    refine leaf_buf true [textQ 1 t, baseQ] 8 4 12 (TextRef t) (good_text2 t (by omega)) (by rw [hz2]; omega) (fun bs q h => ⟨leafQ_base h (by decide) (by decide) (by decide) (by decide) (by decide), textRef_of h (by simp)⟩) k t m u kids hkids w (fun M W hM _ _ => ?_)
    exact node_base M _ (textQ 1 t) [8, 4] 12 (good_text2 t (by omega)) k hk40 t m u kids hkids W hM (fun W' h => hs M W' h) (by rw [hz2]; simp; omega)

theorem buf_num (base : Bool) (k : Int) (hk40 : (k == 40) = false) (t m : ByteArray) (n : Nat) (hn : n < 18446744073709551616) (u : Int) (kids : Value) (hkids : ∃ a n c, kids = .slice a n c) (w : World) (hs : SlotsAre base k t m u kids (numQ 1 8 n)) :
    Calls Tryz.prog 9 #[.agg #[.int .i64 k, .string t, .string m, .int .u64 u, kids], .bool base] w (LeafBuf (fun bs p => rd bs p 8 = n ∧ p + 8 ≤ bs.length) w) := by
  have hz1 : szSum [numQ 1 8 n] = 0 + 0 := rfl
  have hz2 : szSum [numQ 1 8 n, baseQ] = 0 + (64 + 0) := rfl
  cases base with
  | false =>
    refine leaf_buf false [numQ 1 8 n] 0 8 16 _ (good_num1 n hn) (by rw [hz1]; omega) (fun bs q h => ⟨leafQ_plain h (by decide) (by decide) (by decide), numRef_of hn h (by simp) (by decide)⟩) k t m u kids hkids w (fun M W hM _ _ => ?_)
    exact node_plain M _ (numQ 1 8 n) [0, 8] 16 (good_num1 n hn) k t m u kids hkids W hM (fun W' h => hs M W' h) (by rw [hz1]; simp)
  | true =>
    refine leaf_buf true [numQ 1 8 n, baseQ] 16 8 20 _ (good_num2 n hn) (by rw [hz2]; omega) (fun bs q h => ⟨leafQ_base h (by decide) (by decide) (by decide) (by decide) (by decide), numRef_of hn h (by simp) (by decide)⟩) k t m u kids hkids w (fun M W hM _ _ => ?_)
    exact node_base M _ (numQ 1 8 n) [16, 8] 20 (good_num2 n hn) k hk40 t m u kids hkids W hM (fun W' h => hs M W' h) (by rw [hz2]; simp)

end Go.Proofs.YtdillheepidncaaGreatDoor
