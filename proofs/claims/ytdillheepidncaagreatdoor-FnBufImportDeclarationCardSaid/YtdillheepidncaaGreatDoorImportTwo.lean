/- Buffers of imports with and without a name. -/
import Derived.Test.YtdillheepidncaaGreatDoorImportBuf
namespace Go.Proofs.YtdillheepidncaaGreatDoor
open Go Go.RowKit
set_option linter.unusedVariables false
set_option linter.unusedSimpArgs false

/-- What an import's table says. -/
def ImportT (x : Option ByteArray) (y : ByteArray) (bs : List UInt8) (q : Nat) : Prop :=
  ∃ size p0 p1 p2, NodeQ bs q size [p0, p1, p2] ∧ (match x with
    | none => p1 = 0
    | some x => 0 < p1 ∧ p1 < 60000 ∧ KidRef (LeafText x) bs (q + p1)) ∧ 0 < p2 ∧ p2 < 60000 ∧ KidRef (LeafText y) bs (q + p2)

theorem buf_import_none (base : Bool) (t m : ByteArray) (u : Int) (t1 m1 : ByteArray) (u1 : Nat) (y : ByteArray) (hy : y.size ≤ 300) (a : Option Addr) (c N : Nat) (w : World) (hN : N ≤ w.heap.size)
    (hv : NodeIn w (· < N) (.mk 5 t m u [.mk 0 t1 m1 u1 [], .mk 34 y ⟨#[]⟩ 0 []]) (nodeU 5 t m u a 2 c)) :
    Calls Tryz.prog 9 #[.agg #[.int .i64 5, .string t, .string m, .int .u64 u, .slice a 2 c], .bool base] w (NodeBuf (ImportT none y) w) := by
  have hp := textFs_part base y hy
  cases base with
  | false =>
    refine buf_import false t m u _ _ a c N [] (by simp) (tableB ((textFs false y).map SlotQ.s)) 1000 (LeafText y) w hN hv (fun M out W a' l' c' _ _ _ hn => ?_) (fun M v => text_writes false 34 (.inr rfl) y hy M N v) [0, 0, 4] 8 (good_path1 hp) (by show 12 + 2 * 3 + 8 + (1000 + 0) < 700000; omega) (ImportT none y) (fun bs q h => ⟨8, 0, 0, 4, nodeQ_plain h (by decide) (by decide), rfl, by decide, by decide, kidRef_of (i := 2) (sz := 1000) h (List.mem_singleton.2 rfl)⟩)
    exact maybeAt_none M false 1 _ _ _ _ _ _ W
  | true =>
    refine buf_import true t m u _ _ a c N [] (by simp) (tableB ((textFs true y).map SlotQ.s)) 1000 (LeafText y) w hN hv (fun M out W a' l' c' _ _ _ hn => ?_) (fun M v => text_writes true 34 (.inr rfl) y hy M N v) [8, 0, 4] 12 (good_path2 hp) (by show 12 + 2 * 3 + 12 + (1000 + (64 + 0)) < 700000; omega) (ImportT none y) (fun bs q h => ⟨12, 8, 0, 4, nodeQ_base h (by simp) (by decide) (by decide) (by decide) (by decide), rfl, by decide, by decide, kidRef_of (i := 2) (sz := 1000) h (List.mem_cons_self ..)⟩)
    exact maybeAt_none M true 1 _ _ _ _ _ _ W

theorem buf_import_as (base : Bool) (t m : ByteArray) (u : Int) (x : ByteArray) (hx : x.size ≤ 300) (y : ByteArray) (hy : y.size ≤ 300) (a : Option Addr) (c N : Nat) (w : World) (hN : N ≤ w.heap.size)
    (hv : NodeIn w (· < N) (.mk 5 t m u [.mk 33 x ⟨#[]⟩ 0 [], .mk 34 y ⟨#[]⟩ 0 []]) (nodeU 5 t m u a 2 c)) :
    Calls Tryz.prog 9 #[.agg #[.int .i64 5, .string t, .string m, .int .u64 u, .slice a 2 c], .bool base] w (NodeBuf (ImportT (some x) y) w) := by
  have hp := textFs_part base y hy
  have hpx := textFs_part base x hx
  have hmb : ∀ M out W a' l' c', Mk M base out W → N ≤ W.heap.size → (∀ r, r < N → MkOther M r W) → NodeIn W (· < N) (.mk 33 x ⟨#[]⟩ 0 []) (nodeU 33 x ⟨#[]⟩ (0 : Nat) a' l' c') → Calls Tryz.prog 147 #[.int .i64 1, nodeU 33 x ⟨#[]⟩ (0 : Nat) a' l' c'] W (MaybePost M base [kidQ 1 (tableB ((textFs base x).map SlotQ.s)) 1000 (LeafText x)] W) := fun M out W a' l' c' hM hNW ho hn =>
    (maybeAt_some M base out N 1 (.mk 33 x ⟨#[]⟩ 0 []) 33 (by decide) x ⟨#[]⟩ (0 : Nat) a' l' c' _ 1000 (LeafText x) W hM hNW ho (text_writes base 33 (.inl rfl) x hx M N _) hn).mono fun e w' h => h.maybe (by show 0 < 1; decide)
  cases base with
  | false =>
    exact buf_import false t m u _ _ a c N [kidQ 1 (tableB ((textFs false x).map SlotQ.s)) 1000 (LeafText x)] (by simp) (tableB ((textFs false y).map SlotQ.s)) 1000 (LeafText y) w hN hv hmb (fun M v => text_writes false 34 (.inr rfl) y hy M N v) [0, 4, 8] 12 (good_as1 hpx hp) (by show 12 + 2 * 3 + 12 + (1000 + (1000 + 0)) < 700000; omega) (ImportT (some x) y) (fun bs q h => ⟨12, 0, 4, 8, nodeQ_plain h (by decide) (by decide), ⟨by decide, by decide, kidRef_of (i := 1) (sz := 1000) h (List.mem_cons_self ..)⟩, by decide, by decide, kidRef_of (i := 2) (sz := 1000) h (List.mem_cons_of_mem _ (List.mem_singleton.2 rfl))⟩)
  | true =>
    exact buf_import true t m u _ _ a c N [kidQ 1 (tableB ((textFs true x).map SlotQ.s)) 1000 (LeafText x)] (by simp) (tableB ((textFs true y).map SlotQ.s)) 1000 (LeafText y) w hN hv hmb (fun M v => text_writes true 34 (.inr rfl) y hy M N v) [12, 4, 8] 16 (good_as2 hpx hp) (by show 12 + 2 * 3 + 16 + (1000 + (1000 + (64 + 0))) < 700000; omega) (ImportT (some x) y) (fun bs q h => ⟨16, 12, 4, 8, nodeQ_base h (by simp) (by decide) (by decide) (by decide) (by decide), ⟨by decide, by decide, kidRef_of (i := 1) (sz := 1000) h (List.mem_cons_self ..)⟩, by decide, by decide, kidRef_of (i := 2) (sz := 1000) h (List.mem_cons_of_mem _ (List.mem_cons_self ..))⟩)

end Go.Proofs.YtdillheepidncaaGreatDoor
