/- The maker's slots of nodes. -/
import Derived.Test.YtdillheepidncaaGreatDoorMakerMany
import Derived.Test.YtdillheepidncaaGreatDoorTree
namespace Go.Proofs.YtdillheepidncaaGreatDoor
open Go Go.RowKit
set_option linter.unusedVariables false
set_option linter.unusedSimpArgs false

/-- A node's table is written, wherever the maker has come to, while the tree's blocks stand. -/
def NodeWrites (M : Nat) (base : Bool) (N : Nat) (tr : Tr) (v : Value) (P : List UInt8 → List UInt8 × Nat) (sz : Nat) : Prop :=
  ∀ W out, Mk M base out W → NodeIn W (· < N) tr v → (∀ r, r < N → MkOther M r W) → out.length + sz < 900000000 →
    Calls Tryz.prog 20 #[.pointer (some ⟨M, 0, none⟩), v] W (AtPost M base (P out).1 (P out).2 W)

set_option maxHeartbeats 1000000 in
set_option maxRecDepth 100000 in
theorem nodeAt_any (i : Int) (k : Int) (t m : ByteArray) (u : Int) (a : Option Addr) (n c : Nat) (w : World) :
    Calls Tryz.prog 143 #[.int .i64 i, .agg #[.int .i64 k, .string t, .string m, .int .u64 u, .slice a n c]] w fun e w' => e = .returned (.agg #[.int .i64 i, .int .i64 4, .int .u64 0, .func (.func 169) #[] #[.pointer (some ⟨w.heap.size, 0, none⟩)]]) ∧ w'.heap[w.heap.size]? = some (.cells #[.int .i64 k, .string t, .string m, .int .u64 u, .slice a n c] 25 (0, 0)) ∧ Below w.heap.size w w' := by
  have hmf : ∀ (fn : Fn) (first cap : Array Value) (w : World), (Instr.makeFunc fn first cap).run Tryz.prog w = .ok (.func fn first cap) w := fun _ _ _ _ => rfl
  go_enter Tryz.func143, Tryz.ntmps143
  go_wp2
  have hb := (Below.refl w.heap.size w).alloc (Nat.le_refl _) (.cells #[.int .i64 k, .string t, .string m, .int .u64 u, .slice a n c] 25)
  refine bodyPost_ret (v := .agg #[.int .i64 i, .int .i64 4, .int .u64 0, .func (.func 169) #[] #[.pointer (some ⟨w.heap.size, 0, none⟩)]]) (by simp [results, Tryz.results143, go_sem]) rfl ⟨rfl, ?_, hb.alloc hb.size _⟩
  exact (Below.heap_alloc _ _ _ (by rw [alloc_size]; omega)).trans (heap_alloc_new w _)

set_option maxHeartbeats 1000000 in
set_option maxRecDepth 100000 in
theorem nodeAt_ref (M b : Nat) (base : Bool) (out : List UInt8) (k : Int) (t m : ByteArray) (u : Int) (a : Option Addr) (n c : Nat) (P : List UInt8 → List UInt8 × Nat) (w : World) (hb : w.heap[b]? = some (.cells #[.int .i64 k, .string t, .string m, .int .u64 u, .slice a n c] 25 (0, 0)))
    (hn : Calls Tryz.prog 20 #[.pointer (some ⟨M, 0, none⟩), .agg #[.int .i64 k, .string t, .string m, .int .u64 u, .slice a n c]] w (AtPost M base (P out).1 (P out).2 w)) :
    Calls Tryz.prog 169 #[.pointer (some ⟨M, 0, none⟩), .pointer (some ⟨b, 0, none⟩)] w (AtPost M base (P out).1 (P out).2 w) := by
  have c0 : w.cell? ⟨b, 0, none⟩ = some (.int .i64 k) := by rw [Lib.cell_of_heap hb]; rfl
  have c1 : w.cell? ⟨b, 1, none⟩ = some (.string t) := by rw [Lib.cell_of_heap hb]; rfl
  have c2 : w.cell? ⟨b, 2, none⟩ = some (.string m) := by rw [Lib.cell_of_heap hb]; rfl
  have c3 : w.cell? ⟨b, 3, none⟩ = some (.int .u64 u) := by rw [Lib.cell_of_heap hb]; rfl
  have c4 : w.cell? ⟨b, 4, none⟩ = some (.slice a n c) := by rw [Lib.cell_of_heap hb]; rfl
  have HT := Lib.hid hn
  clear hn hb
  go_enter Tryz.func169, Tryz.ntmps169
  go_wp2_with (go_at_call 20; with_reducible refine HT.out.mono ?_)
  rintro e w2 ⟨rfl, h1, h2⟩
  go_wp2
  go_ret
  exact ⟨rfl, h1, h2⟩

/-- A slot that refers to a node. -/
def kidQ (i : Nat) (P : List UInt8 → List UInt8 × Nat) (sz : Nat) (Q : List UInt8 → Nat → Prop) : SlotQ := ⟨⟨i, 4, 0, some P⟩, sz, Q⟩

theorem kid_FnD {M : Nat} {base : Bool} {N b i sz : Nat} {tr : Tr} {k : Int} {t m : ByteArray} {u : Int} {a : Option Addr} {n c : Nat} {P : List UInt8 → List UInt8 × Nat} {Q : List UInt8 → Nat → Prop} {w : World}
    (hw : NodeWrites M base N tr (nodeU k t m u a n c) P sz) (hN : N ≤ w.heap.size) (ht : NodeIn w (· < N) tr (nodeU k t m u a n c))
    (hb : w.heap[b]? = some (.cells #[.int .i64 k, .string t, .string m, .int .u64 u, .slice a n c] 25 (0, 0))) :
    FnD M base (fun r => r < N ∨ r = b) w (.func (.func 169) #[] #[.pointer (some ⟨b, 0, none⟩)]) (kidQ i P sz Q).s (kidQ i P sz Q).sz := by
  intro W hW
  have hbl := (Array.getElem?_eq_some_iff.1 hb).1
  refine ⟨_, _, rfl, fun args W => Tryz.call169 args W, fun W' out hm hmk hsz => ?_⟩
  have hlt : ∀ r, r < w.heap.size → W.heap[r]? = w.heap[r]? → r < W.heap.size := fun r hr e => by
    rw [Array.getElem?_eq_getElem hr] at e
    exact (Array.getElem?_eq_some_iff.1 e).1
  have h1 := hW b (.inr rfl)
  have h2 := hm.keep b (hlt b hbl h1.1) h1.2
  have hbox := (h2.1.trans h1.1).trans hb
  have hkeep : ∀ r, r < N → W'.heap[r]? = w.heap[r]? ∧ MkOther M r W' := fun r hr => by
    have h3 := hW r (.inl hr)
    have h4 := hm.keep r (hlt r (Nat.lt_of_lt_of_le hr hN) h3.1) h3.2
    exact ⟨h4.1.trans h3.1, h4.2⟩
  exact nodeAt_ref M b base out k t m u a n c P W' hbox (hw W' out hmk (ht.keep fun r hr => (hkeep r hr).1) (fun r hr => (hkeep r hr).2) hsz)

end Go.Proofs.YtdillheepidncaaGreatDoor
