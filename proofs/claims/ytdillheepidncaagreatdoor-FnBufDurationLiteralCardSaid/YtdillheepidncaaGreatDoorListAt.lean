/- The maker's slots of lists of nodes. -/
import Derived.Test.YtdillheepidncaaGreatDoorTables
import Derived.Test.YtdillheepidncaaGreatDoorMakerAll
import Derived.Deep.RegionWith
namespace Go.Proofs.YtdillheepidncaaGreatDoor
open Go Go.RowKit
set_option linter.unusedVariables false
set_option linter.unusedSimpArgs false

/-- Nodes that stand side by side, below N. -/
def ListIn (w : World) (N : Nat) (kids : List Tr) (a : Option Addr) : Prop :=
  0 < kids.length → ∃ b o : Nat, a = some ⟨b, o, none⟩ ∧ b < N ∧ ∀ j (hj : j < kids.length), ∃ (a' : Option Addr) (c' : Nat), NodeIn w (· < N) kids[j] (nodeU kids[j].kind kids[j].text kids[j].more kids[j].num a' kids[j].kids.length c') ∧
    w.cell? ⟨b, o + j * 5, none⟩ = some (.int .i64 kids[j].kind) ∧ w.cell? ⟨b, o + j * 5 + 1, none⟩ = some (.string kids[j].text) ∧ w.cell? ⟨b, o + j * 5 + 2, none⟩ = some (.string kids[j].more) ∧ w.cell? ⟨b, o + j * 5 + 3, none⟩ = some (.int .u64 kids[j].num) ∧ w.cell? ⟨b, o + j * 5 + 4, none⟩ = some (.slice a' kids[j].kids.length c')

theorem ListIn.keep {w w' : World} {N : Nat} {kids : List Tr} {a : Option Addr} (h : ListIn w N kids a) (hk : Keep (· < N) w w') : ListIn w' N kids a := fun h0 => by
  obtain ⟨b, o, h1, h2, h3⟩ := h h0
  refine ⟨b, o, h1, h2, fun j hj => ?_⟩
  obtain ⟨a', c', n0, d0, d1, d2, d3, d4⟩ := h3 j hj
  have e := hk b h2
  exact ⟨a', c', n0.keep hk, (cell_keep e).trans d0, (cell_keep e).trans d1, (cell_keep e).trans d2, (cell_keep e).trans d3, (cell_keep e).trans d4⟩

/-- The nodes in a node. -/
theorem ListIn.of {w : World} {N : Nat} {t : Tr} {a : Option Addr} {l c : Nat} {k : Int} {x m : ByteArray} {n : Int} {ks : List Tr} (h : NodeIn w (· < N) (.mk k x m n ks) (nodeU k x m n a l c)) : ListIn w N ks a := fun h0 => by
  obtain ⟨b, o, h1, h2, h3⟩ := h.kidsAt h0
  exact ⟨b, o, h1, h2, fun j hj => h3 w (Keep.refl _ w) j hj⟩

/-- .. but the first ones. -/
theorem ListIn.drop {w : World} {N : Nat} {ks : List Tr} {b o : Nat} (h : ListIn w N ks (some ⟨b, o, none⟩)) (k : Nat) : ListIn w N (ks.drop k) (some ⟨b, o + k * 5, none⟩) := fun h0 => by
  rw [List.length_drop] at h0
  obtain ⟨b', o', h1, h2, h3⟩ := h (by omega)
  simp only [Option.some.injEq, Addr.mk.injEq, and_true] at h1
  obtain ⟨rfl, rfl⟩ := h1
  refine ⟨b, o + k * 5, rfl, h2, fun j hj => ?_⟩
  rw [List.length_drop] at hj
  obtain ⟨a', c', h4⟩ := h3 (k + j) (by omega)
  refine ⟨a', c', ?_⟩
  simp only [List.getElem_drop]
  rw [show o + k * 5 + j * 5 = o + (k + j) * 5 by omega]
  exact h4

/-- All nodes of a list are written. -/
structure KidWriter (M : Nat) (base : Bool) (N : Nat) (kids : List Tr) (ps : List PartQ) : Prop where
  len : ps.length = kids.length
  few : kids.length ≤ 1000
  ok : ∀ p ∈ ps, PartOk p.P p.sz p.Q
  wr : ∀ i (h : i < kids.length) (h2 : i < ps.length) v, NodeWrites M base N kids[i] v ps[i].P ps[i].sz

/-- A slot that refers to a list of nodes. -/
def listQ (i : Nat) (ps : List PartQ) : SlotQ := ⟨⟨i, 4, 0, some (vecB (ps.map PartQ.P))⟩, 8 + 4 * ps.length + szParts ps, VecQ ps⟩

set_option maxHeartbeats 1000000 in
set_option maxRecDepth 100000 in
theorem listAt_any (i : Int) (a : Option Addr) (n c : Nat) (w : World) :
    Calls Tryz.prog 146 #[.int .i64 i, .slice a n c] w fun e w' => e = .returned (.agg #[.int .i64 i, .int .i64 4, .int .u64 0, .func (.func 171) #[] #[.pointer (some ⟨w.heap.size, 0, none⟩)]]) ∧ w'.heap[w.heap.size]? = some (.cells #[.slice a n c] 23 (0, 0)) ∧ Below w.heap.size w w' := by
  have hmf : ∀ (fn : Fn) (first cap : Array Value) (w : World), (Instr.makeFunc fn first cap).run Tryz.prog w = .ok (.func fn first cap) w := fun _ _ _ _ => rfl
  go_enter Tryz.func146, Tryz.ntmps146
  go_wp2
  have hb := (Below.refl w.heap.size w).alloc (Nat.le_refl _) (.cells #[.slice a n c] 23)
  refine bodyPost_ret (v := .agg #[.int .i64 i, .int .i64 4, .int .u64 0, .func (.func 171) #[] #[.pointer (some ⟨w.heap.size, 0, none⟩)]]) (by simp [results, Tryz.results146, go_sem]) rfl ⟨rfl, ?_, hb.alloc hb.size _⟩
  exact (Below.heap_alloc _ _ _ (by rw [alloc_size]; omega)).trans (heap_alloc_new w _)

set_option maxHeartbeats 2000000 in
set_option maxRecDepth 100000 in
/-- One of a list's nodes is written. -/
theorem listElem_any (M : Nat) (base : Bool) (out : List UInt8) (j mb lb b o n c : Nat) (hj : j < n) (k : Int) (t m : ByteArray) (u : Int) (a' : Option Addr) (l' c' : Nat) (P : List UInt8 → List UInt8 × Nat) (w : World)
    (hm : w.heap[mb]? = some (.cells #[.pointer (some ⟨M, 0, none⟩)] 52 (0, 0))) (hl : w.heap[lb]? = some (.cells #[.slice (some ⟨b, o, none⟩) n c] 23 (0, 0)))
    (d0 : w.cell? ⟨b, o + j * 5, none⟩ = some (.int .i64 k)) (d1 : w.cell? ⟨b, o + j * 5 + 1, none⟩ = some (.string t)) (d2 : w.cell? ⟨b, o + j * 5 + 2, none⟩ = some (.string m)) (d3 : w.cell? ⟨b, o + j * 5 + 3, none⟩ = some (.int .u64 u)) (d4 : w.cell? ⟨b, o + j * 5 + 4, none⟩ = some (.slice a' l' c'))
    (hn : Calls Tryz.prog 20 #[.pointer (some ⟨M, 0, none⟩), .agg #[.int .i64 k, .string t, .string m, .int .u64 u, .slice a' l' c']] w.drew (AtPost M base (P out).1 (P out).2 w.drew)) :
    Calls Tryz.prog 173 #[.int .i64 j, .pointer (some ⟨mb, 0, none⟩), .pointer (some ⟨lb, 0, none⟩)] w (AtPost M base (P out).1 (P out).2 w) := by
  have c0 : w.cell? ⟨mb, 0, none⟩ = some (.pointer (some ⟨M, 0, none⟩)) := by rw [Lib.cell_of_heap hm]; rfl
  have c1 : w.cell? ⟨lb, 0, none⟩ = some (.slice (some ⟨b, o, none⟩) n c) := by rw [Lib.cell_of_heap hl]; rfl
  have HT : Hid (Calls Tryz.prog 20 #[.pointer (some ⟨M, 0, none⟩), .agg #[.int .i64 k, .string t, .string m, .int .u64 u, .slice a' l' c']] w.drew fun e w' => e = .returned (.int .i64 (P out).2) ∧ Mk M base (P out).1 w' ∧ Moves M w.drew w') := Lib.hid hn
  have hj1 : (j : Int) < n := by omega
  have hj0 : (0 : Int) ≤ j := by omega
  clear hn hm hl
  go_enter Tryz.func173, Tryz.ntmps173
  go_upto_region 1 with fail
  go_region_with ((go_at_call 20; with_reducible refine HT.out.mono ?_; rintro e w2 ⟨rfl, h1, h2⟩))
  all_goals
    go_wp2
    go_ret
    exact ⟨rfl, h1, (Moves.refl M w).drew.trans h2⟩

theorem le_of_all {N n : Nat} (h : ∀ r, r < N → r < n) : N ≤ n := by
  rcases Nat.eq_zero_or_pos N with h0 | h0
  · omega
  · have := h (N - 1) (by omega)
    omega

/-- What a list's function writes, while its blocks stand. -/
theorem list_vec {M : Nat} {base : Bool} {N mb lb : Nat} {kids : List Tr} {ps : List PartQ} {a : Option Addr} {c : Nat} {w : World} (hk : KidWriter M base N kids ps) (ht : ListIn w N kids a) (hNw : ∀ r, r < N → r < w.heap.size ∧ MkOther M r w)
    (hm : OtherAt M mb (.cells #[.pointer (some ⟨M, 0, none⟩)] 52 (0, 0)) w) (hl : OtherAt M lb (.cells #[.slice a kids.length c] 23 (0, 0)) w) :
    FnVec M base w (.func (.func 173) #[] #[.pointer (some ⟨mb, 0, none⟩), .pointer (some ⟨lb, 0, none⟩)]) ps := by
  refine ⟨_, _, rfl, fun args W => Tryz.call173 args W, fun i hi W out hmv hmk hsz => ?_⟩
  have hi2 : i < kids.length := by rw [← hk.len]; exact hi
  have hkeep : ∀ r, r < N → W.heap[r]? = w.heap[r]? ∧ MkOther M r W := fun r hr => hmv.keep r (hNw r hr).1 (hNw r hr).2
  obtain ⟨b, o, rfl, hbN, hkid⟩ := (ht.keep (fun r hr => (hkeep r hr).1)) (by omega)
  obtain ⟨a', c', n0, d0, d1, d2, d3, d4⟩ := hkid i hi2
  exact listElem_any M base out i mb lb b o kids.length c hi2 _ _ _ _ a' _ c' ps[i].P W (hm.go hmv).1 (hl.go hmv).1 d0 d1 d2 d3 d4 (hk.wr i hi2 hi _ W.drew out hmk (NodeIn.keep (w := W) (w' := W.drew) (B := (· < N)) (fun _ _ => rfl) n0) (fun r hr => (hkeep r hr).2) (Nat.le_trans (le_of_all fun r hr => (hNw r hr).1) hmv.size) hsz)

set_option maxHeartbeats 2000000 in
set_option maxRecDepth 100000 in
theorem list_ref {M : Nat} {base : Bool} {N lb : Nat} {kids : List Tr} {ps : List PartQ} {a : Option Addr} {c : Nat} {out : List UInt8} {w : World} (h : Mk M base out w) (hk : KidWriter M base N kids ps) (ht : ListIn w N kids a) (hNw : ∀ r, r < N → r < w.heap.size ∧ MkOther M r w)
    (hl : OtherAt M lb (.cells #[.slice a kids.length c] 23 (0, 0)) w) (hout : out.length + (8 + 4 * ps.length + szParts ps) < 900000000) :
    Calls Tryz.prog 171 #[.pointer (some ⟨M, 0, none⟩), .pointer (some ⟨lb, 0, none⟩)] w (AtPost M base (vecB (ps.map PartQ.P) out).1 (vecB (ps.map PartQ.P) out).2 w) := by
  have hM := h.lt
  have hal := (Below.refl w.heap.size w).alloc (Nat.le_refl _) (.cells #[.pointer (some ⟨M, 0, none⟩)] 52)
  have hmv := (Moves.refl M w).below hal hM
  have hl2 := hl.go hmv
  have hmb : OtherAt M w.heap.size (.cells #[.pointer (some ⟨M, 0, none⟩)] 52 (0, 0)) (w.alloc (.cells #[.pointer (some ⟨M, 0, none⟩)] 52)) := ⟨heap_alloc_new w _, MkAt.newer h (Nat.le_refl _) (hal.cell (p := ⟨M, 0, none⟩) hM)⟩
  have hvec := list_vec hk (ht.keep (fun r hr => (hal.block r (hNw r hr).1))) (fun r hr => ⟨Nat.lt_of_lt_of_le (hNw r hr).1 hal.size, (hmv.keep r (hNw r hr).1 (hNw r hr).2).2⟩) hmb hl2
  have HT := Lib.hid (tables_any ps (by rw [hk.len]; exact hk.few) hk.ok M base out _ _ (h.below hal) hvec hout)
  rw [hk.len] at HT
  have c1 : (w.alloc (.cells #[.pointer (some ⟨M, 0, none⟩)] 52)).cell? ⟨lb, 0, none⟩ = some (.slice a kids.length c) := by rw [Lib.cell_of_heap hl2.1]; rfl
  have hmf : ∀ (fn : Fn) (first cap : Array Value) (w : World), (Instr.makeFunc fn first cap).run Tryz.prog w = .ok (.func fn first cap) w := fun _ _ _ _ => rfl
  have HMV := Lib.hid hmv
  clear h hk ht hNw hl hl2 hmb hvec hal hmv hout
  go_enter Tryz.func171, Tryz.ntmps171
  go_wp2_with (go_at_call 172; with_reducible refine HT.out.mono ?_)
  rintro e w2 ⟨rfl, h1, h2⟩
  go_wp2
  go_ret
  exact ⟨rfl, h1, HMV.out.trans h2⟩

theorem list_FnD {M : Nat} {base : Bool} {N lb i : Nat} {kids : List Tr} {ps : List PartQ} {a : Option Addr} {c : Nat} {w : World} (hk : KidWriter M base N kids ps) (hN : N ≤ w.heap.size) (ht : ListIn w N kids a)
    (hb : w.heap[lb]? = some (.cells #[.slice a kids.length c] 23 (0, 0))) :
    FnD M base (fun r => r < N ∨ r = lb) w (.func (.func 171) #[] #[.pointer (some ⟨lb, 0, none⟩)]) (listQ i ps).s (listQ i ps).sz := by
  intro W hW
  have hbl := (Array.getElem?_eq_some_iff.1 hb).1
  refine ⟨_, _, rfl, fun args W => Tryz.call171 args W, fun W' out hm hmk hsz => ?_⟩
  have hlt : ∀ r, r < w.heap.size → W.heap[r]? = w.heap[r]? → r < W.heap.size := fun r hr e => by
    rw [Array.getElem?_eq_getElem hr] at e
    exact (Array.getElem?_eq_some_iff.1 e).1
  have h1 := hW lb (.inr rfl)
  have hl1 : OtherAt M lb (.cells #[.slice a kids.length c] 23 (0, 0)) W := ⟨h1.1.trans hb, h1.2⟩
  have hkeep : ∀ r, r < N → W'.heap[r]? = w.heap[r]? ∧ r < W'.heap.size ∧ MkOther M r W' := fun r hr => by
    have h3 := hW r (.inl hr)
    have h5 := hlt r (Nat.lt_of_lt_of_le hr hN) h3.1
    have h4 := hm.keep r h5 h3.2
    exact ⟨h4.1.trans h3.1, Nat.lt_of_lt_of_le h5 hm.size, h4.2⟩
  exact list_ref hmk hk (ht.keep fun r hr => (hkeep r hr).1) (fun r hr => (hkeep r hr).2) (hl1.go hm) hsz

end Go.Proofs.YtdillheepidncaaGreatDoor
