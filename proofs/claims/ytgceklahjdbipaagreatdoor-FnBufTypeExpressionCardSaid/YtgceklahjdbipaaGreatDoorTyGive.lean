/- What was made of types gives trees. -/
import Derived.Test.YtgceklahjdbipaaGreatDoorTyWay
import Derived.Test.YtgceklahjdbipaaGreatDoorTyLead
import Derived.Test.YtgceklahjdbipaaGreatDoorTyParam
import Derived.Test.YtgceklahjdbipaaGreatDoorTyT
namespace Go.Proofs.YtgceklahjdbipaaGreatDoor
open Go Go.RowKit
set_option linter.unusedVariables false
set_option linter.unusedSimpArgs false

set_option maxHeartbeats 4000000 in
set_option maxRecDepth 100000 in
theorem orNone_gives (g : Nat) (tr : Tr) (w : World) (h : Calls Tryz.prog 19 #[.iface 60 (.pointer (some ⟨g, 0, none⟩))] (w.alloc (.cells #[.int .i64 0, .string ⟨#[]⟩, .string ⟨#[]⟩, .int .u64 0, .slice none 0 0] 25)) (Gives tr (w.alloc (.cells #[.int .i64 0, .string ⟨#[]⟩, .string ⟨#[]⟩, .int .u64 0, .slice none 0 0] 25)))) :
    Calls Tryz.prog 38 #[.pointer (some ⟨g, 0, none⟩)] w (Gives tr w) := by
  have hb0 := (Below.refl w.heap.size w).alloc (Nat.le_refl _) (.cells #[.int .i64 0, .string ⟨#[]⟩, .string ⟨#[]⟩, .int .u64 0, .slice none 0 0] 25)
  have hr0 := heap_alloc_new w (.cells #[.int .i64 0, .string ⟨#[]⟩, .string ⟨#[]⟩, .int .u64 0, .slice none 0 0] 25)
  have hs0 : (w.alloc (.cells #[.int .i64 0, .string ⟨#[]⟩, .string ⟨#[]⟩, .int .u64 0, .slice none 0 0] 25)).heap.size = w.heap.size + 1 := alloc_size _ _
  have HD := Lib.hid h
  have HB0 := Lib.hid hb0
  have HR0 := Lib.hid hr0
  have HS0 := Lib.hid hs0
  have HP : Hid (∀ e w', Gives tr w e w' → Gives tr w e w') := Lib.hid fun _ _ h => h
  clear h hb0 hr0 hs0
  go_enter Tryz.func38, Tryz.ntmps38
  go_wp2_with fail
  ((with_reducible refine HD.out.mono ?_))
  rintro e w1 ⟨a, c, rfl, hn1, hb1⟩
  have hr1 : w1.heap[w.heap.size]? = some (.cells #[.int .i64 0, .string ⟨#[]⟩, .string ⟨#[]⟩, .int .u64 0, .slice none 0 0] 25 (0, 0)) := (hb1.block _ (Array.getElem?_eq_some_iff.1 HR0.out).1).trans HR0.out
  have z0 : w1.cell? ⟨w.heap.size, 0, none⟩ = some (.int .i64 0) := by rw [Lib.cell_of_heap hr1]; rfl
  have z1 : w1.cell? ⟨w.heap.size, 1, none⟩ = some (.string ⟨#[]⟩) := by rw [Lib.cell_of_heap hr1]; rfl
  have z2 : w1.cell? ⟨w.heap.size, 2, none⟩ = some (.string ⟨#[]⟩) := by rw [Lib.cell_of_heap hr1]; rfl
  have z3 : w1.cell? ⟨w.heap.size, 3, none⟩ = some (.int .u64 0) := by rw [Lib.cell_of_heap hr1]; rfl
  have z4 : w1.cell? ⟨w.heap.size, 4, none⟩ = some (.slice none 0 0) := by rw [Lib.cell_of_heap hr1]; rfl
  have y0 := Lib.frozen_of_heap hr1 0
  have y1 := Lib.frozen_of_heap hr1 1
  have y2 := Lib.frozen_of_heap hr1 2
  have y3 := Lib.frozen_of_heap hr1 3
  have y4 := Lib.frozen_of_heap hr1 4
  have HN1 := Lib.hid hn1
  have HB1 := Lib.hid (HB0.out.trans (hb1.mono HB0.out.size))
  have HR1 := Lib.hid hr1
  clear hb1 hr1 hn1
  go_wp2
  have u0 := row_setG (row_setG (row_setG (row_setG (row_setG HR1.out 0 (.int .i64 tr.kind)) 1 (.string tr.text)) 2 (.string tr.more)) 3 (.int .u64 tr.num)) 4 (.slice a tr.kids.length c)
  have u1 := set_five_below HB1.out (.int .i64 tr.kind) (.string tr.text) (.string tr.more) (.int .u64 tr.num) (.slice a tr.kids.length c)
  have u2 := set_five (b := w.heap.size) (v0 := .int .i64 tr.kind) (v1 := .string tr.text) (v2 := .string tr.more) (v3 := .int .u64 tr.num) (v4 := .slice a tr.kids.length c) (by rw [HS0.out]; omega) HN1.out
  generalize (((((w1.setCell ⟨w.heap.size, 0, none⟩ (.int .i64 tr.kind)).setCell ⟨w.heap.size, 1, none⟩ (.string tr.text)).setCell ⟨w.heap.size, 2, none⟩ (.string tr.more)).setCell ⟨w.heap.size, 3, none⟩ (.int .u64 tr.num)).setCell ⟨w.heap.size, 4, none⟩ (.slice a tr.kids.length c)) = F at *
  have q0 : F.cell? ⟨w.heap.size, 0, none⟩ = some (.int .i64 tr.kind) := by rw [Lib.cell_of_heap u0]; rfl
  have q1 : F.cell? ⟨w.heap.size, 1, none⟩ = some (.string tr.text) := by rw [Lib.cell_of_heap u0]; rfl
  have q2 : F.cell? ⟨w.heap.size, 2, none⟩ = some (.string tr.more) := by rw [Lib.cell_of_heap u0]; rfl
  have q3 : F.cell? ⟨w.heap.size, 3, none⟩ = some (.int .u64 tr.num) := by rw [Lib.cell_of_heap u0]; rfl
  have q4 : F.cell? ⟨w.heap.size, 4, none⟩ = some (.slice a tr.kids.length c) := by rw [Lib.cell_of_heap u0]; rfl
  rw [HS0.out] at u2
  refine bodyPost_ret (v := .agg #[.int .i64 tr.kind, .string tr.text, .string tr.more, .int .u64 tr.num, .slice a tr.kids.length c]) (by simp [results, Tryz.results38, go_sem, q0, q1, q2, q3, q4]) rfl ⟨a, c, rfl, u2.mono fun b hb => ⟨by omega, hb.2⟩, u1⟩


set_option maxHeartbeats 4000000 in
set_option maxRecDepth 100000 in
theorem orNone_nil (w : World) :
    Calls Tryz.prog 38 #[.pointer none] w fun e w' => e = .returned (.agg #[.int .i64 0, .string ⟨#[]⟩, .string ⟨#[]⟩, .int .u64 0, .slice none 0 0]) ∧ Below w.heap.size w w' := by
  have hb0 := (Below.refl w.heap.size w).alloc (Nat.le_refl _) (.cells #[.int .i64 0, .string ⟨#[]⟩, .string ⟨#[]⟩, .int .u64 0, .slice none 0 0] 25)
  have hr0 := heap_alloc_new w (.cells #[.int .i64 0, .string ⟨#[]⟩, .string ⟨#[]⟩, .int .u64 0, .slice none 0 0] 25)
  have z0 : (w.alloc (.cells #[.int .i64 0, .string ⟨#[]⟩, .string ⟨#[]⟩, .int .u64 0, .slice none 0 0] 25)).cell? ⟨w.heap.size, 0, none⟩ = some (.int .i64 0) := by rw [Lib.cell_of_heap hr0]; rfl
  have z1 : (w.alloc (.cells #[.int .i64 0, .string ⟨#[]⟩, .string ⟨#[]⟩, .int .u64 0, .slice none 0 0] 25)).cell? ⟨w.heap.size, 1, none⟩ = some (.string ⟨#[]⟩) := by rw [Lib.cell_of_heap hr0]; rfl
  have z2 : (w.alloc (.cells #[.int .i64 0, .string ⟨#[]⟩, .string ⟨#[]⟩, .int .u64 0, .slice none 0 0] 25)).cell? ⟨w.heap.size, 2, none⟩ = some (.string ⟨#[]⟩) := by rw [Lib.cell_of_heap hr0]; rfl
  have z3 : (w.alloc (.cells #[.int .i64 0, .string ⟨#[]⟩, .string ⟨#[]⟩, .int .u64 0, .slice none 0 0] 25)).cell? ⟨w.heap.size, 3, none⟩ = some (.int .u64 0) := by rw [Lib.cell_of_heap hr0]; rfl
  have z4 : (w.alloc (.cells #[.int .i64 0, .string ⟨#[]⟩, .string ⟨#[]⟩, .int .u64 0, .slice none 0 0] 25)).cell? ⟨w.heap.size, 4, none⟩ = some (.slice none 0 0) := by rw [Lib.cell_of_heap hr0]; rfl
  have HB0 := Lib.hid hb0
  have HR0 := Lib.hid hr0
  clear hb0 hr0
  go_enter Tryz.func38, Tryz.ntmps38
  go_wp2
  all_goals first
    | exact bodyPost_ret (v := .agg #[.int .i64 0, .string ⟨#[]⟩, .string ⟨#[]⟩, .int .u64 0, .slice none 0 0]) (by simp [results, Tryz.results38, go_sem, z0, z1, z2, z3, z4]) rfl ⟨rfl, HB0.out⟩
    | skip



theorem orNone_noT (w : World) : Calls Tryz.prog 38 #[.pointer none] w (Gives noT w) :=
  (orNone_nil w).mono fun e w' h => ⟨none, 0, h.1, .leaf (by decide) (by decide) (by decide) (by decide) none 0, h.2⟩

/-- A tree is given in every world in which the blocks from a to b stand. -/
def NodeStands (a b : Nat) (w : World) (x : Value) (tr : Tr) : Prop :=
  ∀ W, (∀ r, a ≤ r → r < b → W.heap[r]? = w.heap[r]?) → b ≤ W.heap.size → Calls Tryz.prog 19 #[x] W (Gives tr W)

theorem NodeStands.keep {a b : Nat} {w w' : World} {x : Value} {tr : Tr} (h : NodeStands a b w x tr) (hk : ∀ r, a ≤ r → r < b → w'.heap[r]? = w.heap[r]?) : NodeStands a b w' x tr :=
  fun W h1 h2 => h W (fun r hr hr2 => (h1 r hr hr2).trans (hk r hr hr2)) h2

theorem NodeStands.gives {a b lo : Nat} {w : World} {x : Value} {tr : Tr} (h : NodeStands a b w x tr) (h1 : lo ≤ a) (h2 : b ≤ w.heap.size) : NodeGives lo w x tr :=
  fun W k1 k2 => h W (fun r hr hr2 => k1 r (by omega) (by omega)) (by omega)

theorem NodeGives.stands {lo : Nat} {w : World} {x : Value} {tr : Tr} (h : NodeGives lo w x tr) : NodeStands lo w.heap.size w x tr := h

/-- What was made of a type gives a tree, if impl.typeNode does. -/
theorem gives_type {lo r : Nat} {w : World} {cs : Array Value} {T PT : TypeId} {tr : Tr} (hr : w.heap[r]? = some (.cells cs T (0, 0))) (hlo : lo ≤ r) (hway : ∀ x ∈ nodeTypes, PT ≠ x)
    (h : ∀ W, (∀ r, lo ≤ r → r < w.heap.size → W.heap[r]? = w.heap[r]?) → w.heap.size ≤ W.heap.size → W.heap[r]? = some (.cells cs T (0, 0)) → Calls Tryz.prog 54 #[.iface PT (.pointer (some ⟨r, 0, none⟩))] W (Gives tr W)) :
    NodeGives lo w (.iface PT (.pointer (some ⟨r, 0, none⟩))) tr := fun W h1 h2 =>
  node_way PT _ hway tr W fun W2 hb =>
    have hk : ∀ r, lo ≤ r → r < w.heap.size → W2.heap[r]? = w.heap[r]? := fun r hr hr2 => (hb.block r (by omega)).trans (h1 r hr hr2)
    h W2 hk (Nat.le_trans h2 hb.size) ((hk r hlo (Array.getElem?_eq_some_iff.1 hr).1).trans hr)

section
variable {lo : Nat} {w W : World} (hk : ∀ r, lo ≤ r → r < w.heap.size → W.heap[r]? = w.heap[r]?) (hs : w.heap.size ≤ W.heap.size)
include hk hs

theorem gives_expr {t : TypeId} {v : Value} {tr : Tr} (h : NodeGives lo w (.iface t v) tr) : ∀ W2, Below W.heap.size W W2 → Calls Tryz.prog 40 #[.iface t v] W2 (Gives tr W2) := fun W2 hb =>
  exprOrNone_gives t v tr W2 (h _ (fun r hr hr2 => (Below.heap_alloc W2 _ r (by have := hb.size; omega)).trans ((hb.block r (by omega)).trans (hk r hr hr2))) (by rw [alloc_size]; have := hb.size; omega))
end

/-- A name, or nil and none. -/
def OptG (lo : Nat) (w : World) (ad : Option Addr) (tr : Tr) : Prop := (ad = none ∧ tr = noT) ∨ ∃ r, ad = some ⟨r, 0, none⟩ ∧ NodeGives lo w (.iface 60 (.pointer (some ⟨r, 0, none⟩))) tr

theorem OptG.keep {lo lo2 : Nat} {w w' : World} {ad : Option Addr} {tr : Tr} (h : OptG lo w ad tr) (hk : ∀ r, lo ≤ r → r < w.heap.size → w'.heap[r]? = w.heap[r]?) (hs : w.heap.size ≤ w'.heap.size) (hl : lo2 ≤ lo) : OptG lo2 w' ad tr :=
  h.imp id fun ⟨r, h1, h2⟩ => ⟨r, h1, (h2.later hk hs).low hl⟩

section
variable {lo : Nat} {w W : World} (hk : ∀ r, lo ≤ r → r < w.heap.size → W.heap[r]? = w.heap[r]?) (hs : w.heap.size ≤ W.heap.size)
include hk hs

theorem gives_name {ad : Option Addr} {tr : Tr} (h : OptG lo w ad tr) : ∀ W2, Below W.heap.size W W2 → Calls Tryz.prog 38 #[.pointer ad] W2 (Gives tr W2) := fun W2 hb => by
  rcases h with ⟨rfl, rfl⟩ | ⟨r, rfl, h⟩
  · exact orNone_noT W2
  · exact orNone_gives r tr W2 (h _ (fun r hr hr2 => (Below.heap_alloc W2 _ r (by have := hb.size; omega)).trans ((hb.block r (by omega)).trans (hk r hr hr2))) (by rw [alloc_size]; have := hb.size; omega))
end

/-- Pointers in a row of one's own, to what gives trees. -/
def RowG (T PT : TypeId) (lo : Nat) (w : World) (v : Value) (kids : List Tr) : Prop :=
  ∃ rs : List Value, rs.length = kids.length ∧ (∀ x ∈ rs, x.oneCell' = true) ∧ w.ownsRow lo T 1 v kids.length rs ∧
    ∀ i (h : i < kids.length) (h2 : i < rs.length), ∃ a b, lo ≤ a ∧ b ≤ w.heap.size ∧ (∀ r, v.ownBlock = some r → r < a ∨ b ≤ r) ∧ NodeStands a b w (.iface PT rs[i]) kids[i]

theorem RowG.nil (T PT : TypeId) (lo : Nat) (w : World) : RowG T PT lo w (.slice none 0 0) [] :=
  ⟨[], rfl, (fun x hx => by cases hx), World.ownsRow_nil _ _ _ _, fun i h _ => absurd h (Nat.not_lt_zero _)⟩

/-- A change elsewhere. -/
theorem RowG.keep {T PT : TypeId} {lo : Nat} {w w' : World} {v : Value} {kids : List Tr} (h : RowG T PT lo w v kids) (hk : ∀ r, lo ≤ r → r < w.heap.size → w'.heap[r]? = w.heap[r]?) (hs : w.heap.size ≤ w'.heap.size) : RowG T PT lo w' v kids := by
  obtain ⟨rs, h1, h2, h3, h4⟩ := h
  refine ⟨rs, h1, h2, ⟨h3.1, h3.2.imp id fun ⟨g, cap, cur, e1, e2, e3, e4, e5, e6, e7⟩ => ⟨g, cap, cur, e1, e2, (hk g e2 (Array.getElem?_eq_some_iff.1 e3).1).trans e3, e4, e5, e6, e7⟩⟩, fun i hi hi2 => ?_⟩
  obtain ⟨a, b, k1, k2, k3, k4⟩ := h4 i hi hi2
  exact ⟨a, b, k1, by omega, k3, k4.keep fun r hr hr2 => hk r (by omega) (by omega)⟩

/-- One more: a kid whose blocks lie between a4 and h4, above the row. -/
theorem RowG.snoc_of {T PT : TypeId} {lo : Nat} {w5 w6 : World} {v v' : Value} {kids : List Tr} {tr : Tr} {x : Value} {a4 h4 : Nat} {rs : List Value} (h1 : rs.length = kids.length) (h2 : ∀ x ∈ rs, x.oneCell' = true)
    (h5 : ∀ i (h : i < kids.length) (h2 : i < rs.length), ∃ a b, lo ≤ a ∧ b ≤ w5.heap.size ∧ (∀ r, v.ownBlock = some r → r < a ∨ b ≤ r) ∧ NodeStands a b w5 (.iface PT rs[i]) kids[i]) (hx : x.oneCell' = true)
    (hlo : lo ≤ a4) (hle : h4 ≤ w5.heap.size) (hva : ∀ r, v.ownBlock = some r → r < a4) (hn : NodeStands a4 h4 w5 (.iface PT x) tr) (hg : ∀ r, r < w5.heap.size → v.ownBlock ≠ some r → w6.heap[r]? = w5.heap[r]?) (hs : w5.heap.size ≤ w6.heap.size)
    (hv : v'.ownBlock = v.ownBlock ∨ ∃ g, v'.ownBlock = some g ∧ w5.heap.size ≤ g) (hown : w6.ownsRow lo T 1 v' (kids.length + 1) (rs ++ [x])) : RowG T PT lo w6 v' (kids ++ [tr]) := by
  refine ⟨rs ++ [x], by simp [h1], fun y hy => ?_, by rw [List.length_append]; exact hown, fun i hi hi2 => ?_⟩
  · rcases List.mem_append.1 hy with hy | hy
    · exact h2 y hy
    · rw [List.mem_singleton] at hy
      rw [hy]
      exact hx
  · by_cases hil : i < kids.length
    · have e0 : (kids ++ [tr])[i] = kids[i] := List.getElem_append_left hil
      have e : (rs ++ [x])[i] = rs[i]'(by omega) := List.getElem_append_left (by omega)
      rw [e0, e]
      obtain ⟨a, b, k1, k2, k3, k4⟩ := h5 i hil (by omega)
      refine ⟨a, b, k1, by omega, fun r hr => ?_, k4.keep fun r hr hr2 => hg r (by omega) fun e => ?_⟩
      · rcases hv with e | ⟨g, e, hgg⟩
        · exact k3 r (by rw [← e]; exact hr)
        · rw [e] at hr
          cases hr
          omega
      · have := k3 r e
        omega
    · have hie : i = kids.length := by simp at hi; omega
      subst hie
      have e1 : (kids ++ [tr])[kids.length] = tr := by simp
      have e2 : (rs ++ [x])[kids.length]'(by rw [List.length_append, h1]; simp) = x := by simp [← h1]
      rw [e1, e2]
      refine ⟨a4, h4, hlo, Nat.le_trans hle hs, fun r hr => ?_, hn.keep fun r hr hr2 => hg r (by omega) fun e => ?_⟩
      · rcases hv with e | ⟨g, e, hgg⟩
        · exact .inl (hva r (by rw [← e]; exact hr))
        · rw [e] at hr
          cases hr
          exact .inr (by omega)
      · have := hva r e
        omega

/-- What impl.list asks. -/
theorem RowG.list {T PT : TypeId} {lo : Nat} {w : World} {ad : Option Addr} {n c : Nat} {kids : List Tr} (h : RowG T PT lo w (.slice ad n c) kids) {W : World} (hk : ∀ r, lo ≤ r → r < w.heap.size → W.heap[r]? = w.heap[r]?) (hs : w.heap.size ≤ W.heap.size) {W2 : World} (hb : Below W.heap.size W W2) :
    n = kids.length ∧ ∃ (g : Nat) (pv : Nat → Value), (0 < n → ad = some ⟨g, 0, none⟩ ∧ g < W2.heap.size) ∧ (∀ i, i < n → W2.cell? ⟨g, 0 + i, none⟩ = some (pv i)) ∧ ∀ i (h : i < kids.length), NodeGives lo W2 (.iface PT (pv i)) kids[i] := by
  have hk2 : ∀ r, lo ≤ r → r < w.heap.size → W2.heap[r]? = w.heap[r]? := fun r hr hr2 => (hb.block r (by omega)).trans (hk r hr hr2)
  have hs2 : w.heap.size ≤ W2.heap.size := Nat.le_trans hs hb.size
  obtain ⟨rs, h1, h2, h3, h4⟩ := h.keep hk2 hs2
  have hg : ∀ i (h : i < kids.length) (h2 : i < rs.length), NodeGives lo W2 (.iface PT rs[i]) kids[i] := fun i hi hi2 => by
    obtain ⟨a, b, k1, k2, k3, k4⟩ := h4 i hi hi2
    exact k4.gives k1 k2
  rcases h3.2 with ⟨e, h0⟩ | ⟨g, cap, cur, e, hbb, hgg, _⟩
  · cases e
    exact ⟨h0.symm, 0, fun _ => .nilIface, fun h => by omega, fun i hi => by omega, fun i hi => by omega⟩
  · have e1 : n = kids.length ∧ ad = some ⟨g, 0, none⟩ := by
      cases e
      exact ⟨rfl, rfl⟩
    obtain ⟨e1, e2⟩ := e1
    refine ⟨e1, g, fun i => if h : i < rs.length then rs[i] else .nilIface, fun _ => ⟨e2, (Array.getElem?_eq_some_iff.1 hgg).1⟩, fun i hi => ?_, fun i hi => ?_⟩
    · have hi2 : i < rs.length := by omega
      simp only [dif_pos hi2]
      have e3 := h3.cells (g := g) (by rw [e2]; rfl) i rs[i] (List.getElem?_eq_getElem hi2)
      rw [show (⟨g, 0, none⟩ : Addr).add i = ⟨g, 0 + i, none⟩ by rw [add_at]] at e3
      exact e3
    · have hi2 : i < rs.length := by omega
      simp only [dif_pos hi2]
      exact hg i hi hi2


theorem giveNamedType {lo r : Nat} {w : World} {ad : Option Addr} {t1 : Tr} (hr : w.heap[r]? = some (.cells #[.pointer none, .slice none 0 0, .slice none 0 0, .pointer ad] 305 (0, 0))) (hlo : lo ≤ r) (h1 : OptG lo w ad t1) :
    NodeGives lo w (.iface 303 (.pointer (some ⟨r, 0, none⟩))) (.mk 45 ⟨#[]⟩ ⟨#[]⟩ 0 [t1]) :=
  gives_type hr hlo way_types.2.2.2.2.2.2.2.2.2 fun W hk hs hW => typeNodeNamedType_gives r _ t1 W hW (gives_name hk hs h1)


theorem giveTvarType {lo r : Nat} {w : World} {ad : Option Addr} {t1 : Tr} (hr : w.heap[r]? = some (.cells #[.pointer none, .slice none 0 0, .slice none 0 0, .pointer ad] 307 (0, 0))) (hlo : lo ≤ r) (h1 : OptG lo w ad t1) :
    NodeGives lo w (.iface 306 (.pointer (some ⟨r, 0, none⟩))) (.mk 46 ⟨#[]⟩ ⟨#[]⟩ 0 [t1]) :=
  gives_type hr hlo way_types.2.2.2.2.2.2.2.2.1 fun W hk hs hW => typeNodeTvarType_gives r _ t1 W hW (gives_name hk hs h1)


theorem giveArrayType {lo r : Nat} {w : World} {ta : TypeId} {va : Value} {t1 : Tr} (hr : w.heap[r]? = some (.cells #[.pointer none, .slice none 0 0, .slice none 0 0, .iface ta va] 310 (0, 0))) (hlo : lo ≤ r) (h1 : NodeGives lo w (.iface ta va) t1) :
    NodeGives lo w (.iface 308 (.pointer (some ⟨r, 0, none⟩))) (.mk 47 ⟨#[]⟩ ⟨#[]⟩ 0 [t1]) :=
  gives_type hr hlo way_types.1 fun W hk hs hW => typeNodeArrayType_gives r _ t1 W hW (gives_expr hk hs h1)


theorem giveDictType {lo r : Nat} {w : World} {ta tb : TypeId} {va vb : Value} {t1 t2 : Tr} (hr : w.heap[r]? = some (.cells #[.pointer none, .slice none 0 0, .slice none 0 0, .iface ta va, .iface tb vb] 47 (0, 0))) (hlo : lo ≤ r) (h1 : NodeGives lo w (.iface ta va) t1) (h2 : NodeGives lo w (.iface tb vb) t2) :
    NodeGives lo w (.iface 38 (.pointer (some ⟨r, 0, none⟩))) (.mk 48 ⟨#[]⟩ ⟨#[]⟩ 0 [t1, t2]) :=
  gives_type hr hlo way_types.2.1 fun W hk hs hW => typeNodeDictType_gives r _ _ t1 t2 W hW (gives_expr hk hs h1) (gives_expr hk hs h2)


theorem givePropertyType {lo r : Nat} {w : World} {ad : Option Addr} {tb : TypeId} {vb : Value} {t1 t2 : Tr} (hr : w.heap[r]? = some (.cells #[.pointer none, .slice none 0 0, .slice none 0 0, .pointer ad, .iface tb vb] 69 (0, 0))) (hlo : lo ≤ r) (h1 : OptG lo w ad t1) (h2 : NodeGives lo w (.iface tb vb) t2) :
    NodeGives lo w (.iface 67 (.pointer (some ⟨r, 0, none⟩))) (.mk 50 ⟨#[]⟩ ⟨#[]⟩ 0 [t1, t2]) :=
  gives_type hr hlo way_types.2.2.2.1 fun W hk hs hW => typeNodePropertyType_gives r _ _ t1 t2 W hW (gives_name hk hs h1) (gives_expr hk hs h2)


theorem giveParameterType {lo r : Nat} {w : World} {ad : Option Addr} {tb : TypeId} {vb : Value} {t1 t2 : Tr} {kd : ByteArray} {u : Nat} (hr : w.heap[r]? = some (.cells #[.pointer none, .slice none 0 0, .slice none 0 0, .pointer ad, .iface tb vb, .string kd] 63 (0, 0))) (hlo : lo ≤ r) (hu : kd = ⟨#[79, 112, 116, 105, 111, 110, 97, 108]⟩ ∧ u = 1 ∨ kd = ⟨#[80, 105, 112, 101]⟩ ∧ u = 2 ∨ kd ≠ ⟨#[79, 112, 116, 105, 111, 110, 97, 108]⟩ ∧ kd ≠ ⟨#[80, 105, 112, 101]⟩ ∧ u = 0) (h1 : OptG lo w ad t1) (h2 : NodeGives lo w (.iface tb vb) t2) :
    NodeGives lo w (.iface 59 (.pointer (some ⟨r, 0, none⟩))) (.mk 52 ⟨#[]⟩ ⟨#[]⟩ u [t1, t2]) :=
  gives_type hr hlo way_types.2.2.2.2.2.1 fun W hk hs hW => typeNodeParameterType_gives r _ _ kd u hu t1 t2 W hW (gives_name hk hs h1) (gives_expr hk hs h2)


theorem giveRecordType {lo r : Nat} {w : World} {ad : Option Addr} {al : Option Addr} {n c : Nat} {t1 : Tr} {kids : List Tr} (hr : w.heap[r]? = some (.cells #[.pointer none, .slice none 0 0, .slice none 0 0, .slice al n c, .pointer ad] 314 (0, 0))) (hlo : lo ≤ r) (hlen : kids.length ≤ 1000) (h1 : OptG lo w ad t1) (h2 : RowG 67 67 lo w (.slice al n c) kids) :
    NodeGives lo w (.iface 311 (.pointer (some ⟨r, 0, none⟩))) (.mk 49 ⟨#[]⟩ ⟨#[]⟩ 0 (t1 :: kids)) :=
  gives_type hr hlo way_types.2.2.1 fun W hk hs hW => typeNodeRecordType_gives r _ al n c t1 kids hlen W hW (gives_name hk hs h1) fun W2 hb => by
    obtain ⟨hn, g, pv, l1, l2, l3⟩ := h2.list hk hs hb
    exact listPropertyType_gives al g 0 c pv kids n hn.symm (by omega) lo W2 l1 l2 l3


theorem giveFunctionType {lo r : Nat} {w : World} {ta : TypeId} {va : Value} {al : Option Addr} {n c : Nat} {t1 : Tr} {kids : List Tr} (hr : w.heap[r]? = some (.cells #[.pointer none, .slice none 0 0, .slice none 0 0, .slice al n c, .iface ta va] 319 (0, 0))) (hlo : lo ≤ r) (hlen : kids.length ≤ 1000) (h1 : NodeGives lo w (.iface ta va) t1) (h2 : RowG 59 59 lo w (.slice al n c) kids) :
    NodeGives lo w (.iface 316 (.pointer (some ⟨r, 0, none⟩))) (.mk 51 ⟨#[]⟩ ⟨#[]⟩ 0 (t1 :: kids)) :=
  gives_type hr hlo way_types.2.2.2.2.1 fun W hk hs hW => typeNodeFunctionType_gives r _ al n c t1 kids hlen W hW (gives_expr hk hs h1) fun W2 hb => by
    obtain ⟨hn, g, pv, l1, l2, l3⟩ := h2.list hk hs hb
    exact listParameterType_gives al g 0 c pv kids n hn.symm (by omega) lo W2 l1 l2 l3


theorem giveTypeConstraint {lo r : Nat} {w : World} {ad : Option Addr} {al : Option Addr} {n c : Nat} {t1 : Tr} {kids : List Tr} (hr : w.heap[r]? = some (.cells #[.pointer none, .slice none 0 0, .slice none 0 0, .pointer ad, .slice al n c] 288 (0, 0))) (hlo : lo ≤ r) (hlen : kids.length ≤ 1000) (h1 : OptG lo w ad t1) (h2 : RowG 60 60 lo w (.slice al n c) kids) :
    NodeGives lo w (.iface 285 (.pointer (some ⟨r, 0, none⟩))) (.mk 53 ⟨#[]⟩ ⟨#[]⟩ 0 (t1 :: kids)) :=
  gives_type hr hlo way_types.2.2.2.2.2.2.1 fun W hk hs hW => typeNodeTypeConstraint_gives r _ al n c t1 kids hlen W hW (gives_name hk hs h1) fun W2 hb => by
    obtain ⟨hn, g, pv, l1, l2, l3⟩ := h2.list hk hs hb
    exact listIdentifier_gives al g 0 c pv kids n hn.symm (by omega) lo W2 l1 l2 l3


theorem giveTypeExpression {lo r : Nat} {w : World} {ta : TypeId} {va : Value} {al : Option Addr} {n c : Nat} {t1 : Tr} {kids : List Tr} (hr : w.heap[r]? = some (.cells #[.pointer none, .slice none 0 0, .slice none 0 0, .iface ta va, .slice al n c] 76 (0, 0))) (hlo : lo ≤ r) (hlen : kids.length ≤ 1000) (h1 : NodeGives lo w (.iface ta va) t1) (h2 : RowG 285 285 lo w (.slice al n c) kids) :
    NodeGives lo w (.iface 73 (.pointer (some ⟨r, 0, none⟩))) (.mk 44 ⟨#[]⟩ ⟨#[]⟩ 0 (t1 :: kids)) :=
  gives_type hr hlo way_types.2.2.2.2.2.2.2.1 fun W hk hs hW => typeNodeTypeExpression_gives r _ al n c t1 kids hlen W hW (gives_expr hk hs h1) fun W2 hb => by
    obtain ⟨hn, g, pv, l1, l2, l3⟩ := h2.list hk hs hb
    exact listTypeConstraint_gives al g 0 c pv kids n hn.symm (by omega) lo W2 l1 l2 l3


/-- An identifier. -/
theorem giveIdentifier {lo r : Nat} {w : World} {x : ByteArray} (hx : x.size ≤ maxLen) (hr : w.heap[r]? = some (.cells #[.pointer none, .slice none 0 0, .slice none 0 0, .string x] 105 (0, 0))) (hlo : lo ≤ r) : NodeGives lo w (.iface 60 (.pointer (some ⟨r, 0, none⟩))) (idT x) := fun W h1 h2 =>
  (nodeIdentifier r x W ((h1 r hlo (Array.getElem?_eq_some_iff.1 hr).1).trans hr)).mono fun e w' h => ⟨none, 0, h.1, .leaf (by decide) (by decide) hx (by decide) none 0, h.2⟩

end Go.Proofs.YtgceklahjdbipaaGreatDoor
