/- impl.node over what was made: that it gives a tree, in every later world. impl.expressionOrNone, impl.orNone, impl.list: that they give trees. -/
import Derived.Test.YtgceklahjdbipaaGreatDoorNodeKid
import Derived.Test.YtgceklahjdbipaaGreatDoorMakerAll
import Derived.Test.YtgceklahjdbipaaGreatDoorMagRow
import Derived.Deep.AppendLies
namespace Go.Proofs.YtgceklahjdbipaaGreatDoor
open Go Go.RowKit
set_option linter.unusedVariables false
set_option linter.unusedSimpArgs false

/-- A plain node is returned that is the tree. -/
def Gives (tr : Tr) (w : World) (e : Ending) (w' : World) : Prop :=
  ∃ a c, e = .returned (.agg #[.int .i64 tr.kind, .string tr.text, .string tr.more, .int .u64 tr.num, .slice a tr.kids.length c]) ∧ NodeIn w' (fun r => w.heap.size ≤ r ∧ r < w'.heap.size) tr (nodeU tr.kind tr.text tr.more tr.num a tr.kids.length c) ∧ Below w.heap.size w w'

/-- .. in every later world in which what was made from a block on stands. -/
def NodeGives (lo : Nat) (w : World) (x : Value) (tr : Tr) : Prop :=
  ∀ W, (∀ r, lo ≤ r → r < w.heap.size → W.heap[r]? = w.heap[r]?) → w.heap.size ≤ W.heap.size → Calls Tryz.prog 19 #[x] W (Gives tr W)

theorem NodeGives.later {lo : Nat} {w w' : World} {x : Value} {tr : Tr} (h : NodeGives lo w x tr) (hk : ∀ r, lo ≤ r → r < w.heap.size → w'.heap[r]? = w.heap[r]?) (hs : w.heap.size ≤ w'.heap.size) : NodeGives lo w' x tr :=
  fun W h1 h2 => h W (fun r hr hr2 => (h1 r hr (by omega)).trans (hk r hr hr2)) (by omega)

theorem NodeGives.low {lo lo' : Nat} {w : World} {x : Value} {tr : Tr} (h : NodeGives lo w x tr) (hl : lo' ≤ lo) : NodeGives lo' w x tr :=
  fun W h1 h2 => h W (fun r hr hr2 => h1 r (by omega) hr2) h2

theorem NodeGives.below {lo : Nat} {w w' : World} {x : Value} {tr : Tr} (h : NodeGives lo w x tr) (hb : Below w.heap.size w w') : NodeGives lo w' x tr :=
  h.later (fun r _ hr => hb.block r hr) hb.size

theorem NodeGives.now {lo : Nat} {w w' : World} {x : Value} {tr : Tr} (h : NodeGives lo w x tr) (hb : Below w.heap.size w w') : Calls Tryz.prog 19 #[x] w' (Gives tr w') := h w' (fun r _ hr => hb.block r hr) hb.size

/-- Plain nodes in a row of the call's own. -/
def RowNodes (w : World) (lo : Nat) (v : Value) (kids : List Tr) : Prop :=
  ∃ us : List (List Value), us.length = kids.length ∧ (∀ u ∈ us, u.length = 5 ∧ ∀ x ∈ u, x.oneCell' = true) ∧ w.ownsRow lo 25 5 v kids.length us.flatten ∧
    ∀ i (h : i < kids.length) (h2 : i < us.length), NodeIn w (fun r => lo ≤ r ∧ r < w.heap.size ∧ v.ownBlock ≠ some r) kids[i] (.agg us[i].toArray)

theorem flat5_at : ∀ (us : List (List Value)), (∀ u ∈ us, u.length = 5) → ∀ (i j : Nat) (h : i < us.length), j < 5 → us.flatten[i * 5 + j]? = us[i][j]?
  | [], _, i, j, h, _ => absurd h (Nat.not_lt_zero _)
  | u :: us, hl, 0, j, _, hj => by
    rw [List.flatten_cons, List.getElem?_append_left (by rw [hl u (by simp)]; omega)]
    simp
  | u :: us, hl, i + 1, j, h, hj => by
    rw [List.flatten_cons, List.getElem?_append_right (by rw [hl u (by simp)]; omega), hl u (by simp), show (i + 1) * 5 + j - 5 = i * 5 + j by omega, flat5_at us (fun x hx => hl x (by simp [hx])) i j (by simpa using h) hj]
    simp

/-- .. are the nodes of a node. -/
theorem RowNodes.node {w : World} {lo : Nat} {a : Option Addr} {n c : Nat} {kids : List Tr} (h : RowNodes w lo (.slice a n c) kids) (hn : n = kids.length) (hm : kids.length ≤ maxLen) {k : Int} (hk : -9223372036854775808 ≤ k ∧ k ≤ 9223372036854775807) {t m : ByteArray} (ht : t.size ≤ maxLen) (hm2 : m.size ≤ maxLen) {u : Int} (hu : 0 ≤ u ∧ u ≤ 18446744073709551615) :
    NodeIn w (fun r => lo ≤ r ∧ r < w.heap.size) (.mk k t m u kids) (nodeU k t m u a kids.length c) := by
  obtain ⟨us, h1, h2, h3, h4⟩ := h
  subst hn
  rcases h3.2 with ⟨e, h0⟩ | ⟨g, cap, cur, e, hb, hg, hc, hcm, hsz, htk⟩
  · have hl0 : kids = [] := List.length_eq_zero_iff.1 h0
    subst hl0
    exact NodeIn.leaf hk hu ht hm2 a c
  · cases e
    have hlt : g < w.heap.size := (Array.getElem?_eq_some_iff.1 hg).1
    exact NodeIn.mk (w := w) (B := fun r => lo ≤ r ∧ r < w.heap.size) (ks := kids) g 0 (fun i => if h : i < us.length then .agg us[i].toArray else default) hk hu ht hm2 hm hc (fun _ => ⟨rfl, hb, hlt⟩)
      (fun i hi => by
        have hil : i < us.length := by omega
        simp only [dif_pos hil]
        intro j hj
        have hu5 := (h2 us[i] (List.getElem_mem hil)).1
        have hj5 : j < 5 := by simpa [hu5] using hj
        have e1 := flat5_at us (fun u hu => (h2 u hu).1) i j hil hj5
        have e2 := h3.cells (g := g) rfl (i * 5 + j) (us[i][j]'(by omega)) (by rw [e1, List.getElem?_eq_getElem])
        rw [Nat.zero_add]
        have e3 : ((⟨g, 0, none⟩ : Addr).add (i * 5 + j)) = ⟨g, i * 5 + j, none⟩ := by rw [add_at, Nat.zero_add]
        rw [e3] at e2
        rw [e2]
        simp [List.getElem?_eq_getElem, hu5, hj5])
      (fun i hi => by
        have hil : i < us.length := by omega
        simp only [dif_pos hil]
        exact (h4 i hi hil).mono fun b hb => ⟨hb.1, hb.2.1⟩)

theorem RowNodes.nil (w : World) (lo : Nat) : RowNodes w lo (.slice none 0 0) [] :=
  ⟨[], rfl, (fun u hu => by cases hu), World.ownsRow_nil _ _ _ _, fun i h _ => absurd h (Nat.not_lt_zero _)⟩

/-- The cells of a plain node. -/
def nodeL (tr : Tr) (a : Option Addr) (c : Nat) : List Value := [.int .i64 tr.kind, .string tr.text, .string tr.more, .int .u64 tr.num, .slice a tr.kids.length c]

theorem nodeL_one (tr : Tr) (a : Option Addr) (c : Nat) : (nodeL tr a c).length = 5 ∧ ∀ x ∈ nodeL tr a c, x.oneCell' = true := by
  refine ⟨rfl, fun x hx => ?_⟩
  simp [nodeL] at hx
  rcases hx with rfl | rfl | rfl | rfl | rfl <;> rfl

/-- One more. -/
theorem RowNodes.snoc {w w4 w5 : World} {lo : Nat} {v v' : Value} {kids : List Tr} {tr : Tr} {a : Option Addr} {c : Nat} {us : List (List Value)} (h1 : us.length = kids.length) (h2 : ∀ u ∈ us, u.length = 5 ∧ ∀ x ∈ u, x.oneCell' = true)
    (h4 : ∀ i (h : i < kids.length) (h2 : i < us.length), NodeIn w (fun r => lo ≤ r ∧ r < w.heap.size ∧ v.ownBlock ≠ some r) kids[i] (.agg us[i].toArray)) (hlo : lo ≤ w.heap.size) (hvlt : ∀ r, v.ownBlock = some r → r < w.heap.size)
    (hb4 : Below w.heap.size w w4) (hn4 : NodeIn w4 (fun r => w.heap.size ≤ r ∧ r < w4.heap.size) tr (nodeU tr.kind tr.text tr.more tr.num a tr.kids.length c)) (hg : ∀ r, r < w4.heap.size → v.ownBlock ≠ some r → w5.heap[r]? = w4.heap[r]?) (hs : w4.heap.size ≤ w5.heap.size)
    (hv : v'.ownBlock = v.ownBlock ∨ ∃ g, v'.ownBlock = some g ∧ w4.heap.size ≤ g) (hown : w5.ownsRow lo 25 5 v' (kids.length + 1) (us.flatten ++ nodeL tr a c)) : RowNodes w5 lo v' (kids ++ [tr]) := by
  have hs4 := hb4.size
  have hne : ∀ r, r < w4.heap.size → v.ownBlock ≠ some r → v'.ownBlock ≠ some r := fun r hr h => by
    rcases hv with e | ⟨g, e, hg⟩
    · rw [e]; exact h
    · rw [e]; intro e2; cases e2; omega
  have hnew : NodeIn w5 (fun r => lo ≤ r ∧ r < w5.heap.size ∧ v'.ownBlock ≠ some r) tr (nodeU tr.kind tr.text tr.more tr.num a tr.kids.length c) := by
    refine NodeIn.mono (B := fun r => w.heap.size ≤ r ∧ r < w4.heap.size) (fun b hb => ?_) (NodeIn.keep (w := w4) (fun b hb => hg b hb.2 fun e => ?_) hn4)
    · exact ⟨by omega, by omega, hne b hb.2 fun e => by have := hvlt b e; omega⟩
    · have := hvlt b e
      omega
  refine ⟨us ++ [nodeL tr a c], by simp [h1], fun u hu => ?_, ?_, fun i hi hi2 => ?_⟩
  · rcases List.mem_append.1 hu with hu | hu
    · exact h2 u hu
    · rw [List.mem_singleton] at hu
      rw [hu]
      exact nodeL_one tr a c
  · rw [List.length_append, List.flatten_append]
    simpa using hown
  · by_cases hil : i < kids.length
    · have e0 : (kids ++ [tr])[i] = kids[i] := List.getElem_append_left hil
      have e : (us ++ [nodeL tr a c])[i] = us[i]'(by omega) := List.getElem_append_left (by omega)
      rw [e0, e]
      refine NodeIn.mono (B := fun r => lo ≤ r ∧ r < w.heap.size ∧ v.ownBlock ≠ some r) (fun b hb => ⟨hb.1, by omega, hne b (by omega) hb.2.2⟩) (NodeIn.keep (w := w) (fun b hb => ?_) (h4 i hil (by omega)))
      exact (hg b (by omega) hb.2.2).trans (hb4.block b hb.2.1)
    · have hie : i = kids.length := by simp at hi; omega
      subst hie
      have e1 : (kids ++ [tr])[kids.length] = tr := by simp
      have e2 : (us ++ [nodeL tr a c])[kids.length]'(by rw [List.length_append, h1]; simp) = nodeL tr a c := by simp [← h1]
      rw [e1, e2]
      exact hnew

theorem set_five {W : World} {b : Nat} {v0 v1 v2 v3 v4 : Value} {lo : Nat} {tr : Tr} {x : Value} (hb : b < lo) (h : NodeIn W (fun r => lo ≤ r ∧ r < W.heap.size) tr x) :
    NodeIn (((((W.setCell ⟨b, 0, none⟩ v0).setCell ⟨b, 1, none⟩ v1).setCell ⟨b, 2, none⟩ v2).setCell ⟨b, 3, none⟩ v3).setCell ⟨b, 4, none⟩ v4) (fun r => lo ≤ r ∧ r < (((((W.setCell ⟨b, 0, none⟩ v0).setCell ⟨b, 1, none⟩ v1).setCell ⟨b, 2, none⟩ v2).setCell ⟨b, 3, none⟩ v3).setCell ⟨b, 4, none⟩ v4).heap.size) tr x := by
  have hsz : (((((W.setCell ⟨b, 0, none⟩ v0).setCell ⟨b, 1, none⟩ v1).setCell ⟨b, 2, none⟩ v2).setCell ⟨b, 3, none⟩ v3).setCell ⟨b, 4, none⟩ v4).heap.size = W.heap.size := by simp [World.setCell]
  rw [hsz]
  refine NodeIn.keep (w := W) (fun r hr => ?_) h
  have hne : r ≠ b := by omega
  exact (Below.heap_setCell _ _ _ _ hne).trans ((Below.heap_setCell _ _ _ _ hne).trans ((Below.heap_setCell _ _ _ _ hne).trans ((Below.heap_setCell _ _ _ _ hne).trans (Below.heap_setCell _ _ _ _ hne))))

theorem set_five_below {w W : World} (h : Below w.heap.size w W) (v0 v1 v2 v3 v4 : Value) :
    Below w.heap.size w (((((W.setCell ⟨w.heap.size, 0, none⟩ v0).setCell ⟨w.heap.size, 1, none⟩ v1).setCell ⟨w.heap.size, 2, none⟩ v2).setCell ⟨w.heap.size, 3, none⟩ v3).setCell ⟨w.heap.size, 4, none⟩ v4) :=
  ((((h.setCell (p := ⟨w.heap.size, 0, none⟩) (Nat.le_refl _) _).setCell (p := ⟨w.heap.size, 1, none⟩) (Nat.le_refl _) _).setCell (p := ⟨w.heap.size, 2, none⟩) (Nat.le_refl _) _).setCell (p := ⟨w.heap.size, 3, none⟩) (Nat.le_refl _) _).setCell (p := ⟨w.heap.size, 4, none⟩) (Nat.le_refl _) _

theorem iface_eql (t : TypeId) (v : Value) (W : World) : (binOp .eql 83 (.iface t v) .nilIface).run Tryz.prog W = .ok (.bool false) W := by
  have h : ∀ d : Nat, (Op.equalIn (d + 1) 83 (.iface t v) .nilIface).run Tryz.prog W = .ok false W := fun d => by
    simp [Op.equalIn, run_underlying Tryz.underlying83]
  have h9 : (Op.equal 83 (.iface t v) .nilIface).run Tryz.prog W = .ok false W := h 9999
  simp [binOp, h9]

set_option maxHeartbeats 4000000 in
set_option maxRecDepth 100000 in
theorem exprOrNone_gives (t : TypeId) (v : Value) (tr : Tr) (w : World) (h : Calls Tryz.prog 19 #[.iface t v] (w.alloc (.cells #[.int .i64 0, .string ⟨#[]⟩, .string ⟨#[]⟩, .int .u64 0, .slice none 0 0] 25)) (Gives tr (w.alloc (.cells #[.int .i64 0, .string ⟨#[]⟩, .string ⟨#[]⟩, .int .u64 0, .slice none 0 0] 25)))) :
    Calls Tryz.prog 40 #[.iface t v] w (Gives tr w) := by
  have hb0 := (Below.refl w.heap.size w).alloc (Nat.le_refl _) (.cells #[.int .i64 0, .string ⟨#[]⟩, .string ⟨#[]⟩, .int .u64 0, .slice none 0 0] 25)
  have hr0 := heap_alloc_new w (.cells #[.int .i64 0, .string ⟨#[]⟩, .string ⟨#[]⟩, .int .u64 0, .slice none 0 0] 25)
  have hs0 : (w.alloc (.cells #[.int .i64 0, .string ⟨#[]⟩, .string ⟨#[]⟩, .int .u64 0, .slice none 0 0] 25)).heap.size = w.heap.size + 1 := alloc_size _ _
  have HD := Lib.hid h
  have HB0 := Lib.hid hb0
  have HR0 := Lib.hid hr0
  have HS0 := Lib.hid hs0
  have heq := iface_eql t v
  have HP : Hid (∀ e w', Gives tr w e w' → Gives tr w e w') := Lib.hid fun _ _ h => h
  clear h hb0 hr0 hs0
  go_enter Tryz.func40, Tryz.ntmps40
  go_wp2_with fail
  ((with_reducible refine HD.out.mono ?_))
  rintro e w1 ⟨a, c, rfl, hn1, hb1⟩
  have hr1 : w1.heap[w.heap.size]? = some (.cells #[.int .i64 0, .string ⟨#[]⟩, .string ⟨#[]⟩, .int .u64 0, .slice none 0 0] 25 (0, 0)) := (hb1.block _ (Array.getElem?_eq_some_iff.1 HR0.out).1).trans HR0.out
  have z0 : w1.cell? ⟨w.heap.size, 0, none⟩ = some (.int .i64 0) := by rw [Lib.cell_of_heap hr1]; rfl
  have z1 : w1.cell? ⟨w.heap.size, 1, none⟩ = some (.string ⟨#[]⟩) := by rw [Lib.cell_of_heap hr1]; rfl
  have z2 : w1.cell? ⟨w.heap.size, 2, none⟩ = some (.string ⟨#[]⟩) := by rw [Lib.cell_of_heap hr1]; rfl
  have z3 : w1.cell? ⟨w.heap.size, 3, none⟩ = some (.int .u64 0) := by rw [Lib.cell_of_heap hr1]; rfl
  have z4 : w1.cell? ⟨w.heap.size, 4, none⟩ = some (.slice none 0 0) := by rw [Lib.cell_of_heap hr1]; rfl
  have y0 := Lib.frozen_of_heap hr1 0
  have y1 := Lib.frozen_of_heap hr1 1
  have y2 := Lib.frozen_of_heap hr1 2
  have y3 := Lib.frozen_of_heap hr1 3
  have y4 := Lib.frozen_of_heap hr1 4
  have HN1 := Lib.hid hn1
  have HB1 := Lib.hid (HB0.out.trans (hb1.mono HB0.out.size))
  have HR1 := Lib.hid hr1
  clear hb1 hr1 hn1
  go_wp2
  have u0 := row_setG (row_setG (row_setG (row_setG (row_setG HR1.out 0 (.int .i64 tr.kind)) 1 (.string tr.text)) 2 (.string tr.more)) 3 (.int .u64 tr.num)) 4 (.slice a tr.kids.length c)
  have u1 := set_five_below HB1.out (.int .i64 tr.kind) (.string tr.text) (.string tr.more) (.int .u64 tr.num) (.slice a tr.kids.length c)
  have u2 := set_five (b := w.heap.size) (v0 := .int .i64 tr.kind) (v1 := .string tr.text) (v2 := .string tr.more) (v3 := .int .u64 tr.num) (v4 := .slice a tr.kids.length c) (by rw [HS0.out]; omega) HN1.out
  generalize (((((w1.setCell ⟨w.heap.size, 0, none⟩ (.int .i64 tr.kind)).setCell ⟨w.heap.size, 1, none⟩ (.string tr.text)).setCell ⟨w.heap.size, 2, none⟩ (.string tr.more)).setCell ⟨w.heap.size, 3, none⟩ (.int .u64 tr.num)).setCell ⟨w.heap.size, 4, none⟩ (.slice a tr.kids.length c)) = F at *
  have q0 : F.cell? ⟨w.heap.size, 0, none⟩ = some (.int .i64 tr.kind) := by rw [Lib.cell_of_heap u0]; rfl
  have q1 : F.cell? ⟨w.heap.size, 1, none⟩ = some (.string tr.text) := by rw [Lib.cell_of_heap u0]; rfl
  have q2 : F.cell? ⟨w.heap.size, 2, none⟩ = some (.string tr.more) := by rw [Lib.cell_of_heap u0]; rfl
  have q3 : F.cell? ⟨w.heap.size, 3, none⟩ = some (.int .u64 tr.num) := by rw [Lib.cell_of_heap u0]; rfl
  have q4 : F.cell? ⟨w.heap.size, 4, none⟩ = some (.slice a tr.kids.length c) := by rw [Lib.cell_of_heap u0]; rfl
  rw [HS0.out] at u2
  refine bodyPost_ret (v := .agg #[.int .i64 tr.kind, .string tr.text, .string tr.more, .int .u64 tr.num, .slice a tr.kids.length c]) (by simp [results, Tryz.results40, go_sem, q0, q1, q2, q3, q4]) rfl ⟨a, c, rfl, u2.mono fun b hb => ⟨by omega, hb.2⟩, u1⟩

/-- Plain nodes are returned in a row. -/
def ListGives (kids : List Tr) (w : World) (e : Ending) (w' : World) : Prop := ∃ v, e = .returned v ∧ RowNodes w' w.heap.size v kids ∧ Below w.heap.size w w'


set_option maxHeartbeats 4000000 in
set_option maxRecDepth 100000 in
theorem listPropertyType_gives (ad : Option Addr) (g o c : Nat) (pv : Nat → Value) (kids : List Tr) (n : Nat) (hn : kids.length = n) (hlen : n ≤ 1000) (lo : Nat) (w : World) (had : 0 < n → ad = some ⟨g, o, none⟩ ∧ g < w.heap.size) (hrow : ∀ i, i < n → w.cell? ⟨g, o + i, none⟩ = some (pv i))
    (hg : ∀ i (h : i < kids.length), NodeGives lo w (.iface 67 (pv i)) kids[i]) :
    Calls Tryz.prog 99 #[.slice ad n c] w (ListGives kids w) := by
  obtain ⟨i0, hi, hz0, hz1, hz2⟩ := info_parts node_info
  have HAD := Lib.hid had
  have HROW := Lib.hid hrow
  have HG := Lib.hid hg
  have HP : Hid (∀ v w', RowNodes w' w.heap.size v (kids.take kids.length) → Below w.heap.size w w' → ListGives kids w (.returned v) w') := Lib.hid fun v w' h1 h2 => ⟨v, rfl, by rw [List.take_length] at h1; exact h1, h2⟩
  clear had hrow hg
  have HN : Hid (kids.length = n) := Lib.hid hn
  clear hn
  go_enter Tryz.func99, Tryz.ntmps99
  go_wp2
  go_loopw [3, 8] (fun vv i wr => ∃ j : Nat, j ≤ n ∧ i = .int .i64 j ∧ Hid (RowNodes wr w.heap.size vv (kids.take j)) ∧ Hid (Below w.heap.size w wr)) (fun _ i _ => n - (intOf i).toNat)
  case atStart => exact ⟨0, Nat.zero_le _, rfl, Lib.hid (RowNodes.nil _ _), Lib.hid (Below.refl _ _)⟩
  case round =>
    obtain ⟨j, hj, rfl, HRW, HB⟩ := hrel
    obtain ⟨us, r1, r2, r3, r4⟩ := HRW.out
    have hlj : (kids.take j).length = j := by rw [List.length_take, HN.out]; omega
    rw [hlj] at r3
    obtain ⟨a2, c2, rfl⟩ := slice_form r3
    by_cases hlt : j < n
    · have hlk : j < kids.length := by rw [HN.out]; exact hlt
      obtain ⟨rfl, hgl⟩ := HAD.out (by omega)
      have d0 := (HB.out.cell (p := ⟨g, o + j, none⟩) hgl).trans (HROW.out j hlt)
      have HNG := Lib.hid ((HG.out j hlk).now HB.out)
      have HTK : Hid (kids.take (j + 1) = kids.take j ++ [kids[j]]) := Lib.hid (List.take_succ_eq_append_getElem hlk)
      have hi1 : (j : Int) < n := by omega
      generalize kids[j] = tr at *
      generalize pv j = pj at *
      have HR1 := Lib.hid r1
      have HR2 := Lib.hid r2
      have HR3 := Lib.hid r3
      have HR4 := Lib.hid r4
      have HLJ := Lib.hid hlj
      clear r1 r2 r3 r4 hlj HAD HROW HG hlk
      go_wp2_with fail
      ((with_reducible refine HNG.out.mono ?_))
      rintro e w4 ⟨a, c4, rfl, hn4, hb4⟩
      have HB4 := Lib.hid hb4
      have HN4 := Lib.hid hn4
      have HO4 := Lib.hid (World.ownsRow.kept HR3.out (grownBy_below hb4) (hown_or HR3.out))
      have hsz : w.heap.size ≤ w4.heap.size := Nat.le_trans HB.out.size hb4.size
      have hmx : j + 1 ≤ maxLen := by unfold maxLen; omega
      have hbl : (j + 1) * 72 ≤ 140737488355328 := by omega
      clear hb4 hn4 HNG d0
      go_wp2_with (at_builtin; refine wpList_append_own2 rfl _ _ 23 rfl w.heap.size 25 i0 _ 5 72 Tryz.underlying23 hi hz0 hz1 hz2 rfl (by decide) _ _ _ rfl (World.ownsRow.kept HO4.out (grownBy_below ((Below.refl _ w4).alloc (Nat.le_refl _) _)) (hown_or HO4.out)) _ 1 1 (nodeL tr a c4) rfl rfl ?c1 ?c2 hmx hbl ?c3 ?_)
      case c1 => exact World.news_of_block (cs := #[.int .i64 tr.kind, .string tr.text, .string tr.more, .int .u64 tr.num, .slice a tr.kids.length c4]) (t := 25) (fr := (0, 0)) (heap_alloc_new w4 _)
      case c2 => exact (nodeL_one tr a c4).2
      case c3 => exact Nat.le_trans hsz (by rw [alloc_size]; omega)
      intro v' w5 hown' hgrow hgb
      obtain ⟨a', c', rfl⟩ := slice_form hown'
      have hal := (Below.refl w4.heap.size w4).alloc (Nat.le_refl _) (.cells #[.int .i64 tr.kind, .string tr.text, .string tr.more, .int .u64 tr.num, .slice a tr.kids.length c4] 25)
      have hs4 := alloc_size w4 (.cells #[.int .i64 tr.kind, .string tr.text, .string tr.more, .int .u64 tr.num, .slice a tr.kids.length c4] 25)
      have hb5 : Below w.heap.size w w5 := ((HB.out.trans (HB4.out.mono HB.out.size)).alloc hsz _).grown hgrow (by rw [hs4]; omega) (fun k e => (HO4.out.lt k e).1)
      have hrn := RowNodes.snoc (w := wr) (w4 := w4) (w5 := w5) (v' := .slice a' (j + 1) c') HR1.out HR2.out HR4.out HB.out.size (fun r e => (HR3.out.lt r e).2) HB4.out HN4.out (fun r hr hne => (hgrow.block r (by omega) (fun e => hne e.symm)).trans (hal.block r hr)) (by have := hgrow.size; omega) (hgb.imp id fun ⟨g', e1, e2⟩ => ⟨g', e1, by omega⟩) (by rw [HLJ.out]; exact hown')
      rw [← HTK.out] at hrn
      have HRN := Lib.hid hrn
      have HB5 := Lib.hid hb5
      clear hown' hgrow hgb hb5 hrn hal hs4
      go_wp2
      go_roundw
      case rel => exact ⟨j + 1, by omega, by go_num, HRN, HB5⟩
      case measure => simp [intOf]; omega
    · have hje : j = n := by omega
      subst hje
      clear r1 r2 r3 r4
      go_wp2
      go_ret
      exact HP.out _ _ (by rw [HN.out]; exact HRW.out) HB.out


set_option maxHeartbeats 4000000 in
set_option maxRecDepth 100000 in
theorem listParameterType_gives (ad : Option Addr) (g o c : Nat) (pv : Nat → Value) (kids : List Tr) (n : Nat) (hn : kids.length = n) (hlen : n ≤ 1000) (lo : Nat) (w : World) (had : 0 < n → ad = some ⟨g, o, none⟩ ∧ g < w.heap.size) (hrow : ∀ i, i < n → w.cell? ⟨g, o + i, none⟩ = some (pv i))
    (hg : ∀ i (h : i < kids.length), NodeGives lo w (.iface 59 (pv i)) kids[i]) :
    Calls Tryz.prog 100 #[.slice ad n c] w (ListGives kids w) := by
  obtain ⟨i0, hi, hz0, hz1, hz2⟩ := info_parts node_info
  have HAD := Lib.hid had
  have HROW := Lib.hid hrow
  have HG := Lib.hid hg
  have HP : Hid (∀ v w', RowNodes w' w.heap.size v (kids.take kids.length) → Below w.heap.size w w' → ListGives kids w (.returned v) w') := Lib.hid fun v w' h1 h2 => ⟨v, rfl, by rw [List.take_length] at h1; exact h1, h2⟩
  clear had hrow hg
  have HN : Hid (kids.length = n) := Lib.hid hn
  clear hn
  go_enter Tryz.func100, Tryz.ntmps100
  go_wp2
  go_loopw [3, 8] (fun vv i wr => ∃ j : Nat, j ≤ n ∧ i = .int .i64 j ∧ Hid (RowNodes wr w.heap.size vv (kids.take j)) ∧ Hid (Below w.heap.size w wr)) (fun _ i _ => n - (intOf i).toNat)
  case atStart => exact ⟨0, Nat.zero_le _, rfl, Lib.hid (RowNodes.nil _ _), Lib.hid (Below.refl _ _)⟩
  case round =>
    obtain ⟨j, hj, rfl, HRW, HB⟩ := hrel
    obtain ⟨us, r1, r2, r3, r4⟩ := HRW.out
    have hlj : (kids.take j).length = j := by rw [List.length_take, HN.out]; omega
    rw [hlj] at r3
    obtain ⟨a2, c2, rfl⟩ := slice_form r3
    by_cases hlt : j < n
    · have hlk : j < kids.length := by rw [HN.out]; exact hlt
      obtain ⟨rfl, hgl⟩ := HAD.out (by omega)
      have d0 := (HB.out.cell (p := ⟨g, o + j, none⟩) hgl).trans (HROW.out j hlt)
      have HNG := Lib.hid ((HG.out j hlk).now HB.out)
      have HTK : Hid (kids.take (j + 1) = kids.take j ++ [kids[j]]) := Lib.hid (List.take_succ_eq_append_getElem hlk)
      have hi1 : (j : Int) < n := by omega
      generalize kids[j] = tr at *
      generalize pv j = pj at *
      have HR1 := Lib.hid r1
      have HR2 := Lib.hid r2
      have HR3 := Lib.hid r3
      have HR4 := Lib.hid r4
      have HLJ := Lib.hid hlj
      clear r1 r2 r3 r4 hlj HAD HROW HG hlk
      go_wp2_with fail
      ((with_reducible refine HNG.out.mono ?_))
      rintro e w4 ⟨a, c4, rfl, hn4, hb4⟩
      have HB4 := Lib.hid hb4
      have HN4 := Lib.hid hn4
      have HO4 := Lib.hid (World.ownsRow.kept HR3.out (grownBy_below hb4) (hown_or HR3.out))
      have hsz : w.heap.size ≤ w4.heap.size := Nat.le_trans HB.out.size hb4.size
      have hmx : j + 1 ≤ maxLen := by unfold maxLen; omega
      have hbl : (j + 1) * 72 ≤ 140737488355328 := by omega
      clear hb4 hn4 HNG d0
      go_wp2_with (at_builtin; refine wpList_append_own2 rfl _ _ 23 rfl w.heap.size 25 i0 _ 5 72 Tryz.underlying23 hi hz0 hz1 hz2 rfl (by decide) _ _ _ rfl (World.ownsRow.kept HO4.out (grownBy_below ((Below.refl _ w4).alloc (Nat.le_refl _) _)) (hown_or HO4.out)) _ 1 1 (nodeL tr a c4) rfl rfl ?c1 ?c2 hmx hbl ?c3 ?_)
      case c1 => exact World.news_of_block (cs := #[.int .i64 tr.kind, .string tr.text, .string tr.more, .int .u64 tr.num, .slice a tr.kids.length c4]) (t := 25) (fr := (0, 0)) (heap_alloc_new w4 _)
      case c2 => exact (nodeL_one tr a c4).2
      case c3 => exact Nat.le_trans hsz (by rw [alloc_size]; omega)
      intro v' w5 hown' hgrow hgb
      obtain ⟨a', c', rfl⟩ := slice_form hown'
      have hal := (Below.refl w4.heap.size w4).alloc (Nat.le_refl _) (.cells #[.int .i64 tr.kind, .string tr.text, .string tr.more, .int .u64 tr.num, .slice a tr.kids.length c4] 25)
      have hs4 := alloc_size w4 (.cells #[.int .i64 tr.kind, .string tr.text, .string tr.more, .int .u64 tr.num, .slice a tr.kids.length c4] 25)
      have hb5 : Below w.heap.size w w5 := ((HB.out.trans (HB4.out.mono HB.out.size)).alloc hsz _).grown hgrow (by rw [hs4]; omega) (fun k e => (HO4.out.lt k e).1)
      have hrn := RowNodes.snoc (w := wr) (w4 := w4) (w5 := w5) (v' := .slice a' (j + 1) c') HR1.out HR2.out HR4.out HB.out.size (fun r e => (HR3.out.lt r e).2) HB4.out HN4.out (fun r hr hne => (hgrow.block r (by omega) (fun e => hne e.symm)).trans (hal.block r hr)) (by have := hgrow.size; omega) (hgb.imp id fun ⟨g', e1, e2⟩ => ⟨g', e1, by omega⟩) (by rw [HLJ.out]; exact hown')
      rw [← HTK.out] at hrn
      have HRN := Lib.hid hrn
      have HB5 := Lib.hid hb5
      clear hown' hgrow hgb hb5 hrn hal hs4
      go_wp2
      go_roundw
      case rel => exact ⟨j + 1, by omega, by go_num, HRN, HB5⟩
      case measure => simp [intOf]; omega
    · have hje : j = n := by omega
      subst hje
      clear r1 r2 r3 r4
      go_wp2
      go_ret
      exact HP.out _ _ (by rw [HN.out]; exact HRW.out) HB.out


set_option maxHeartbeats 4000000 in
set_option maxRecDepth 100000 in
theorem listTypeConstraint_gives (ad : Option Addr) (g o c : Nat) (pv : Nat → Value) (kids : List Tr) (n : Nat) (hn : kids.length = n) (hlen : n ≤ 1000) (lo : Nat) (w : World) (had : 0 < n → ad = some ⟨g, o, none⟩ ∧ g < w.heap.size) (hrow : ∀ i, i < n → w.cell? ⟨g, o + i, none⟩ = some (pv i))
    (hg : ∀ i (h : i < kids.length), NodeGives lo w (.iface 285 (pv i)) kids[i]) :
    Calls Tryz.prog 98 #[.slice ad n c] w (ListGives kids w) := by
  obtain ⟨i0, hi, hz0, hz1, hz2⟩ := info_parts node_info
  have HAD := Lib.hid had
  have HROW := Lib.hid hrow
  have HG := Lib.hid hg
  have HP : Hid (∀ v w', RowNodes w' w.heap.size v (kids.take kids.length) → Below w.heap.size w w' → ListGives kids w (.returned v) w') := Lib.hid fun v w' h1 h2 => ⟨v, rfl, by rw [List.take_length] at h1; exact h1, h2⟩
  clear had hrow hg
  have HN : Hid (kids.length = n) := Lib.hid hn
  clear hn
  go_enter Tryz.func98, Tryz.ntmps98
  go_wp2
  go_loopw [3, 8] (fun vv i wr => ∃ j : Nat, j ≤ n ∧ i = .int .i64 j ∧ Hid (RowNodes wr w.heap.size vv (kids.take j)) ∧ Hid (Below w.heap.size w wr)) (fun _ i _ => n - (intOf i).toNat)
  case atStart => exact ⟨0, Nat.zero_le _, rfl, Lib.hid (RowNodes.nil _ _), Lib.hid (Below.refl _ _)⟩
  case round =>
    obtain ⟨j, hj, rfl, HRW, HB⟩ := hrel
    obtain ⟨us, r1, r2, r3, r4⟩ := HRW.out
    have hlj : (kids.take j).length = j := by rw [List.length_take, HN.out]; omega
    rw [hlj] at r3
    obtain ⟨a2, c2, rfl⟩ := slice_form r3
    by_cases hlt : j < n
    · have hlk : j < kids.length := by rw [HN.out]; exact hlt
      obtain ⟨rfl, hgl⟩ := HAD.out (by omega)
      have d0 := (HB.out.cell (p := ⟨g, o + j, none⟩) hgl).trans (HROW.out j hlt)
      have HNG := Lib.hid ((HG.out j hlk).now HB.out)
      have HTK : Hid (kids.take (j + 1) = kids.take j ++ [kids[j]]) := Lib.hid (List.take_succ_eq_append_getElem hlk)
      have hi1 : (j : Int) < n := by omega
      generalize kids[j] = tr at *
      generalize pv j = pj at *
      have HR1 := Lib.hid r1
      have HR2 := Lib.hid r2
      have HR3 := Lib.hid r3
      have HR4 := Lib.hid r4
      have HLJ := Lib.hid hlj
      clear r1 r2 r3 r4 hlj HAD HROW HG hlk
      go_wp2_with fail
      ((with_reducible refine HNG.out.mono ?_))
      rintro e w4 ⟨a, c4, rfl, hn4, hb4⟩
      have HB4 := Lib.hid hb4
      have HN4 := Lib.hid hn4
      have HO4 := Lib.hid (World.ownsRow.kept HR3.out (grownBy_below hb4) (hown_or HR3.out))
      have hsz : w.heap.size ≤ w4.heap.size := Nat.le_trans HB.out.size hb4.size
      have hmx : j + 1 ≤ maxLen := by unfold maxLen; omega
      have hbl : (j + 1) * 72 ≤ 140737488355328 := by omega
      clear hb4 hn4 HNG d0
      go_wp2_with (at_builtin; refine wpList_append_own2 rfl _ _ 23 rfl w.heap.size 25 i0 _ 5 72 Tryz.underlying23 hi hz0 hz1 hz2 rfl (by decide) _ _ _ rfl (World.ownsRow.kept HO4.out (grownBy_below ((Below.refl _ w4).alloc (Nat.le_refl _) _)) (hown_or HO4.out)) _ 1 1 (nodeL tr a c4) rfl rfl ?c1 ?c2 hmx hbl ?c3 ?_)
      case c1 => exact World.news_of_block (cs := #[.int .i64 tr.kind, .string tr.text, .string tr.more, .int .u64 tr.num, .slice a tr.kids.length c4]) (t := 25) (fr := (0, 0)) (heap_alloc_new w4 _)
      case c2 => exact (nodeL_one tr a c4).2
      case c3 => exact Nat.le_trans hsz (by rw [alloc_size]; omega)
      intro v' w5 hown' hgrow hgb
      obtain ⟨a', c', rfl⟩ := slice_form hown'
      have hal := (Below.refl w4.heap.size w4).alloc (Nat.le_refl _) (.cells #[.int .i64 tr.kind, .string tr.text, .string tr.more, .int .u64 tr.num, .slice a tr.kids.length c4] 25)
      have hs4 := alloc_size w4 (.cells #[.int .i64 tr.kind, .string tr.text, .string tr.more, .int .u64 tr.num, .slice a tr.kids.length c4] 25)
      have hb5 : Below w.heap.size w w5 := ((HB.out.trans (HB4.out.mono HB.out.size)).alloc hsz _).grown hgrow (by rw [hs4]; omega) (fun k e => (HO4.out.lt k e).1)
      have hrn := RowNodes.snoc (w := wr) (w4 := w4) (w5 := w5) (v' := .slice a' (j + 1) c') HR1.out HR2.out HR4.out HB.out.size (fun r e => (HR3.out.lt r e).2) HB4.out HN4.out (fun r hr hne => (hgrow.block r (by omega) (fun e => hne e.symm)).trans (hal.block r hr)) (by have := hgrow.size; omega) (hgb.imp id fun ⟨g', e1, e2⟩ => ⟨g', e1, by omega⟩) (by rw [HLJ.out]; exact hown')
      rw [← HTK.out] at hrn
      have HRN := Lib.hid hrn
      have HB5 := Lib.hid hb5
      clear hown' hgrow hgb hb5 hrn hal hs4
      go_wp2
      go_roundw
      case rel => exact ⟨j + 1, by omega, by go_num, HRN, HB5⟩
      case measure => simp [intOf]; omega
    · have hje : j = n := by omega
      subst hje
      clear r1 r2 r3 r4
      go_wp2
      go_ret
      exact HP.out _ _ (by rw [HN.out]; exact HRW.out) HB.out


set_option maxHeartbeats 4000000 in
set_option maxRecDepth 100000 in
theorem listIdentifier_gives (ad : Option Addr) (g o c : Nat) (pv : Nat → Value) (kids : List Tr) (n : Nat) (hn : kids.length = n) (hlen : n ≤ 1000) (lo : Nat) (w : World) (had : 0 < n → ad = some ⟨g, o, none⟩ ∧ g < w.heap.size) (hrow : ∀ i, i < n → w.cell? ⟨g, o + i, none⟩ = some (pv i))
    (hg : ∀ i (h : i < kids.length), NodeGives lo w (.iface 60 (pv i)) kids[i]) :
    Calls Tryz.prog 101 #[.slice ad n c] w (ListGives kids w) := by
  obtain ⟨i0, hi, hz0, hz1, hz2⟩ := info_parts node_info
  have HAD := Lib.hid had
  have HROW := Lib.hid hrow
  have HG := Lib.hid hg
  have HP : Hid (∀ v w', RowNodes w' w.heap.size v (kids.take kids.length) → Below w.heap.size w w' → ListGives kids w (.returned v) w') := Lib.hid fun v w' h1 h2 => ⟨v, rfl, by rw [List.take_length] at h1; exact h1, h2⟩
  clear had hrow hg
  have HN : Hid (kids.length = n) := Lib.hid hn
  clear hn
  go_enter Tryz.func101, Tryz.ntmps101
  go_wp2
  go_loopw [3, 8] (fun vv i wr => ∃ j : Nat, j ≤ n ∧ i = .int .i64 j ∧ Hid (RowNodes wr w.heap.size vv (kids.take j)) ∧ Hid (Below w.heap.size w wr)) (fun _ i _ => n - (intOf i).toNat)
  case atStart => exact ⟨0, Nat.zero_le _, rfl, Lib.hid (RowNodes.nil _ _), Lib.hid (Below.refl _ _)⟩
  case round =>
    obtain ⟨j, hj, rfl, HRW, HB⟩ := hrel
    obtain ⟨us, r1, r2, r3, r4⟩ := HRW.out
    have hlj : (kids.take j).length = j := by rw [List.length_take, HN.out]; omega
    rw [hlj] at r3
    obtain ⟨a2, c2, rfl⟩ := slice_form r3
    by_cases hlt : j < n
    · have hlk : j < kids.length := by rw [HN.out]; exact hlt
      obtain ⟨rfl, hgl⟩ := HAD.out (by omega)
      have d0 := (HB.out.cell (p := ⟨g, o + j, none⟩) hgl).trans (HROW.out j hlt)
      have HNG := Lib.hid ((HG.out j hlk).now HB.out)
      have HTK : Hid (kids.take (j + 1) = kids.take j ++ [kids[j]]) := Lib.hid (List.take_succ_eq_append_getElem hlk)
      have hi1 : (j : Int) < n := by omega
      generalize kids[j] = tr at *
      generalize pv j = pj at *
      have HR1 := Lib.hid r1
      have HR2 := Lib.hid r2
      have HR3 := Lib.hid r3
      have HR4 := Lib.hid r4
      have HLJ := Lib.hid hlj
      clear r1 r2 r3 r4 hlj HAD HROW HG hlk
      go_wp2_with fail
      ((with_reducible refine HNG.out.mono ?_))
      rintro e w4 ⟨a, c4, rfl, hn4, hb4⟩
      have HB4 := Lib.hid hb4
      have HN4 := Lib.hid hn4
      have HO4 := Lib.hid (World.ownsRow.kept HR3.out (grownBy_below hb4) (hown_or HR3.out))
      have hsz : w.heap.size ≤ w4.heap.size := Nat.le_trans HB.out.size hb4.size
      have hmx : j + 1 ≤ maxLen := by unfold maxLen; omega
      have hbl : (j + 1) * 72 ≤ 140737488355328 := by omega
      clear hb4 hn4 HNG d0
      go_wp2_with (at_builtin; refine wpList_append_own2 rfl _ _ 23 rfl w.heap.size 25 i0 _ 5 72 Tryz.underlying23 hi hz0 hz1 hz2 rfl (by decide) _ _ _ rfl (World.ownsRow.kept HO4.out (grownBy_below ((Below.refl _ w4).alloc (Nat.le_refl _) _)) (hown_or HO4.out)) _ 1 1 (nodeL tr a c4) rfl rfl ?c1 ?c2 hmx hbl ?c3 ?_)
      case c1 => exact World.news_of_block (cs := #[.int .i64 tr.kind, .string tr.text, .string tr.more, .int .u64 tr.num, .slice a tr.kids.length c4]) (t := 25) (fr := (0, 0)) (heap_alloc_new w4 _)
      case c2 => exact (nodeL_one tr a c4).2
      case c3 => exact Nat.le_trans hsz (by rw [alloc_size]; omega)
      intro v' w5 hown' hgrow hgb
      obtain ⟨a', c', rfl⟩ := slice_form hown'
      have hal := (Below.refl w4.heap.size w4).alloc (Nat.le_refl _) (.cells #[.int .i64 tr.kind, .string tr.text, .string tr.more, .int .u64 tr.num, .slice a tr.kids.length c4] 25)
      have hs4 := alloc_size w4 (.cells #[.int .i64 tr.kind, .string tr.text, .string tr.more, .int .u64 tr.num, .slice a tr.kids.length c4] 25)
      have hb5 : Below w.heap.size w w5 := ((HB.out.trans (HB4.out.mono HB.out.size)).alloc hsz _).grown hgrow (by rw [hs4]; omega) (fun k e => (HO4.out.lt k e).1)
      have hrn := RowNodes.snoc (w := wr) (w4 := w4) (w5 := w5) (v' := .slice a' (j + 1) c') HR1.out HR2.out HR4.out HB.out.size (fun r e => (HR3.out.lt r e).2) HB4.out HN4.out (fun r hr hne => (hgrow.block r (by omega) (fun e => hne e.symm)).trans (hal.block r hr)) (by have := hgrow.size; omega) (hgb.imp id fun ⟨g', e1, e2⟩ => ⟨g', e1, by omega⟩) (by rw [HLJ.out]; exact hown')
      rw [← HTK.out] at hrn
      have HRN := Lib.hid hrn
      have HB5 := Lib.hid hb5
      clear hown' hgrow hgb hb5 hrn hal hs4
      go_wp2
      go_roundw
      case rel => exact ⟨j + 1, by omega, by go_num, HRN, HB5⟩
      case measure => simp [intOf]; omega
    · have hje : j = n := by omega
      subst hje
      clear r1 r2 r3 r4
      go_wp2
      go_ret
      exact HP.out _ _ (by rw [HN.out]; exact HRW.out) HB.out

end Go.Proofs.YtgceklahjdbipaaGreatDoor
