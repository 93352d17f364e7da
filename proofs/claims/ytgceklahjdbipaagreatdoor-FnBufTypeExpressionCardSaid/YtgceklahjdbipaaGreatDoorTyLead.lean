/- impl.typeNode over types of one node and a list of nodes. -/
import Derived.Test.YtgceklahjdbipaaGreatDoorAppNodes
import Derived.Test.YtgceklahjdbipaaGreatDoorTyNode
namespace Go.Proofs.YtgceklahjdbipaaGreatDoor
open Go Go.RowKit
set_option linter.unusedVariables false
set_option linter.unusedSimpArgs false

/-- What is so ahead of the append. -/
structure JF (lo b : Nat) (t1 : Tr) (a1 : Option Addr) (c1 : Nat) (kids : List Tr) (v : Value) (W : World) : Prop where
  row : W.heap[b]? = some (.cells (nodeL t1 a1 c1).toArray 25 (0, 0))
  low : lo ≤ b
  one : NodeIn W (fun r => lo ≤ r ∧ r < W.heap.size ∧ r ≠ b) t1 (nodeU t1.kind t1.text t1.more t1.num a1 t1.kids.length c1)
  rest : RowFree W lo b v kids

theorem JF.first {w1 w2 : World} {lo lo1 : Nat} {t1 : Tr} {a1 : Option Addr} {c1 : Nat} {kids : List Tr} {v : Value} (hl : lo ≤ lo1) (hl1 : lo1 ≤ w1.heap.size) (hn : NodeIn w1 (fun r => lo1 ≤ r ∧ r < w1.heap.size) t1 (nodeU t1.kind t1.text t1.more t1.num a1 t1.kids.length c1))
    (hb : Below (w1.alloc (.cells (nodeL t1 a1 c1).toArray 25)).heap.size (w1.alloc (.cells (nodeL t1 a1 c1).toArray 25)) w2) (hr : RowNodes w2 (w1.alloc (.cells (nodeL t1 a1 c1).toArray 25)).heap.size v kids) : JF lo w1.heap.size t1 a1 c1 kids v w2 := by
  have hs := alloc_size w1 (.cells (nodeL t1 a1 c1).toArray 25)
  have hsz := hb.size
  rw [hs] at hr hsz
  refine ⟨(hb.block _ (by rw [hs]; omega)).trans (heap_alloc_new w1 _), by omega, ?_, hr.free (by omega) (by omega)⟩
  refine NodeIn.mono (B := fun r => lo1 ≤ r ∧ r < w1.heap.size) (fun r hr => ⟨by omega, by omega, by omega⟩) (NodeIn.keep (w := w1) (fun r hr => ?_) hn)
  exact (hb.block r (by rw [hs]; omega)).trans (Below.heap_alloc _ _ _ hr.2)

theorem JF.second {w1 w2 : World} {lo lo1 : Nat} {t1 : Tr} {a1 : Option Addr} {c1 : Nat} {kids : List Tr} {v : Value} (hl : lo ≤ lo1) (hl1 : lo1 ≤ w1.heap.size) (hn : NodeIn w1 (fun r => lo1 ≤ r ∧ r < w1.heap.size) t1 (nodeU t1.kind t1.text t1.more t1.num a1 t1.kids.length c1))
    (hb : Below w1.heap.size w1 w2) (hr : RowNodes w2 w1.heap.size v kids) : JF lo w2.heap.size t1 a1 c1 kids v (w2.alloc (.cells (nodeL t1 a1 c1).toArray 25)) := by
  have hs := alloc_size w2 (.cells (nodeL t1 a1 c1).toArray 25)
  have hsz := hb.size
  refine ⟨heap_alloc_new w2 _, by omega, ?_, hr.free_alloc (by omega) _⟩
  refine NodeIn.mono (B := fun r => lo1 ≤ r ∧ r < w1.heap.size) (fun r hr => ⟨by omega, by omega, by omega⟩) (NodeIn.keep (w := w1) (fun r hr => ?_) hn)
  exact (Below.heap_alloc _ _ _ (by omega)).trans (hb.block r hr.2)

theorem Joined.below {lo b : Nat} {kids : List Tr} {w W w' : World} {v : Value} (h : Joined lo b kids W v w') (hw : Below w.heap.size w W) (hb : w.heap.size < b) : Below w.heap.size w w' ∧ w'.heap[w.heap.size]? = W.heap[w.heap.size]? ∨ ¬ w.heap.size < W.heap.size := by
  by_cases hl : w.heap.size < W.heap.size
  · left
    have := hw.size
    have := h.size
    exact ⟨⟨h.os.trans hw.os, h.tape.trans hw.tape, h.output.trans hw.output, by omega, fun r hr => (h.keep r (by omega) (by omega)).trans (hw.block r hr)⟩, h.keep _ hl (by omega)⟩
  · exact .inr hl


set_option maxHeartbeats 8000000 in
set_option maxRecDepth 100000 in
theorem typeNodeRecordType_gives (r : Nat) (x1 : Value) (ad : Option Addr) (n cc : Nat) (t1 : Tr) (kids : List Tr) (hlen : kids.length ≤ 1000) (w : World) (h : w.heap[r]? = some (.cells #[.pointer none, .slice none 0 0, .slice none 0 0, .slice ad n cc, x1] 314 (0, 0)))
    (hx : ∀ W, Below w.heap.size w W → Calls Tryz.prog 38 #[x1] W (Gives t1 W)) (hy : ∀ W, Below w.heap.size w W → Calls Tryz.prog 99 #[.slice ad n cc] W (ListGives kids W)) :
    Calls Tryz.prog 54 #[.iface 311 (.pointer (some ⟨r, 0, none⟩))] w (Gives (.mk 49 ⟨#[]⟩ ⟨#[]⟩ 0 (t1 :: kids)) w) := by
  have q0 : ∀ W, (Instr.typeAssert (.iface 311 (.pointer (some ⟨r, 0, none⟩))) 83 73 true).run Tryz.prog W = .ok (.tuple #[.pointer none, .bool false]) W := run_assert_other _ _ _ _ _ _ Tryz.underlying73 (by decide) (by kernel_rfl)
  have q1 : ∀ W, (Instr.typeAssert (.iface 311 (.pointer (some ⟨r, 0, none⟩))) 83 303 true).run Tryz.prog W = .ok (.tuple #[.pointer none, .bool false]) W := run_assert_other _ _ _ _ _ _ Tryz.underlying303 (by decide) (by kernel_rfl)
  have q2 : ∀ W, (Instr.typeAssert (.iface 311 (.pointer (some ⟨r, 0, none⟩))) 83 306 true).run Tryz.prog W = .ok (.tuple #[.pointer none, .bool false]) W := run_assert_other _ _ _ _ _ _ Tryz.underlying306 (by decide) (by kernel_rfl)
  have q3 : ∀ W, (Instr.typeAssert (.iface 311 (.pointer (some ⟨r, 0, none⟩))) 83 308 true).run Tryz.prog W = .ok (.tuple #[.pointer none, .bool false]) W := run_assert_other _ _ _ _ _ _ Tryz.underlying308 (by decide) (by kernel_rfl)
  have q4 : ∀ W, (Instr.typeAssert (.iface 311 (.pointer (some ⟨r, 0, none⟩))) 83 38 true).run Tryz.prog W = .ok (.tuple #[.pointer none, .bool false]) W := run_assert_other _ _ _ _ _ _ Tryz.underlying38 (by decide) (by kernel_rfl)
  have q5 : ∀ W, (Instr.typeAssert (.iface 311 (.pointer (some ⟨r, 0, none⟩))) 83 311 true).run Tryz.prog W = .ok (.tuple #[.pointer (some ⟨r, 0, none⟩), .bool true]) W := run_assert_same _ _ _ _ Tryz.underlying311
  have hb0 := (Below.refl w.heap.size w).alloc (Nat.le_refl _) (.cells #[.int .i64 0, .string ⟨#[]⟩, .string ⟨#[]⟩, .int .u64 0, .slice none 0 0] 25)
  have hr : r < w.heap.size := (Array.getElem?_eq_some_iff.1 h).1
  have hr0 := heap_alloc_new w (.cells #[.int .i64 0, .string ⟨#[]⟩, .string ⟨#[]⟩, .int .u64 0, .slice none 0 0] 25)
  have hs0 : (w.alloc (.cells #[.int .i64 0, .string ⟨#[]⟩, .string ⟨#[]⟩, .int .u64 0, .slice none 0 0] 25)).heap.size = w.heap.size + 1 := alloc_size _ _
  obtain ⟨w0, hw0⟩ : ∃ w0, w0 = w.alloc (.cells #[.int .i64 0, .string ⟨#[]⟩, .string ⟨#[]⟩, .int .u64 0, .slice none 0 0] 25) := ⟨_, rfl⟩
  rw [← hw0] at hb0 hr0 hs0
  have HO := Lib.hid (hx _ hb0.drew)
  have HB0 := Lib.hid hb0
  have HR0 := Lib.hid hr0
  have HS0 := Lib.hid hs0
  have h0 := (hb0.block r hr).trans h
  have H0 := Lib.hid h0
  have HW0 := Lib.hid hw0
  have HSW : Hid (∀ w', Below w.heap.size w w' → w'.cell? ⟨r, 4, none⟩ = some (x1) ∧ w'.cell? ⟨r, 3, none⟩ = some (.slice ad n cc)) := Lib.hid fun w' hb => by
    have hc : ∀ i, w'.cell? ⟨r, i, none⟩ = w.cell? ⟨r, i, none⟩ := fun i => hb.cell (p := ⟨r, i, none⟩) hr
    exact ⟨(hc _).trans (by rw [Lib.cell_of_heap h]; rfl), (hc _).trans (by rw [Lib.cell_of_heap h]; rfl)⟩
  have HO1 : Hid (∀ w', Below w0.heap.size w0.drew w' → Calls Tryz.prog 99 #[.slice ad n cc] w' (ListGives kids w')) := Lib.hid fun w' hb => hy w' (hb0.drew.trans (hb.mono hb0.size))
  have HAL : Hid (∀ w1, Below w0.heap.size w0.drew w1 → ∀ ob, Below w0.heap.size w0.drew (w1.alloc ob)) := Lib.hid fun w1 h ob => h.alloc h.size ob
  have HLEN := Lib.hid hlen
  clear h hb0 hr0 hx hy hs0
  go_enter Tryz.func54, Tryz.ntmps54
  go_upto_region 19 with fail
  rw [← HW0.out]
  clear hw0 HW0
  have HS : Hid (∀ w', Below w0.heap.size w0.drew w' → w'.cell? ⟨r, 4, none⟩ = some (x1) ∧ w'.cell? ⟨r, 3, none⟩ = some (.slice ad n cc)) := Lib.hid fun w' hb => by
    have hc : ∀ i, w'.cell? ⟨r, i, none⟩ = w0.cell? ⟨r, i, none⟩ := fun i => hb.cell (p := ⟨r, i, none⟩) (Array.getElem?_eq_some_iff.1 H0.out).1
    exact ⟨(hc _).trans (by rw [Lib.cell_of_heap H0.out]; rfl), (hc _).trans (by rw [Lib.cell_of_heap H0.out]; rfl)⟩
  have HZ : Hid (∀ W b v2 w3, Below w0.heap.size w0.drew W → w.heap.size < b → Joined (w.heap.size + 1) b (t1 :: kids) W v2 w3 → Below w.heap.size w w3 ∧ w3.heap[w.heap.size]? = some (.cells #[.int .i64 0, .string ⟨#[]⟩, .string ⟨#[]⟩, .int .u64 0, .slice none 0 0] 25 (0, 0)) ∧ w.heap.size < w3.heap.size ∧ w3.cell? ⟨w.heap.size, 0, none⟩ = some (.int .i64 0) ∧ w3.cell? ⟨w.heap.size, 1, none⟩ = some (.string ⟨#[]⟩) ∧ w3.cell? ⟨w.heap.size, 2, none⟩ = some (.string ⟨#[]⟩) ∧ w3.cell? ⟨w.heap.size, 3, none⟩ = some (.int .u64 0) ∧ w3.cell? ⟨w.heap.size, 4, none⟩ = some (.slice none 0 0) ∧
      w3.frozen? ⟨w.heap.size, 0, none⟩ = false ∧ w3.frozen? ⟨w.heap.size, 1, none⟩ = false ∧ w3.frozen? ⟨w.heap.size, 2, none⟩ = false ∧ w3.frozen? ⟨w.heap.size, 3, none⟩ = false ∧ w3.frozen? ⟨w.heap.size, 4, none⟩ = false) := Lib.hid fun W b v2 w3 hb hlb hj => by
    have hwW : Below w.heap.size w W := HB0.out.drew.trans (hb.mono HB0.out.size)
    have hrW : W.heap[w.heap.size]? = some (.cells #[.int .i64 0, .string ⟨#[]⟩, .string ⟨#[]⟩, .int .u64 0, .slice none 0 0] 25 (0, 0)) := (hb.block _ (Array.getElem?_eq_some_iff.1 HR0.out).1).trans HR0.out
    have hlt := (Array.getElem?_eq_some_iff.1 hrW).1
    rcases hj.below hwW hlb with ⟨h1, h2⟩ | h1
    · have hr2 := h2.trans hrW
      exact ⟨h1, hr2, (Array.getElem?_eq_some_iff.1 hr2).1, by rw [Lib.cell_of_heap hr2]; rfl, by rw [Lib.cell_of_heap hr2]; rfl, by rw [Lib.cell_of_heap hr2]; rfl, by rw [Lib.cell_of_heap hr2]; rfl, by rw [Lib.cell_of_heap hr2]; rfl, Lib.frozen_of_heap hr2 0, Lib.frozen_of_heap hr2 1, Lib.frozen_of_heap hr2 2, Lib.frozen_of_heap hr2 3, Lib.frozen_of_heap hr2 4⟩
    · exact absurd hlt h1
  have HF1 : Hid (∀ a1 c1 w1 w2 v2, Below w0.heap.size w0.drew w1 → NodeIn w1 (fun r => w0.drew.heap.size ≤ r ∧ r < w1.heap.size) t1 (nodeU t1.kind t1.text t1.more t1.num a1 t1.kids.length c1) → Below (w1.alloc (.cells #[.int .i64 t1.kind, .string t1.text, .string t1.more, .int .u64 t1.num, .slice a1 t1.kids.length c1] 25)).heap.size (w1.alloc (.cells #[.int .i64 t1.kind, .string t1.text, .string t1.more, .int .u64 t1.num, .slice a1 t1.kids.length c1] 25)) w2 → RowNodes w2 (w1.alloc (.cells #[.int .i64 t1.kind, .string t1.text, .string t1.more, .int .u64 t1.num, .slice a1 t1.kids.length c1] 25)).heap.size v2 kids →
      Below w0.heap.size w0.drew w2 ∧ w.heap.size < w1.heap.size ∧ JF (w.heap.size + 1) w1.heap.size t1 a1 c1 kids v2 w2) := Lib.hid fun a1 c1 w1 w2 v2 h1 h2 h3 h4 => by
    have e1 := h1.size
    have e2 : w0.heap.size = w.heap.size + 1 := HS0.out
    have e3 : w0.drew.heap.size = w0.heap.size := rfl
    exact ⟨(h1.alloc h1.size _).trans (h3.mono (h1.alloc h1.size (.cells #[.int .i64 t1.kind, .string t1.text, .string t1.more, .int .u64 t1.num, .slice a1 t1.kids.length c1] 25)).size), by omega, JF.first (by rw [e3, e2]; exact Nat.le_refl _) (by rw [e3]; exact e1) h2 h3 h4⟩
  have HF2 : Hid (∀ a1 c1 w1 w2 v2, Below w0.heap.size w0.drew w1 → NodeIn w1 (fun r => w0.drew.heap.size ≤ r ∧ r < w1.heap.size) t1 (nodeU t1.kind t1.text t1.more t1.num a1 t1.kids.length c1) → Below w1.heap.size w1 w2 → RowNodes w2 w1.heap.size v2 kids →
      Below w0.heap.size w0.drew (w2.alloc (.cells #[.int .i64 t1.kind, .string t1.text, .string t1.more, .int .u64 t1.num, .slice a1 t1.kids.length c1] 25)) ∧ w.heap.size < w2.heap.size ∧ JF (w.heap.size + 1) w2.heap.size t1 a1 c1 kids v2 (w2.alloc (.cells #[.int .i64 t1.kind, .string t1.text, .string t1.more, .int .u64 t1.num, .slice a1 t1.kids.length c1] 25))) := Lib.hid fun a1 c1 w1 w2 v2 h1 h2 h3 h4 => by
    have e1 := h1.size
    have e2 : w0.heap.size = w.heap.size + 1 := HS0.out
    have e3 : w0.drew.heap.size = w0.heap.size := rfl
    have e4 := h3.size
    have h5 := h1.trans (h3.mono h1.size)
    exact ⟨h5.alloc h5.size _, by omega, JF.second (by rw [e3, e2]; exact Nat.le_refl _) (by rw [e3]; exact e1) h2 h3 h4⟩
  go_region_held3 (fun w' => w'.cell? ⟨r, 4, none⟩ = some (x1) ∧ w'.cell? ⟨r, 3, none⟩ = some (.slice ad n cc)) (first | with_reducible exact HS.out _ (Below.refl _ _) | with_reducible exact HS.out _ hb1d | with_reducible exact HS.out _ hb1a | with_reducible exact HS.out _ hb2 | with_reducible exact HS.out _ hbX | with_reducible exact HSW.out _ hb3w | (with_reducible refine HSW.out _ ?_; repeat (first | with_reducible exact hb3w | with_reducible refine below_set ?_ _ _)) | go_keep) (first
    | (go_at_call 38; ((with_reducible refine HO.out.mono ?_)); rintro e w1 ⟨a1, c1, rfl, hn1, hb1⟩; have hb1d : Below w0.heap.size w0.drew w1 := hb1; have hb1a := HAL.out w1 hb1d (.cells #[.int .i64 t1.kind, .string t1.text, .string t1.more, .int .u64 t1.num, .slice a1 t1.kids.length c1] 25))
    | (go_at_call 99; ((with_reducible refine (HO1.out _ hb1d).mono ?_)); rintro e w2 ⟨v2, rfl, hrn, hb12⟩; obtain ⟨hbX, hltb, hJ⟩ := HF2.out a1 c1 w1 w2 v2 hb1d hn1 hb12 hrn; have hb2 : Below w0.heap.size w0.drew w2 := hb1d.trans (hb12.mono hb1d.size))
    | (go_at_call 99; ((with_reducible refine (HO1.out _ hb1a).mono ?_)); rintro e w2 ⟨v2, rfl, hrn, hb12⟩; obtain ⟨hbX, hltb, hJ⟩ := HF1.out a1 c1 w1 w2 v2 hb1d hn1 hb12 hrn; have hb2 := hbX)
    | (refine step_append_nodes (by rfl) _ _ (by rfl) (w.heap.size + 1) _ t1 a1 c1 kids v2 (by rfl) hJ.row hJ.low hJ.one (by rfl) hJ.rest HLEN.out ?_; intro v3 w3 hj; obtain ⟨a3, c3, rfl⟩ := hj.form; obtain ⟨hb3w, hr3, hlt3, z0, z1, z2, z3, z4, y0, y1, y2, y3, y4⟩ := HZ.out _ _ _ _ hbX hltb hj)
    | fail "none")
  all_goals
    have HJ := Lib.hid hj
    have HB3 := Lib.hid hb3w
    have HR3 := Lib.hid hr3
    clear hj hb3w hr3 hJ hbX hb2 hb12 hrn hb1 hb1d hb1a hn1
    go_wp2
    have hn3 := HJ.out.row.node (k := 49) (t := ⟨#[]⟩) (m := ⟨#[]⟩) (u := 0) rfl (by rw [List.length_cons]; have := HLEN.out; unfold maxLen; omega) (by omega) (by decide) (by decide) (by omega)
    have u0 := row_setG (row_setG (row_setG (row_setG (row_setG HR3.out 0 (.int .i64 49)) 1 (.string ⟨#[]⟩)) 2 (.string ⟨#[]⟩)) 3 (.int .u64 0)) 4 (.slice a3 (kids.length + 1) c3)
    have u1 := set_five_below HB3.out (.int .i64 49) (.string ⟨#[]⟩) (.string ⟨#[]⟩) (.int .u64 0) (.slice a3 (kids.length + 1) c3)
    have u2 := set_five (b := w.heap.size) (v0 := .int .i64 49) (v1 := .string ⟨#[]⟩) (v2 := .string ⟨#[]⟩) (v3 := .int .u64 0) (v4 := .slice a3 (kids.length + 1) c3) (Nat.lt_succ_self _) hn3
    generalize (((((w3.setCell ⟨w.heap.size, 0, none⟩ (.int .i64 49)).setCell ⟨w.heap.size, 1, none⟩ (.string ⟨#[]⟩)).setCell ⟨w.heap.size, 2, none⟩ (.string ⟨#[]⟩)).setCell ⟨w.heap.size, 3, none⟩ (.int .u64 0)).setCell ⟨w.heap.size, 4, none⟩ (.slice a3 (kids.length + 1) c3)) = F at *
    have q0 : F.cell? ⟨w.heap.size, 0, none⟩ = some (.int .i64 49) := by rw [Lib.cell_of_heap u0]; rfl
    have q1 : F.cell? ⟨w.heap.size, 1, none⟩ = some (.string ⟨#[]⟩) := by rw [Lib.cell_of_heap u0]; rfl
    have q2 : F.cell? ⟨w.heap.size, 2, none⟩ = some (.string ⟨#[]⟩) := by rw [Lib.cell_of_heap u0]; rfl
    have q3 : F.cell? ⟨w.heap.size, 3, none⟩ = some (.int .u64 0) := by rw [Lib.cell_of_heap u0]; rfl
    have q4 : F.cell? ⟨w.heap.size, 4, none⟩ = some (.slice a3 (kids.length + 1) c3) := by rw [Lib.cell_of_heap u0]; rfl
    refine bodyPost_ret (v := .agg #[.int .i64 49, .string ⟨#[]⟩, .string ⟨#[]⟩, .int .u64 0, .slice a3 (kids.length + 1) c3]) (by simp [results, Tryz.results54, go_sem, q0, q1, q2, q3, q4]) rfl ⟨a3, c3, rfl, u2.mono fun b hb => ⟨by omega, hb.2⟩, u1⟩


set_option maxHeartbeats 8000000 in
set_option maxRecDepth 100000 in
theorem typeNodeFunctionType_gives (r : Nat) (x1 : Value) (ad : Option Addr) (n cc : Nat) (t1 : Tr) (kids : List Tr) (hlen : kids.length ≤ 1000) (w : World) (h : w.heap[r]? = some (.cells #[.pointer none, .slice none 0 0, .slice none 0 0, .slice ad n cc, x1] 319 (0, 0)))
    (hx : ∀ W, Below w.heap.size w W → Calls Tryz.prog 40 #[x1] W (Gives t1 W)) (hy : ∀ W, Below w.heap.size w W → Calls Tryz.prog 100 #[.slice ad n cc] W (ListGives kids W)) :
    Calls Tryz.prog 54 #[.iface 316 (.pointer (some ⟨r, 0, none⟩))] w (Gives (.mk 51 ⟨#[]⟩ ⟨#[]⟩ 0 (t1 :: kids)) w) := by
  have q0 : ∀ W, (Instr.typeAssert (.iface 316 (.pointer (some ⟨r, 0, none⟩))) 83 73 true).run Tryz.prog W = .ok (.tuple #[.pointer none, .bool false]) W := run_assert_other _ _ _ _ _ _ Tryz.underlying73 (by decide) (by kernel_rfl)
  have q1 : ∀ W, (Instr.typeAssert (.iface 316 (.pointer (some ⟨r, 0, none⟩))) 83 303 true).run Tryz.prog W = .ok (.tuple #[.pointer none, .bool false]) W := run_assert_other _ _ _ _ _ _ Tryz.underlying303 (by decide) (by kernel_rfl)
  have q2 : ∀ W, (Instr.typeAssert (.iface 316 (.pointer (some ⟨r, 0, none⟩))) 83 306 true).run Tryz.prog W = .ok (.tuple #[.pointer none, .bool false]) W := run_assert_other _ _ _ _ _ _ Tryz.underlying306 (by decide) (by kernel_rfl)
  have q3 : ∀ W, (Instr.typeAssert (.iface 316 (.pointer (some ⟨r, 0, none⟩))) 83 308 true).run Tryz.prog W = .ok (.tuple #[.pointer none, .bool false]) W := run_assert_other _ _ _ _ _ _ Tryz.underlying308 (by decide) (by kernel_rfl)
  have q4 : ∀ W, (Instr.typeAssert (.iface 316 (.pointer (some ⟨r, 0, none⟩))) 83 38 true).run Tryz.prog W = .ok (.tuple #[.pointer none, .bool false]) W := run_assert_other _ _ _ _ _ _ Tryz.underlying38 (by decide) (by kernel_rfl)
  have q5 : ∀ W, (Instr.typeAssert (.iface 316 (.pointer (some ⟨r, 0, none⟩))) 83 311 true).run Tryz.prog W = .ok (.tuple #[.pointer none, .bool false]) W := run_assert_other _ _ _ _ _ _ Tryz.underlying311 (by decide) (by kernel_rfl)
  have q6 : ∀ W, (Instr.typeAssert (.iface 316 (.pointer (some ⟨r, 0, none⟩))) 83 67 true).run Tryz.prog W = .ok (.tuple #[.pointer none, .bool false]) W := run_assert_other _ _ _ _ _ _ Tryz.underlying67 (by decide) (by kernel_rfl)
  have q7 : ∀ W, (Instr.typeAssert (.iface 316 (.pointer (some ⟨r, 0, none⟩))) 83 316 true).run Tryz.prog W = .ok (.tuple #[.pointer (some ⟨r, 0, none⟩), .bool true]) W := run_assert_same _ _ _ _ Tryz.underlying316
  have hb0 := (Below.refl w.heap.size w).alloc (Nat.le_refl _) (.cells #[.int .i64 0, .string ⟨#[]⟩, .string ⟨#[]⟩, .int .u64 0, .slice none 0 0] 25)
  have hr : r < w.heap.size := (Array.getElem?_eq_some_iff.1 h).1
  have hr0 := heap_alloc_new w (.cells #[.int .i64 0, .string ⟨#[]⟩, .string ⟨#[]⟩, .int .u64 0, .slice none 0 0] 25)
  have hs0 : (w.alloc (.cells #[.int .i64 0, .string ⟨#[]⟩, .string ⟨#[]⟩, .int .u64 0, .slice none 0 0] 25)).heap.size = w.heap.size + 1 := alloc_size _ _
  obtain ⟨w0, hw0⟩ : ∃ w0, w0 = w.alloc (.cells #[.int .i64 0, .string ⟨#[]⟩, .string ⟨#[]⟩, .int .u64 0, .slice none 0 0] 25) := ⟨_, rfl⟩
  rw [← hw0] at hb0 hr0 hs0
  have HO := Lib.hid (hx _ hb0.drew)
  have HB0 := Lib.hid hb0
  have HR0 := Lib.hid hr0
  have HS0 := Lib.hid hs0
  have h0 := (hb0.block r hr).trans h
  have H0 := Lib.hid h0
  have HW0 := Lib.hid hw0
  have HSW : Hid (∀ w', Below w.heap.size w w' → w'.cell? ⟨r, 4, none⟩ = some (x1) ∧ w'.cell? ⟨r, 3, none⟩ = some (.slice ad n cc)) := Lib.hid fun w' hb => by
    have hc : ∀ i, w'.cell? ⟨r, i, none⟩ = w.cell? ⟨r, i, none⟩ := fun i => hb.cell (p := ⟨r, i, none⟩) hr
    exact ⟨(hc _).trans (by rw [Lib.cell_of_heap h]; rfl), (hc _).trans (by rw [Lib.cell_of_heap h]; rfl)⟩
  have HO1 : Hid (∀ w', Below w0.heap.size w0.drew w' → Calls Tryz.prog 100 #[.slice ad n cc] w' (ListGives kids w')) := Lib.hid fun w' hb => hy w' (hb0.drew.trans (hb.mono hb0.size))
  have HAL : Hid (∀ w1, Below w0.heap.size w0.drew w1 → ∀ ob, Below w0.heap.size w0.drew (w1.alloc ob)) := Lib.hid fun w1 h ob => h.alloc h.size ob
  have HLEN := Lib.hid hlen
  clear h hb0 hr0 hx hy hs0
  go_enter Tryz.func54, Tryz.ntmps54
  go_upto_region 25 with fail
  rw [← HW0.out]
  clear hw0 HW0
  have HS : Hid (∀ w', Below w0.heap.size w0.drew w' → w'.cell? ⟨r, 4, none⟩ = some (x1) ∧ w'.cell? ⟨r, 3, none⟩ = some (.slice ad n cc)) := Lib.hid fun w' hb => by
    have hc : ∀ i, w'.cell? ⟨r, i, none⟩ = w0.cell? ⟨r, i, none⟩ := fun i => hb.cell (p := ⟨r, i, none⟩) (Array.getElem?_eq_some_iff.1 H0.out).1
    exact ⟨(hc _).trans (by rw [Lib.cell_of_heap H0.out]; rfl), (hc _).trans (by rw [Lib.cell_of_heap H0.out]; rfl)⟩
  have HZ : Hid (∀ W b v2 w3, Below w0.heap.size w0.drew W → w.heap.size < b → Joined (w.heap.size + 1) b (t1 :: kids) W v2 w3 → Below w.heap.size w w3 ∧ w3.heap[w.heap.size]? = some (.cells #[.int .i64 0, .string ⟨#[]⟩, .string ⟨#[]⟩, .int .u64 0, .slice none 0 0] 25 (0, 0)) ∧ w.heap.size < w3.heap.size ∧ w3.cell? ⟨w.heap.size, 0, none⟩ = some (.int .i64 0) ∧ w3.cell? ⟨w.heap.size, 1, none⟩ = some (.string ⟨#[]⟩) ∧ w3.cell? ⟨w.heap.size, 2, none⟩ = some (.string ⟨#[]⟩) ∧ w3.cell? ⟨w.heap.size, 3, none⟩ = some (.int .u64 0) ∧ w3.cell? ⟨w.heap.size, 4, none⟩ = some (.slice none 0 0) ∧
      w3.frozen? ⟨w.heap.size, 0, none⟩ = false ∧ w3.frozen? ⟨w.heap.size, 1, none⟩ = false ∧ w3.frozen? ⟨w.heap.size, 2, none⟩ = false ∧ w3.frozen? ⟨w.heap.size, 3, none⟩ = false ∧ w3.frozen? ⟨w.heap.size, 4, none⟩ = false) := Lib.hid fun W b v2 w3 hb hlb hj => by
    have hwW : Below w.heap.size w W := HB0.out.drew.trans (hb.mono HB0.out.size)
    have hrW : W.heap[w.heap.size]? = some (.cells #[.int .i64 0, .string ⟨#[]⟩, .string ⟨#[]⟩, .int .u64 0, .slice none 0 0] 25 (0, 0)) := (hb.block _ (Array.getElem?_eq_some_iff.1 HR0.out).1).trans HR0.out
    have hlt := (Array.getElem?_eq_some_iff.1 hrW).1
    rcases hj.below hwW hlb with ⟨h1, h2⟩ | h1
    · have hr2 := h2.trans hrW
      exact ⟨h1, hr2, (Array.getElem?_eq_some_iff.1 hr2).1, by rw [Lib.cell_of_heap hr2]; rfl, by rw [Lib.cell_of_heap hr2]; rfl, by rw [Lib.cell_of_heap hr2]; rfl, by rw [Lib.cell_of_heap hr2]; rfl, by rw [Lib.cell_of_heap hr2]; rfl, Lib.frozen_of_heap hr2 0, Lib.frozen_of_heap hr2 1, Lib.frozen_of_heap hr2 2, Lib.frozen_of_heap hr2 3, Lib.frozen_of_heap hr2 4⟩
    · exact absurd hlt h1
  have HF1 : Hid (∀ a1 c1 w1 w2 v2, Below w0.heap.size w0.drew w1 → NodeIn w1 (fun r => w0.drew.heap.size ≤ r ∧ r < w1.heap.size) t1 (nodeU t1.kind t1.text t1.more t1.num a1 t1.kids.length c1) → Below (w1.alloc (.cells #[.int .i64 t1.kind, .string t1.text, .string t1.more, .int .u64 t1.num, .slice a1 t1.kids.length c1] 25)).heap.size (w1.alloc (.cells #[.int .i64 t1.kind, .string t1.text, .string t1.more, .int .u64 t1.num, .slice a1 t1.kids.length c1] 25)) w2 → RowNodes w2 (w1.alloc (.cells #[.int .i64 t1.kind, .string t1.text, .string t1.more, .int .u64 t1.num, .slice a1 t1.kids.length c1] 25)).heap.size v2 kids →
      Below w0.heap.size w0.drew w2 ∧ w.heap.size < w1.heap.size ∧ JF (w.heap.size + 1) w1.heap.size t1 a1 c1 kids v2 w2) := Lib.hid fun a1 c1 w1 w2 v2 h1 h2 h3 h4 => by
    have e1 := h1.size
    have e2 : w0.heap.size = w.heap.size + 1 := HS0.out
    have e3 : w0.drew.heap.size = w0.heap.size := rfl
    exact ⟨(h1.alloc h1.size _).trans (h3.mono (h1.alloc h1.size (.cells #[.int .i64 t1.kind, .string t1.text, .string t1.more, .int .u64 t1.num, .slice a1 t1.kids.length c1] 25)).size), by omega, JF.first (by rw [e3, e2]; exact Nat.le_refl _) (by rw [e3]; exact e1) h2 h3 h4⟩
  have HF2 : Hid (∀ a1 c1 w1 w2 v2, Below w0.heap.size w0.drew w1 → NodeIn w1 (fun r => w0.drew.heap.size ≤ r ∧ r < w1.heap.size) t1 (nodeU t1.kind t1.text t1.more t1.num a1 t1.kids.length c1) → Below w1.heap.size w1 w2 → RowNodes w2 w1.heap.size v2 kids →
      Below w0.heap.size w0.drew (w2.alloc (.cells #[.int .i64 t1.kind, .string t1.text, .string t1.more, .int .u64 t1.num, .slice a1 t1.kids.length c1] 25)) ∧ w.heap.size < w2.heap.size ∧ JF (w.heap.size + 1) w2.heap.size t1 a1 c1 kids v2 (w2.alloc (.cells #[.int .i64 t1.kind, .string t1.text, .string t1.more, .int .u64 t1.num, .slice a1 t1.kids.length c1] 25))) := Lib.hid fun a1 c1 w1 w2 v2 h1 h2 h3 h4 => by
    have e1 := h1.size
    have e2 : w0.heap.size = w.heap.size + 1 := HS0.out
    have e3 : w0.drew.heap.size = w0.heap.size := rfl
    have e4 := h3.size
    have h5 := h1.trans (h3.mono h1.size)
    exact ⟨h5.alloc h5.size _, by omega, JF.second (by rw [e3, e2]; exact Nat.le_refl _) (by rw [e3]; exact e1) h2 h3 h4⟩
  go_region_held3 (fun w' => w'.cell? ⟨r, 4, none⟩ = some (x1) ∧ w'.cell? ⟨r, 3, none⟩ = some (.slice ad n cc)) (first | with_reducible exact HS.out _ (Below.refl _ _) | with_reducible exact HS.out _ hb1d | with_reducible exact HS.out _ hb1a | with_reducible exact HS.out _ hb2 | with_reducible exact HS.out _ hbX | with_reducible exact HSW.out _ hb3w | (with_reducible refine HSW.out _ ?_; repeat (first | with_reducible exact hb3w | with_reducible refine below_set ?_ _ _)) | go_keep) (first
    | (go_at_call 40; ((with_reducible refine HO.out.mono ?_)); rintro e w1 ⟨a1, c1, rfl, hn1, hb1⟩; have hb1d : Below w0.heap.size w0.drew w1 := hb1; have hb1a := HAL.out w1 hb1d (.cells #[.int .i64 t1.kind, .string t1.text, .string t1.more, .int .u64 t1.num, .slice a1 t1.kids.length c1] 25))
    | (go_at_call 100; ((with_reducible refine (HO1.out _ hb1d).mono ?_)); rintro e w2 ⟨v2, rfl, hrn, hb12⟩; obtain ⟨hbX, hltb, hJ⟩ := HF2.out a1 c1 w1 w2 v2 hb1d hn1 hb12 hrn; have hb2 : Below w0.heap.size w0.drew w2 := hb1d.trans (hb12.mono hb1d.size))
    | (go_at_call 100; ((with_reducible refine (HO1.out _ hb1a).mono ?_)); rintro e w2 ⟨v2, rfl, hrn, hb12⟩; obtain ⟨hbX, hltb, hJ⟩ := HF1.out a1 c1 w1 w2 v2 hb1d hn1 hb12 hrn; have hb2 := hbX)
    | (refine step_append_nodes (by rfl) _ _ (by rfl) (w.heap.size + 1) _ t1 a1 c1 kids v2 (by rfl) hJ.row hJ.low hJ.one (by rfl) hJ.rest HLEN.out ?_; intro v3 w3 hj; obtain ⟨a3, c3, rfl⟩ := hj.form; obtain ⟨hb3w, hr3, hlt3, z0, z1, z2, z3, z4, y0, y1, y2, y3, y4⟩ := HZ.out _ _ _ _ hbX hltb hj)
    | fail "none")
  all_goals
    have HJ := Lib.hid hj
    have HB3 := Lib.hid hb3w
    have HR3 := Lib.hid hr3
    clear hj hb3w hr3 hJ hbX hb2 hb12 hrn hb1 hb1d hb1a hn1
    go_wp2
    have hn3 := HJ.out.row.node (k := 51) (t := ⟨#[]⟩) (m := ⟨#[]⟩) (u := 0) rfl (by rw [List.length_cons]; have := HLEN.out; unfold maxLen; omega) (by omega) (by decide) (by decide) (by omega)
    have u0 := row_setG (row_setG (row_setG (row_setG (row_setG HR3.out 0 (.int .i64 51)) 1 (.string ⟨#[]⟩)) 2 (.string ⟨#[]⟩)) 3 (.int .u64 0)) 4 (.slice a3 (kids.length + 1) c3)
    have u1 := set_five_below HB3.out (.int .i64 51) (.string ⟨#[]⟩) (.string ⟨#[]⟩) (.int .u64 0) (.slice a3 (kids.length + 1) c3)
    have u2 := set_five (b := w.heap.size) (v0 := .int .i64 51) (v1 := .string ⟨#[]⟩) (v2 := .string ⟨#[]⟩) (v3 := .int .u64 0) (v4 := .slice a3 (kids.length + 1) c3) (Nat.lt_succ_self _) hn3
    generalize (((((w3.setCell ⟨w.heap.size, 0, none⟩ (.int .i64 51)).setCell ⟨w.heap.size, 1, none⟩ (.string ⟨#[]⟩)).setCell ⟨w.heap.size, 2, none⟩ (.string ⟨#[]⟩)).setCell ⟨w.heap.size, 3, none⟩ (.int .u64 0)).setCell ⟨w.heap.size, 4, none⟩ (.slice a3 (kids.length + 1) c3)) = F at *
    have q0 : F.cell? ⟨w.heap.size, 0, none⟩ = some (.int .i64 51) := by rw [Lib.cell_of_heap u0]; rfl
    have q1 : F.cell? ⟨w.heap.size, 1, none⟩ = some (.string ⟨#[]⟩) := by rw [Lib.cell_of_heap u0]; rfl
    have q2 : F.cell? ⟨w.heap.size, 2, none⟩ = some (.string ⟨#[]⟩) := by rw [Lib.cell_of_heap u0]; rfl
    have q3 : F.cell? ⟨w.heap.size, 3, none⟩ = some (.int .u64 0) := by rw [Lib.cell_of_heap u0]; rfl
    have q4 : F.cell? ⟨w.heap.size, 4, none⟩ = some (.slice a3 (kids.length + 1) c3) := by rw [Lib.cell_of_heap u0]; rfl
    refine bodyPost_ret (v := .agg #[.int .i64 51, .string ⟨#[]⟩, .string ⟨#[]⟩, .int .u64 0, .slice a3 (kids.length + 1) c3]) (by simp [results, Tryz.results54, go_sem, q0, q1, q2, q3, q4]) rfl ⟨a3, c3, rfl, u2.mono fun b hb => ⟨by omega, hb.2⟩, u1⟩


set_option maxHeartbeats 8000000 in
set_option maxRecDepth 100000 in
theorem typeNodeTypeConstraint_gives (r : Nat) (x1 : Value) (ad : Option Addr) (n cc : Nat) (t1 : Tr) (kids : List Tr) (hlen : kids.length ≤ 1000) (w : World) (h : w.heap[r]? = some (.cells #[.pointer none, .slice none 0 0, .slice none 0 0, x1, .slice ad n cc] 288 (0, 0)))
    (hx : ∀ W, Below w.heap.size w W → Calls Tryz.prog 38 #[x1] W (Gives t1 W)) (hy : ∀ W, Below w.heap.size w W → Calls Tryz.prog 101 #[.slice ad n cc] W (ListGives kids W)) :
    Calls Tryz.prog 54 #[.iface 285 (.pointer (some ⟨r, 0, none⟩))] w (Gives (.mk 53 ⟨#[]⟩ ⟨#[]⟩ 0 (t1 :: kids)) w) := by
  have q0 : ∀ W, (Instr.typeAssert (.iface 285 (.pointer (some ⟨r, 0, none⟩))) 83 73 true).run Tryz.prog W = .ok (.tuple #[.pointer none, .bool false]) W := run_assert_other _ _ _ _ _ _ Tryz.underlying73 (by decide) (by kernel_rfl)
  have q1 : ∀ W, (Instr.typeAssert (.iface 285 (.pointer (some ⟨r, 0, none⟩))) 83 303 true).run Tryz.prog W = .ok (.tuple #[.pointer none, .bool false]) W := run_assert_other _ _ _ _ _ _ Tryz.underlying303 (by decide) (by kernel_rfl)
  have q2 : ∀ W, (Instr.typeAssert (.iface 285 (.pointer (some ⟨r, 0, none⟩))) 83 306 true).run Tryz.prog W = .ok (.tuple #[.pointer none, .bool false]) W := run_assert_other _ _ _ _ _ _ Tryz.underlying306 (by decide) (by kernel_rfl)
  have q3 : ∀ W, (Instr.typeAssert (.iface 285 (.pointer (some ⟨r, 0, none⟩))) 83 308 true).run Tryz.prog W = .ok (.tuple #[.pointer none, .bool false]) W := run_assert_other _ _ _ _ _ _ Tryz.underlying308 (by decide) (by kernel_rfl)
  have q4 : ∀ W, (Instr.typeAssert (.iface 285 (.pointer (some ⟨r, 0, none⟩))) 83 38 true).run Tryz.prog W = .ok (.tuple #[.pointer none, .bool false]) W := run_assert_other _ _ _ _ _ _ Tryz.underlying38 (by decide) (by kernel_rfl)
  have q5 : ∀ W, (Instr.typeAssert (.iface 285 (.pointer (some ⟨r, 0, none⟩))) 83 311 true).run Tryz.prog W = .ok (.tuple #[.pointer none, .bool false]) W := run_assert_other _ _ _ _ _ _ Tryz.underlying311 (by decide) (by kernel_rfl)
  have q6 : ∀ W, (Instr.typeAssert (.iface 285 (.pointer (some ⟨r, 0, none⟩))) 83 67 true).run Tryz.prog W = .ok (.tuple #[.pointer none, .bool false]) W := run_assert_other _ _ _ _ _ _ Tryz.underlying67 (by decide) (by kernel_rfl)
  have q7 : ∀ W, (Instr.typeAssert (.iface 285 (.pointer (some ⟨r, 0, none⟩))) 83 316 true).run Tryz.prog W = .ok (.tuple #[.pointer none, .bool false]) W := run_assert_other _ _ _ _ _ _ Tryz.underlying316 (by decide) (by kernel_rfl)
  have q8 : ∀ W, (Instr.typeAssert (.iface 285 (.pointer (some ⟨r, 0, none⟩))) 83 59 true).run Tryz.prog W = .ok (.tuple #[.pointer none, .bool false]) W := run_assert_other _ _ _ _ _ _ Tryz.underlying59 (by decide) (by kernel_rfl)
  have q9 : ∀ W, (Instr.typeAssert (.iface 285 (.pointer (some ⟨r, 0, none⟩))) 83 285 true).run Tryz.prog W = .ok (.tuple #[.pointer (some ⟨r, 0, none⟩), .bool true]) W := run_assert_same _ _ _ _ Tryz.underlying285
  have hb0 := (Below.refl w.heap.size w).alloc (Nat.le_refl _) (.cells #[.int .i64 0, .string ⟨#[]⟩, .string ⟨#[]⟩, .int .u64 0, .slice none 0 0] 25)
  have hr : r < w.heap.size := (Array.getElem?_eq_some_iff.1 h).1
  have hr0 := heap_alloc_new w (.cells #[.int .i64 0, .string ⟨#[]⟩, .string ⟨#[]⟩, .int .u64 0, .slice none 0 0] 25)
  have hs0 : (w.alloc (.cells #[.int .i64 0, .string ⟨#[]⟩, .string ⟨#[]⟩, .int .u64 0, .slice none 0 0] 25)).heap.size = w.heap.size + 1 := alloc_size _ _
  obtain ⟨w0, hw0⟩ : ∃ w0, w0 = w.alloc (.cells #[.int .i64 0, .string ⟨#[]⟩, .string ⟨#[]⟩, .int .u64 0, .slice none 0 0] 25) := ⟨_, rfl⟩
  rw [← hw0] at hb0 hr0 hs0
  have HO := Lib.hid (hx _ hb0.drew)
  have HB0 := Lib.hid hb0
  have HR0 := Lib.hid hr0
  have HS0 := Lib.hid hs0
  have h0 := (hb0.block r hr).trans h
  have H0 := Lib.hid h0
  have HW0 := Lib.hid hw0
  have HSW : Hid (∀ w', Below w.heap.size w w' → w'.cell? ⟨r, 3, none⟩ = some (x1) ∧ w'.cell? ⟨r, 4, none⟩ = some (.slice ad n cc)) := Lib.hid fun w' hb => by
    have hc : ∀ i, w'.cell? ⟨r, i, none⟩ = w.cell? ⟨r, i, none⟩ := fun i => hb.cell (p := ⟨r, i, none⟩) hr
    exact ⟨(hc _).trans (by rw [Lib.cell_of_heap h]; rfl), (hc _).trans (by rw [Lib.cell_of_heap h]; rfl)⟩
  have HO1 : Hid (∀ w', Below w0.heap.size w0.drew w' → Calls Tryz.prog 101 #[.slice ad n cc] w' (ListGives kids w')) := Lib.hid fun w' hb => hy w' (hb0.drew.trans (hb.mono hb0.size))
  have HAL : Hid (∀ w1, Below w0.heap.size w0.drew w1 → ∀ ob, Below w0.heap.size w0.drew (w1.alloc ob)) := Lib.hid fun w1 h ob => h.alloc h.size ob
  have HLEN := Lib.hid hlen
  clear h hb0 hr0 hx hy hs0
  go_enter Tryz.func54, Tryz.ntmps54
  go_upto_region 37 with fail
  rw [← HW0.out]
  clear hw0 HW0
  have HS : Hid (∀ w', Below w0.heap.size w0.drew w' → w'.cell? ⟨r, 3, none⟩ = some (x1) ∧ w'.cell? ⟨r, 4, none⟩ = some (.slice ad n cc)) := Lib.hid fun w' hb => by
    have hc : ∀ i, w'.cell? ⟨r, i, none⟩ = w0.cell? ⟨r, i, none⟩ := fun i => hb.cell (p := ⟨r, i, none⟩) (Array.getElem?_eq_some_iff.1 H0.out).1
    exact ⟨(hc _).trans (by rw [Lib.cell_of_heap H0.out]; rfl), (hc _).trans (by rw [Lib.cell_of_heap H0.out]; rfl)⟩
  have HZ : Hid (∀ W b v2 w3, Below w0.heap.size w0.drew W → w.heap.size < b → Joined (w.heap.size + 1) b (t1 :: kids) W v2 w3 → Below w.heap.size w w3 ∧ w3.heap[w.heap.size]? = some (.cells #[.int .i64 0, .string ⟨#[]⟩, .string ⟨#[]⟩, .int .u64 0, .slice none 0 0] 25 (0, 0)) ∧ w.heap.size < w3.heap.size ∧ w3.cell? ⟨w.heap.size, 0, none⟩ = some (.int .i64 0) ∧ w3.cell? ⟨w.heap.size, 1, none⟩ = some (.string ⟨#[]⟩) ∧ w3.cell? ⟨w.heap.size, 2, none⟩ = some (.string ⟨#[]⟩) ∧ w3.cell? ⟨w.heap.size, 3, none⟩ = some (.int .u64 0) ∧ w3.cell? ⟨w.heap.size, 4, none⟩ = some (.slice none 0 0) ∧
      w3.frozen? ⟨w.heap.size, 0, none⟩ = false ∧ w3.frozen? ⟨w.heap.size, 1, none⟩ = false ∧ w3.frozen? ⟨w.heap.size, 2, none⟩ = false ∧ w3.frozen? ⟨w.heap.size, 3, none⟩ = false ∧ w3.frozen? ⟨w.heap.size, 4, none⟩ = false) := Lib.hid fun W b v2 w3 hb hlb hj => by
    have hwW : Below w.heap.size w W := HB0.out.drew.trans (hb.mono HB0.out.size)
    have hrW : W.heap[w.heap.size]? = some (.cells #[.int .i64 0, .string ⟨#[]⟩, .string ⟨#[]⟩, .int .u64 0, .slice none 0 0] 25 (0, 0)) := (hb.block _ (Array.getElem?_eq_some_iff.1 HR0.out).1).trans HR0.out
    have hlt := (Array.getElem?_eq_some_iff.1 hrW).1
    rcases hj.below hwW hlb with ⟨h1, h2⟩ | h1
    · have hr2 := h2.trans hrW
      exact ⟨h1, hr2, (Array.getElem?_eq_some_iff.1 hr2).1, by rw [Lib.cell_of_heap hr2]; rfl, by rw [Lib.cell_of_heap hr2]; rfl, by rw [Lib.cell_of_heap hr2]; rfl, by rw [Lib.cell_of_heap hr2]; rfl, by rw [Lib.cell_of_heap hr2]; rfl, Lib.frozen_of_heap hr2 0, Lib.frozen_of_heap hr2 1, Lib.frozen_of_heap hr2 2, Lib.frozen_of_heap hr2 3, Lib.frozen_of_heap hr2 4⟩
    · exact absurd hlt h1
  have HF1 : Hid (∀ a1 c1 w1 w2 v2, Below w0.heap.size w0.drew w1 → NodeIn w1 (fun r => w0.drew.heap.size ≤ r ∧ r < w1.heap.size) t1 (nodeU t1.kind t1.text t1.more t1.num a1 t1.kids.length c1) → Below (w1.alloc (.cells #[.int .i64 t1.kind, .string t1.text, .string t1.more, .int .u64 t1.num, .slice a1 t1.kids.length c1] 25)).heap.size (w1.alloc (.cells #[.int .i64 t1.kind, .string t1.text, .string t1.more, .int .u64 t1.num, .slice a1 t1.kids.length c1] 25)) w2 → RowNodes w2 (w1.alloc (.cells #[.int .i64 t1.kind, .string t1.text, .string t1.more, .int .u64 t1.num, .slice a1 t1.kids.length c1] 25)).heap.size v2 kids →
      Below w0.heap.size w0.drew w2 ∧ w.heap.size < w1.heap.size ∧ JF (w.heap.size + 1) w1.heap.size t1 a1 c1 kids v2 w2) := Lib.hid fun a1 c1 w1 w2 v2 h1 h2 h3 h4 => by
    have e1 := h1.size
    have e2 : w0.heap.size = w.heap.size + 1 := HS0.out
    have e3 : w0.drew.heap.size = w0.heap.size := rfl
    exact ⟨(h1.alloc h1.size _).trans (h3.mono (h1.alloc h1.size (.cells #[.int .i64 t1.kind, .string t1.text, .string t1.more, .int .u64 t1.num, .slice a1 t1.kids.length c1] 25)).size), by omega, JF.first (by rw [e3, e2]; exact Nat.le_refl _) (by rw [e3]; exact e1) h2 h3 h4⟩
  have HF2 : Hid (∀ a1 c1 w1 w2 v2, Below w0.heap.size w0.drew w1 → NodeIn w1 (fun r => w0.drew.heap.size ≤ r ∧ r < w1.heap.size) t1 (nodeU t1.kind t1.text t1.more t1.num a1 t1.kids.length c1) → Below w1.heap.size w1 w2 → RowNodes w2 w1.heap.size v2 kids →
      Below w0.heap.size w0.drew (w2.alloc (.cells #[.int .i64 t1.kind, .string t1.text, .string t1.more, .int .u64 t1.num, .slice a1 t1.kids.length c1] 25)) ∧ w.heap.size < w2.heap.size ∧ JF (w.heap.size + 1) w2.heap.size t1 a1 c1 kids v2 (w2.alloc (.cells #[.int .i64 t1.kind, .string t1.text, .string t1.more, .int .u64 t1.num, .slice a1 t1.kids.length c1] 25))) := Lib.hid fun a1 c1 w1 w2 v2 h1 h2 h3 h4 => by
    have e1 := h1.size
    have e2 : w0.heap.size = w.heap.size + 1 := HS0.out
    have e3 : w0.drew.heap.size = w0.heap.size := rfl
    have e4 := h3.size
    have h5 := h1.trans (h3.mono h1.size)
    exact ⟨h5.alloc h5.size _, by omega, JF.second (by rw [e3, e2]; exact Nat.le_refl _) (by rw [e3]; exact e1) h2 h3 h4⟩
  go_region_held3 (fun w' => w'.cell? ⟨r, 3, none⟩ = some (x1) ∧ w'.cell? ⟨r, 4, none⟩ = some (.slice ad n cc)) (first | with_reducible exact HS.out _ (Below.refl _ _) | with_reducible exact HS.out _ hb1d | with_reducible exact HS.out _ hb1a | with_reducible exact HS.out _ hb2 | with_reducible exact HS.out _ hbX | with_reducible exact HSW.out _ hb3w | (with_reducible refine HSW.out _ ?_; repeat (first | with_reducible exact hb3w | with_reducible refine below_set ?_ _ _)) | go_keep) (first
    | (go_at_call 38; ((with_reducible refine HO.out.mono ?_)); rintro e w1 ⟨a1, c1, rfl, hn1, hb1⟩; have hb1d : Below w0.heap.size w0.drew w1 := hb1; have hb1a := HAL.out w1 hb1d (.cells #[.int .i64 t1.kind, .string t1.text, .string t1.more, .int .u64 t1.num, .slice a1 t1.kids.length c1] 25))
    | (go_at_call 101; ((with_reducible refine (HO1.out _ hb1d).mono ?_)); rintro e w2 ⟨v2, rfl, hrn, hb12⟩; obtain ⟨hbX, hltb, hJ⟩ := HF2.out a1 c1 w1 w2 v2 hb1d hn1 hb12 hrn; have hb2 : Below w0.heap.size w0.drew w2 := hb1d.trans (hb12.mono hb1d.size))
    | (go_at_call 101; ((with_reducible refine (HO1.out _ hb1a).mono ?_)); rintro e w2 ⟨v2, rfl, hrn, hb12⟩; obtain ⟨hbX, hltb, hJ⟩ := HF1.out a1 c1 w1 w2 v2 hb1d hn1 hb12 hrn; have hb2 := hbX)
    | (refine step_append_nodes (by rfl) _ _ (by rfl) (w.heap.size + 1) _ t1 a1 c1 kids v2 (by rfl) hJ.row hJ.low hJ.one (by rfl) hJ.rest HLEN.out ?_; intro v3 w3 hj; obtain ⟨a3, c3, rfl⟩ := hj.form; obtain ⟨hb3w, hr3, hlt3, z0, z1, z2, z3, z4, y0, y1, y2, y3, y4⟩ := HZ.out _ _ _ _ hbX hltb hj)
    | fail "none")
  all_goals
    have HJ := Lib.hid hj
    have HB3 := Lib.hid hb3w
    have HR3 := Lib.hid hr3
    clear hj hb3w hr3 hJ hbX hb2 hb12 hrn hb1 hb1d hb1a hn1
    go_wp2
    have hn3 := HJ.out.row.node (k := 53) (t := ⟨#[]⟩) (m := ⟨#[]⟩) (u := 0) rfl (by rw [List.length_cons]; have := HLEN.out; unfold maxLen; omega) (by omega) (by decide) (by decide) (by omega)
    have u0 := row_setG (row_setG (row_setG (row_setG (row_setG HR3.out 0 (.int .i64 53)) 1 (.string ⟨#[]⟩)) 2 (.string ⟨#[]⟩)) 3 (.int .u64 0)) 4 (.slice a3 (kids.length + 1) c3)
    have u1 := set_five_below HB3.out (.int .i64 53) (.string ⟨#[]⟩) (.string ⟨#[]⟩) (.int .u64 0) (.slice a3 (kids.length + 1) c3)
    have u2 := set_five (b := w.heap.size) (v0 := .int .i64 53) (v1 := .string ⟨#[]⟩) (v2 := .string ⟨#[]⟩) (v3 := .int .u64 0) (v4 := .slice a3 (kids.length + 1) c3) (Nat.lt_succ_self _) hn3
    generalize (((((w3.setCell ⟨w.heap.size, 0, none⟩ (.int .i64 53)).setCell ⟨w.heap.size, 1, none⟩ (.string ⟨#[]⟩)).setCell ⟨w.heap.size, 2, none⟩ (.string ⟨#[]⟩)).setCell ⟨w.heap.size, 3, none⟩ (.int .u64 0)).setCell ⟨w.heap.size, 4, none⟩ (.slice a3 (kids.length + 1) c3)) = F at *
    have q0 : F.cell? ⟨w.heap.size, 0, none⟩ = some (.int .i64 53) := by rw [Lib.cell_of_heap u0]; rfl
    have q1 : F.cell? ⟨w.heap.size, 1, none⟩ = some (.string ⟨#[]⟩) := by rw [Lib.cell_of_heap u0]; rfl
    have q2 : F.cell? ⟨w.heap.size, 2, none⟩ = some (.string ⟨#[]⟩) := by rw [Lib.cell_of_heap u0]; rfl
    have q3 : F.cell? ⟨w.heap.size, 3, none⟩ = some (.int .u64 0) := by rw [Lib.cell_of_heap u0]; rfl
    have q4 : F.cell? ⟨w.heap.size, 4, none⟩ = some (.slice a3 (kids.length + 1) c3) := by rw [Lib.cell_of_heap u0]; rfl
    refine bodyPost_ret (v := .agg #[.int .i64 53, .string ⟨#[]⟩, .string ⟨#[]⟩, .int .u64 0, .slice a3 (kids.length + 1) c3]) (by simp [results, Tryz.results54, go_sem, q0, q1, q2, q3, q4]) rfl ⟨a3, c3, rfl, u2.mono fun b hb => ⟨by omega, hb.2⟩, u1⟩


set_option maxHeartbeats 8000000 in
set_option maxRecDepth 100000 in
theorem typeNodeTypeExpression_gives (r : Nat) (x1 : Value) (ad : Option Addr) (n cc : Nat) (t1 : Tr) (kids : List Tr) (hlen : kids.length ≤ 1000) (w : World) (h : w.heap[r]? = some (.cells #[.pointer none, .slice none 0 0, .slice none 0 0, x1, .slice ad n cc] 76 (0, 0)))
    (hx : ∀ W, Below w.heap.size w W → Calls Tryz.prog 40 #[x1] W (Gives t1 W)) (hy : ∀ W, Below w.heap.size w W → Calls Tryz.prog 98 #[.slice ad n cc] W (ListGives kids W)) :
    Calls Tryz.prog 54 #[.iface 73 (.pointer (some ⟨r, 0, none⟩))] w (Gives (.mk 44 ⟨#[]⟩ ⟨#[]⟩ 0 (t1 :: kids)) w) := by
  have q0 : ∀ W, (Instr.typeAssert (.iface 73 (.pointer (some ⟨r, 0, none⟩))) 83 73 true).run Tryz.prog W = .ok (.tuple #[.pointer (some ⟨r, 0, none⟩), .bool true]) W := run_assert_same _ _ _ _ Tryz.underlying73
  have hb0 := (Below.refl w.heap.size w).alloc (Nat.le_refl _) (.cells #[.int .i64 0, .string ⟨#[]⟩, .string ⟨#[]⟩, .int .u64 0, .slice none 0 0] 25)
  have hr : r < w.heap.size := (Array.getElem?_eq_some_iff.1 h).1
  have hr0 := heap_alloc_new w (.cells #[.int .i64 0, .string ⟨#[]⟩, .string ⟨#[]⟩, .int .u64 0, .slice none 0 0] 25)
  have hs0 : (w.alloc (.cells #[.int .i64 0, .string ⟨#[]⟩, .string ⟨#[]⟩, .int .u64 0, .slice none 0 0] 25)).heap.size = w.heap.size + 1 := alloc_size _ _
  obtain ⟨w0, hw0⟩ : ∃ w0, w0 = w.alloc (.cells #[.int .i64 0, .string ⟨#[]⟩, .string ⟨#[]⟩, .int .u64 0, .slice none 0 0] 25) := ⟨_, rfl⟩
  rw [← hw0] at hb0 hr0 hs0
  have HO := Lib.hid (hx _ hb0.drew)
  have HB0 := Lib.hid hb0
  have HR0 := Lib.hid hr0
  have HS0 := Lib.hid hs0
  have h0 := (hb0.block r hr).trans h
  have H0 := Lib.hid h0
  have HW0 := Lib.hid hw0
  have HSW : Hid (∀ w', Below w.heap.size w w' → w'.cell? ⟨r, 3, none⟩ = some (x1) ∧ w'.cell? ⟨r, 4, none⟩ = some (.slice ad n cc)) := Lib.hid fun w' hb => by
    have hc : ∀ i, w'.cell? ⟨r, i, none⟩ = w.cell? ⟨r, i, none⟩ := fun i => hb.cell (p := ⟨r, i, none⟩) hr
    exact ⟨(hc _).trans (by rw [Lib.cell_of_heap h]; rfl), (hc _).trans (by rw [Lib.cell_of_heap h]; rfl)⟩
  have HO1 : Hid (∀ w', Below w0.heap.size w0.drew w' → Calls Tryz.prog 98 #[.slice ad n cc] w' (ListGives kids w')) := Lib.hid fun w' hb => hy w' (hb0.drew.trans (hb.mono hb0.size))
  have HAL : Hid (∀ w1, Below w0.heap.size w0.drew w1 → ∀ ob, Below w0.heap.size w0.drew (w1.alloc ob)) := Lib.hid fun w1 h ob => h.alloc h.size ob
  have HLEN := Lib.hid hlen
  clear h hb0 hr0 hx hy hs0
  go_enter Tryz.func54, Tryz.ntmps54
  go_upto_region 4 with fail
  rw [← HW0.out]
  clear hw0 HW0
  have HS : Hid (∀ w', Below w0.heap.size w0.drew w' → w'.cell? ⟨r, 3, none⟩ = some (x1) ∧ w'.cell? ⟨r, 4, none⟩ = some (.slice ad n cc)) := Lib.hid fun w' hb => by
    have hc : ∀ i, w'.cell? ⟨r, i, none⟩ = w0.cell? ⟨r, i, none⟩ := fun i => hb.cell (p := ⟨r, i, none⟩) (Array.getElem?_eq_some_iff.1 H0.out).1
    exact ⟨(hc _).trans (by rw [Lib.cell_of_heap H0.out]; rfl), (hc _).trans (by rw [Lib.cell_of_heap H0.out]; rfl)⟩
  have HZ : Hid (∀ W b v2 w3, Below w0.heap.size w0.drew W → w.heap.size < b → Joined (w.heap.size + 1) b (t1 :: kids) W v2 w3 → Below w.heap.size w w3 ∧ w3.heap[w.heap.size]? = some (.cells #[.int .i64 0, .string ⟨#[]⟩, .string ⟨#[]⟩, .int .u64 0, .slice none 0 0] 25 (0, 0)) ∧ w.heap.size < w3.heap.size ∧ w3.cell? ⟨w.heap.size, 0, none⟩ = some (.int .i64 0) ∧ w3.cell? ⟨w.heap.size, 1, none⟩ = some (.string ⟨#[]⟩) ∧ w3.cell? ⟨w.heap.size, 2, none⟩ = some (.string ⟨#[]⟩) ∧ w3.cell? ⟨w.heap.size, 3, none⟩ = some (.int .u64 0) ∧ w3.cell? ⟨w.heap.size, 4, none⟩ = some (.slice none 0 0) ∧
      w3.frozen? ⟨w.heap.size, 0, none⟩ = false ∧ w3.frozen? ⟨w.heap.size, 1, none⟩ = false ∧ w3.frozen? ⟨w.heap.size, 2, none⟩ = false ∧ w3.frozen? ⟨w.heap.size, 3, none⟩ = false ∧ w3.frozen? ⟨w.heap.size, 4, none⟩ = false) := Lib.hid fun W b v2 w3 hb hlb hj => by
    have hwW : Below w.heap.size w W := HB0.out.drew.trans (hb.mono HB0.out.size)
    have hrW : W.heap[w.heap.size]? = some (.cells #[.int .i64 0, .string ⟨#[]⟩, .string ⟨#[]⟩, .int .u64 0, .slice none 0 0] 25 (0, 0)) := (hb.block _ (Array.getElem?_eq_some_iff.1 HR0.out).1).trans HR0.out
    have hlt := (Array.getElem?_eq_some_iff.1 hrW).1
    rcases hj.below hwW hlb with ⟨h1, h2⟩ | h1
    · have hr2 := h2.trans hrW
      exact ⟨h1, hr2, (Array.getElem?_eq_some_iff.1 hr2).1, by rw [Lib.cell_of_heap hr2]; rfl, by rw [Lib.cell_of_heap hr2]; rfl, by rw [Lib.cell_of_heap hr2]; rfl, by rw [Lib.cell_of_heap hr2]; rfl, by rw [Lib.cell_of_heap hr2]; rfl, Lib.frozen_of_heap hr2 0, Lib.frozen_of_heap hr2 1, Lib.frozen_of_heap hr2 2, Lib.frozen_of_heap hr2 3, Lib.frozen_of_heap hr2 4⟩
    · exact absurd hlt h1
  have HF1 : Hid (∀ a1 c1 w1 w2 v2, Below w0.heap.size w0.drew w1 → NodeIn w1 (fun r => w0.drew.heap.size ≤ r ∧ r < w1.heap.size) t1 (nodeU t1.kind t1.text t1.more t1.num a1 t1.kids.length c1) → Below (w1.alloc (.cells #[.int .i64 t1.kind, .string t1.text, .string t1.more, .int .u64 t1.num, .slice a1 t1.kids.length c1] 25)).heap.size (w1.alloc (.cells #[.int .i64 t1.kind, .string t1.text, .string t1.more, .int .u64 t1.num, .slice a1 t1.kids.length c1] 25)) w2 → RowNodes w2 (w1.alloc (.cells #[.int .i64 t1.kind, .string t1.text, .string t1.more, .int .u64 t1.num, .slice a1 t1.kids.length c1] 25)).heap.size v2 kids →
      Below w0.heap.size w0.drew w2 ∧ w.heap.size < w1.heap.size ∧ JF (w.heap.size + 1) w1.heap.size t1 a1 c1 kids v2 w2) := Lib.hid fun a1 c1 w1 w2 v2 h1 h2 h3 h4 => by
    have e1 := h1.size
    have e2 : w0.heap.size = w.heap.size + 1 := HS0.out
    have e3 : w0.drew.heap.size = w0.heap.size := rfl
    exact ⟨(h1.alloc h1.size _).trans (h3.mono (h1.alloc h1.size (.cells #[.int .i64 t1.kind, .string t1.text, .string t1.more, .int .u64 t1.num, .slice a1 t1.kids.length c1] 25)).size), by omega, JF.first (by rw [e3, e2]; exact Nat.le_refl _) (by rw [e3]; exact e1) h2 h3 h4⟩
  have HF2 : Hid (∀ a1 c1 w1 w2 v2, Below w0.heap.size w0.drew w1 → NodeIn w1 (fun r => w0.drew.heap.size ≤ r ∧ r < w1.heap.size) t1 (nodeU t1.kind t1.text t1.more t1.num a1 t1.kids.length c1) → Below w1.heap.size w1 w2 → RowNodes w2 w1.heap.size v2 kids →
      Below w0.heap.size w0.drew (w2.alloc (.cells #[.int .i64 t1.kind, .string t1.text, .string t1.more, .int .u64 t1.num, .slice a1 t1.kids.length c1] 25)) ∧ w.heap.size < w2.heap.size ∧ JF (w.heap.size + 1) w2.heap.size t1 a1 c1 kids v2 (w2.alloc (.cells #[.int .i64 t1.kind, .string t1.text, .string t1.more, .int .u64 t1.num, .slice a1 t1.kids.length c1] 25))) := Lib.hid fun a1 c1 w1 w2 v2 h1 h2 h3 h4 => by
    have e1 := h1.size
    have e2 : w0.heap.size = w.heap.size + 1 := HS0.out
    have e3 : w0.drew.heap.size = w0.heap.size := rfl
    have e4 := h3.size
    have h5 := h1.trans (h3.mono h1.size)
    exact ⟨h5.alloc h5.size _, by omega, JF.second (by rw [e3, e2]; exact Nat.le_refl _) (by rw [e3]; exact e1) h2 h3 h4⟩
  go_region_held3 (fun w' => w'.cell? ⟨r, 3, none⟩ = some (x1) ∧ w'.cell? ⟨r, 4, none⟩ = some (.slice ad n cc)) (first | with_reducible exact HS.out _ (Below.refl _ _) | with_reducible exact HS.out _ hb1d | with_reducible exact HS.out _ hb1a | with_reducible exact HS.out _ hb2 | with_reducible exact HS.out _ hbX | with_reducible exact HSW.out _ hb3w | (with_reducible refine HSW.out _ ?_; repeat (first | with_reducible exact hb3w | with_reducible refine below_set ?_ _ _)) | go_keep) (first
    | (go_at_call 40; ((with_reducible refine HO.out.mono ?_)); rintro e w1 ⟨a1, c1, rfl, hn1, hb1⟩; have hb1d : Below w0.heap.size w0.drew w1 := hb1; have hb1a := HAL.out w1 hb1d (.cells #[.int .i64 t1.kind, .string t1.text, .string t1.more, .int .u64 t1.num, .slice a1 t1.kids.length c1] 25))
    | (go_at_call 98; ((with_reducible refine (HO1.out _ hb1d).mono ?_)); rintro e w2 ⟨v2, rfl, hrn, hb12⟩; obtain ⟨hbX, hltb, hJ⟩ := HF2.out a1 c1 w1 w2 v2 hb1d hn1 hb12 hrn; have hb2 : Below w0.heap.size w0.drew w2 := hb1d.trans (hb12.mono hb1d.size))
    | (go_at_call 98; ((with_reducible refine (HO1.out _ hb1a).mono ?_)); rintro e w2 ⟨v2, rfl, hrn, hb12⟩; obtain ⟨hbX, hltb, hJ⟩ := HF1.out a1 c1 w1 w2 v2 hb1d hn1 hb12 hrn; have hb2 := hbX)
    | (refine step_append_nodes (by rfl) _ _ (by rfl) (w.heap.size + 1) _ t1 a1 c1 kids v2 (by rfl) hJ.row hJ.low hJ.one (by rfl) hJ.rest HLEN.out ?_; intro v3 w3 hj; obtain ⟨a3, c3, rfl⟩ := hj.form; obtain ⟨hb3w, hr3, hlt3, z0, z1, z2, z3, z4, y0, y1, y2, y3, y4⟩ := HZ.out _ _ _ _ hbX hltb hj)
    | fail "none")
  all_goals
    have HJ := Lib.hid hj
    have HB3 := Lib.hid hb3w
    have HR3 := Lib.hid hr3
    clear hj hb3w hr3 hJ hbX hb2 hb12 hrn hb1 hb1d hb1a hn1
    go_wp2
    have hn3 := HJ.out.row.node (k := 44) (t := ⟨#[]⟩) (m := ⟨#[]⟩) (u := 0) rfl (by rw [List.length_cons]; have := HLEN.out; unfold maxLen; omega) (by omega) (by decide) (by decide) (by omega)
    have u0 := row_setG (row_setG (row_setG (row_setG (row_setG HR3.out 0 (.int .i64 44)) 1 (.string ⟨#[]⟩)) 2 (.string ⟨#[]⟩)) 3 (.int .u64 0)) 4 (.slice a3 (kids.length + 1) c3)
    have u1 := set_five_below HB3.out (.int .i64 44) (.string ⟨#[]⟩) (.string ⟨#[]⟩) (.int .u64 0) (.slice a3 (kids.length + 1) c3)
    have u2 := set_five (b := w.heap.size) (v0 := .int .i64 44) (v1 := .string ⟨#[]⟩) (v2 := .string ⟨#[]⟩) (v3 := .int .u64 0) (v4 := .slice a3 (kids.length + 1) c3) (Nat.lt_succ_self _) hn3
    generalize (((((w3.setCell ⟨w.heap.size, 0, none⟩ (.int .i64 44)).setCell ⟨w.heap.size, 1, none⟩ (.string ⟨#[]⟩)).setCell ⟨w.heap.size, 2, none⟩ (.string ⟨#[]⟩)).setCell ⟨w.heap.size, 3, none⟩ (.int .u64 0)).setCell ⟨w.heap.size, 4, none⟩ (.slice a3 (kids.length + 1) c3)) = F at *
    have q0 : F.cell? ⟨w.heap.size, 0, none⟩ = some (.int .i64 44) := by rw [Lib.cell_of_heap u0]; rfl
    have q1 : F.cell? ⟨w.heap.size, 1, none⟩ = some (.string ⟨#[]⟩) := by rw [Lib.cell_of_heap u0]; rfl
    have q2 : F.cell? ⟨w.heap.size, 2, none⟩ = some (.string ⟨#[]⟩) := by rw [Lib.cell_of_heap u0]; rfl
    have q3 : F.cell? ⟨w.heap.size, 3, none⟩ = some (.int .u64 0) := by rw [Lib.cell_of_heap u0]; rfl
    have q4 : F.cell? ⟨w.heap.size, 4, none⟩ = some (.slice a3 (kids.length + 1) c3) := by rw [Lib.cell_of_heap u0]; rfl
    refine bodyPost_ret (v := .agg #[.int .i64 44, .string ⟨#[]⟩, .string ⟨#[]⟩, .int .u64 0, .slice a3 (kids.length + 1) c3]) (by simp [results, Tryz.results54, go_sem, q0, q1, q2, q3, q4]) rfl ⟨a3, c3, rfl, u2.mono fun b hb => ⟨by omega, hb.2⟩, u1⟩


end Go.Proofs.YtgceklahjdbipaaGreatDoor
