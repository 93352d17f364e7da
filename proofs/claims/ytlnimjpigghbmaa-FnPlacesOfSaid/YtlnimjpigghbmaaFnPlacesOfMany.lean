/- FnPlacesOf: the walks of Position, of the deferred noList, and of PlacesOf: a slice of the places of all positions, where the lines rise. -/
import Derived.Test.YtlnimjpigghbmaaFnPlacesOfFile
import Derived.Defers
import Derived.Recover
import Derived.Tactics2
import Derived.Laws.Pointers
import Derived.BigCall
namespace Go.Proofs.Ytlnimjpigghbmaa
open Go.RowKit Go.Proofs.YtlnimjpigghbmaaW.PrintWords Go.Proofs.YtlnimjpigghbmaaW.PrintLast
open PFnPlacesOf

theorem FileAt.row {B b : Nat} {xs : List Int} {w : World} (h : FileAt B b xs w) : ∃ g cap cur, w.heap[b]? = some (.cells #[.string ⟨#[97]⟩, .slice (some ⟨g, 0, none⟩) xs.length cap, .int .i64 1073741824] 67 (0, 0)) ∧
    w.heap[g]? = some (.cells cur 3 (0, 0)) ∧ w.ownsRow B 3 1 (.slice (some ⟨g, 0, none⟩) xs.length cap) xs.length (xs.map (Value.int .i64)) ∧ xs.length ≤ cap := by
  obtain ⟨_, g, cap, hb, hown, hcap⟩ := h
  rcases hown.2 with ⟨h', _⟩ | ⟨g', cap', cur, h', _, hg, _⟩
  · cases h'
  · simp only [Value.slice.injEq, Option.some.injEq, Addr.mk.injEq, and_true, true_and] at h'
    obtain ⟨rfl, rfl⟩ := h'
    exact ⟨_, _, cur, hb, hg, hown, hcap⟩

theorem lt_of_heap {w : World} {k : Nat} {o : Obj} (h : w.heap[k]? = some o) : k < w.heap.size := by
  rcases Nat.lt_or_ge k w.heap.size with h' | h'
  · exact h'
  · rw [Array.getElem?_eq_none h'] at h; cases h

/-- A file stays one where no file and no row of lines is written. -/
theorem FileAt.kept {B b : Nat} {xs : List Int} {w w' : World} (h : FileAt B b xs w) {row : Option Nat} (hg : w.grownBy w' row) (hrow : ∀ k, row = some k → ∃ cs t, w.heap[k]? = some (.cells cs t (0, 0)) ∧ t ≠ 67 ∧ t ≠ 3) : FileAt B b xs w' := by
  obtain ⟨hB, g, cap, hb, hown, hcap⟩ := h
  have hne : ∀ k o, w.heap[k]? = some o → (∃ cs, o = .cells cs 67 (0, 0) ∨ o = .cells cs 3 (0, 0)) → some k ≠ row := by
    intro k o hk ⟨cs, ho⟩ e
    obtain ⟨cs', t, hk', h1, h2⟩ := hrow k e.symm
    rw [hk'] at hk
    cases hk
    rcases ho with ho | ho
    · cases ho; exact h1 rfl
    · cases ho; exact h2 rfl
  refine ⟨hB, g, cap, ?_, ?_, hcap⟩
  · rw [hg.block b (lt_of_heap hb) (hne b _ hb ⟨_, .inl rfl⟩)]
    exact hb
  · refine hown.kept hg (.inr ?_)
    rcases hown.2 with ⟨h', _⟩ | ⟨g', cap', cur, h', _, hgg, _⟩
    · cases h'
    · simp only [Value.slice.injEq, Option.some.injEq, Addr.mk.injEq, and_true, true_and] at h'
      obtain ⟨rfl, rfl⟩ := h'
      exact hne g _ hgg ⟨_, .inr rfl⟩

theorem reads_row {B g cap : Nat} {xs : List Int} {w : World} (h : w.ownsRow B 3 1 (.slice (some ⟨g, 0, none⟩) xs.length cap) xs.length (xs.map (Value.int .i64))) (hl : xs.length ≤ 1000) : ReadsInt w .i64 (some ⟨g, 0, none⟩) xs.length xs :=
  ⟨rfl, by omega, fun _ => ⟨_, rfl, fun j hj => by
    rw [add_plain, h.cellAt j (by omega)]
    simp [List.getD_eq_getElem?_getD, List.getElem?_eq_getElem hj]⟩⟩

set_option maxHeartbeats 1000000 in
theorem position_any (B b : Nat) (ls : List Int) (p : Int) (i : Nat) (w : World) (h : FileAt B b (0 :: ls) w) (hl : ls.length ≤ 50) (ha : Asc ls 0) (h1 : 1 ≤ p) (h2 : p ≤ 2000) (hs : Sep ls (p - 1) i) :
    Calls Try.prog 22 #[.pointer (some ⟨b, 0, none⟩), .int .i64 p] w fun e w' => e = .returned (.agg #[.int .i64 ((i : Int) + 1), .int .i64 (p - 1 - begins ls i + 1)]) ∧ Below w.heap.size w w' := by
  obtain ⟨g, cap, cur, hb, hg, hown, hcap⟩ := h.row
  have hbl := lt_of_heap hb
  have hgl := lt_of_heap hg
  have c1 : w.cell? ⟨b, 1, none⟩ = some (.slice (some ⟨g, 0, none⟩) (0 :: ls).length cap) := by rw [Lib.cell_of_heap hb]; rfl
  have hown1 := fun o => (hown.alloc o)
  have hil := hs.1
  have bpos : 0 ≤ begins ls i ∧ begins ls i ≤ 2000 := by
    unfold begins
    split
    · omega
    · have := ha.pos (i - 1) (by omega); omega
  have ci : w.cell? ⟨g, i, none⟩ = some (.int .i64 (begins ls i)) := by
    rw [hown.cellAt i (by simp; omega)]
    unfold begins
    cases i with
    | zero => rfl
    | succ i =>
      have hi' : i < ls.length := by omega
      simp [List.getD_eq_getElem?_getD, List.getElem?_eq_getElem hi']
  obtain ⟨z, hz⟩ : ∃ z, z = begins ls i := ⟨_, rfl⟩
  rw [← hz] at ci bpos
  have HZ := Lib.hid hz
  have hlen : (0 :: ls).length = ls.length + 1 := rfl
  have hse := searchInts_ends ls hl (p - 1) (by omega) i hs
  have HS := Aside0.mk hse
  rw [← hz]
  clear hz hse hb hg
  have H1 := Aside0.mk hown1
  have HO := Aside0.mk hown
  clear hown hown1
  rw [hlen] at c1
  go_enter Try.func22, Try.ntmps22
  go_wp2_with (go_at_call 30; refine (token_searchInts.calls 60 (some ⟨g, 0, none⟩) cap (0 :: ls) (p - 1) i _ (Kd.C_of_reads (d := (0 : Int)) (h1 := fun _ => rfl) (reads_row (B := B) (H1.out _) (by simp; omega))) hcap HS.out).mono ?_; rintro e w1 ⟨rfl, ⟨n, rfl⟩⟩)
  refine bodyPost_ret (v := .agg #[.int .i64 ((i : Int) + 1), .int .i64 (p - 1 - z + 1)]) (by simp [results, Try.results22, go_sem]) rfl ⟨rfl, ?_⟩
  exact ((drawn_below ((Below.refl _ w).alloc (Nat.le_refl _) _) n).setCell (p := ⟨w.heap.size, 0, none⟩) (Nat.le_refl _) _).setCell (p := ⟨w.heap.size, 1, none⟩) (Nat.le_refl _) _

/- How many of the lines begin at a place or ahead of it. -/
open Classical in
/-- (chosen) -/
noncomputable def ix (ls : List Int) (x : Int) : Nat := if h : ∃ i, Sep ls x i then Classical.choose h else 0
theorem ix_sep {ls : List Int} (h : Asc ls 0) (x : Int) : Sep ls x (ix ls x) := by
  unfold ix
  rw [dif_pos (sep_of ls h x)]
  exact Classical.choose_spec (sep_of ls h x)
noncomputable def line (ls : List Int) (p : Int) : Int := (ix ls (p - 1) : Int) + 1
noncomputable def column (ls : List Int) (p : Int) : Int := p - 1 - begins ls (ix ls (p - 1)) + 1
theorem position_line (B b : Nat) (ls : List Int) (p : Int) (w : World) (h : FileAt B b (0 :: ls) w) (hl : ls.length ≤ 50) (ha : Asc ls 0) (h1 : 1 ≤ p) (h2 : p ≤ 2000) :
    Calls Try.prog 22 #[.pointer (some ⟨b, 0, none⟩), .int .i64 p] w fun e w' => e = .returned (.agg #[.int .i64 (line ls p), .int .i64 (column ls p)]) ∧ Below w.heap.size w w' :=
  position_any B b ls p (ix ls (p - 1)) w h hl ha h1 h2 (ix_sep ha _)
noncomputable def placeCells (ls : List Int) : List Int → List Value
  | [] => []
  | p :: ps => .int .i64 (line ls p) :: .int .i64 (column ls p) :: placeCells ls ps
theorem placeCells_append (ls : List Int) (a b : List Int) : placeCells ls (a ++ b) = placeCells ls a ++ placeCells ls b := by
  induction a with
  | nil => rfl
  | cons p a ih => simp [placeCells, ih]
theorem placeCells_length (ls : List Int) (a : List Int) : (placeCells ls a).length = a.length * 2 := by
  induction a with
  | nil => rfl
  | cons p a ih => simp [placeCells, ih]; omega

/-- What the call holds at a round's head. -/
def PlacesAt (B bf : Nat) (ls : List Int) (v : Value) (k : Nat) (cells : List Value) (wr : World) : Prop :=
  wr.heap[B]? = some (.cells #[v] 31 (0, 0)) ∧ wr.heap[B + 1]? = some (.cells #[.bool false] 4 (0, 0)) ∧ wr.ownsRow (B + 2) 23 2 v k cells ∧ FileAt (B + 2) bf (0 :: ls) wr

theorem PlacesAt.below {B bf : Nat} {ls : List Int} {v : Value} {k : Nat} {cells : List Value} {w w' : World} (h : PlacesAt B bf ls v k cells w) (hb : Below w.heap.size w w') : PlacesAt B bf ls v k cells w' := by
  have hg : w.grownBy w' none := ⟨hb.os, hb.tape, hb.output, hb.size, fun k hk _ => hb.block k hk⟩
  exact ⟨(hb.block _ (lt_of_heap h.1)).trans h.1, (hb.block _ (lt_of_heap h.2.1)).trans h.2.1, h.2.2.1.kept hg (by cases hv : v.ownBlock <;> simp), h.2.2.2.kept hg (fun k hk => by cases hk)⟩

theorem own_tag {w : World} {B : Nat} {e : TypeId} {size n : Nat} {v : Value} {xs : List Value} (h : w.ownsRow B e size v n xs) : ∀ k, v.ownBlock = some k → ∃ cs, w.heap[k]? = some (.cells cs e (0, 0)) := by
  intro k hk
  rcases h.2 with ⟨rfl, _⟩ | ⟨g, cap, cur, rfl, _, hg, _⟩
  · cases hk
  · simp only [Value.ownBlock, Option.some.injEq] at hk
    subst hk
    exact ⟨cur, hg⟩

/-- An append to the places, and its store. -/
theorem PlacesAt.pushed {B bf : Nat} {ls : List Int} {v v' : Value} {k k' : Nat} {cells cells' : List Value} {w w' : World} (h : PlacesAt B bf ls v k cells w) (hg : w.grownBy w' v.ownBlock) (ho : w'.ownsRow (B + 2) 23 2 v' k' cells') :
    PlacesAt B bf ls v' k' cells' (w'.setCell ⟨B, 0, none⟩ v') := by
  obtain ⟨h0, h1, h2, h3⟩ := h
  have hne : ∀ j cs t, w.heap[j]? = some (.cells cs t (0, 0)) → t ≠ 23 → some j ≠ v.ownBlock := by
    intro j cs t hj ht e
    obtain ⟨cs', hc⟩ := own_tag h2 j e.symm
    rw [hj] at hc
    cases hc
    exact ht rfl
  have hl0 := lt_of_heap h0
  have hl1 := lt_of_heap h1
  have k0 : w'.heap[B]? = some (.cells #[v] 31 (0, 0)) := (hg.block B hl0 (hne B _ _ h0 (by decide))).trans h0
  have k1 : w'.heap[B + 1]? = some (.cells #[.bool false] 4 (0, 0)) := (hg.block (B + 1) hl1 (hne (B + 1) _ _ h1 (by decide))).trans h1
  have k3 : FileAt (B + 2) bf (0 :: ls) w' := h3.kept hg (fun j hj => by
    obtain ⟨cs, hc⟩ := own_tag h2 j hj
    exact ⟨cs, 23, hc, by decide, by decide⟩)
  refine ⟨?_, ?_, ?_, ?_⟩
  · rw [heap_setCell_same w' B 0 _ 31 _ k0]; rfl
  · rw [heap_setCell_other _ _ _ _ (by simp)]; exact k1
  · refine ho.kept (Lib.grownBy_setCell w' B 0 v') (.inr fun e => ?_)
    obtain ⟨cs, hc⟩ := own_tag ho B e
    rw [k0] at hc
    cases hc
  · exact k3.kept (Lib.grownBy_setCell w' B 0 v') (fun j hj => by cases hj; exact ⟨_, 31, k0, by decide, by decide⟩)

theorem ownsRow_base {w : World} {B B' : Nat} {e : TypeId} {size n : Nat} {v : Value} {xs : List Value} (h : w.ownsRow B e size v n xs) (hB : B' ≤ B) : w.ownsRow B' e size v n xs := by
  refine ⟨h.1, ?_⟩
  rcases h.2 with h' | ⟨g, cap, cur, h1, h2, h3⟩
  · exact .inl h'
  · exact .inr ⟨g, cap, cur, h1, by omega, h3⟩

theorem noList_idle (p q : Addr) (w : World) :
    CallsD Try.prog 20 #[.pointer (some p), .pointer (some q)] .returning w fun e u' w' => e = .returned (.tuple #[]) ∧ u' = .returning ∧ w' = w := by
  refine callsD_of_wpS Try.func20 rfl fun c₀ cs hu => ?_
  apply wpS_seq
  apply wpS_region
  simp [wpOpsS, go_sem, recoverD, hu, Try.ntmps20, Exit.thenS]
  refine wpS_cond (t := false) (by simp [Act.eval, Array.replicate]) ?_
  simp only [Bool.false_eq_true, if_false]
  refine wpS_of_wp (wp_skip ?_)
  cases c₀
  simp_all [bodyPostS, results, Try.results20]

theorem info23 : (Try.prog.info? 23).map (fun i => (i.zero, i.size, i.bytes)) = some (some (.agg #[.int .i64 0, .int .i64 0]), 2, 16) := by kernel_rfl

set_option maxHeartbeats 2000000 in
theorem placesOf_any (A : Option Addr) (c : Nat) (ls : List Int) (b off c' : Nat) (ps : List Int) (w : World) (ha : Asc ls 0) (hl : ls.length ≤ 50) (hps : ps.length ≤ 50) (hp : ∀ j, j < ps.length → 1 ≤ ps.getD j 0 ∧ ps.getD j 0 ≤ 2000) (hr : Ints w b off ps)
    (hf : ∀ w' : World, Below w.heap.size w w' → Calls Try.prog 21 #[.slice A ls.length c] w' fun e w'' => ∃ bf, e = .returned (.pointer (some ⟨bf, 0, none⟩)) ∧ FileAt w'.heap.size bf (0 :: ls) w'' ∧ Below w'.heap.size w' w'') :
    Calls Try.prog 10 #[.slice A ls.length c, .slice (some ⟨b, off, none⟩) ps.length c'] w fun e w' => ∃ v, e = .returned (.tuple #[v, .bool true]) ∧ w'.ownsRow w.heap.size 23 2 v ps.length (placeCells ls ps) ∧ Below w.heap.size w w' := by
  have HF := Lib.hid hf
  clear hf
  obtain ⟨i0, hi, hz0, hz1, hz2⟩ := info_parts info23
  go_enter_defers Try.func10, Try.ntmps10
  go_wp2_with (go_at_call 21; refine (HF.out _ (((Below.refl _ w).alloc (Nat.le_refl _) _).alloc (by simp) _)).mono ?_; rintro e w1 ⟨bf, rfl, hfile, hb1⟩)
  have hP : PlacesAt w.heap.size bf ls (.slice none 0 0) 0 [] w1 := by
    have e : ((w.alloc (.cells #[.slice none 0 0] 31)).alloc (.cells #[.bool false] 4)).heap.size = w.heap.size + 2 := by simp
    rw [e] at hfile hb1
    refine ⟨?_, ?_, World.ownsRow_nil _ _ _ _, hfile⟩
    · rw [hb1.block _ (by omega), Below.heap_alloc _ _ _ (by simp)]
      exact heap_alloc_new w _
    · rw [hb1.block _ (by omega)]
      have h := heap_alloc_new (w.alloc (.cells #[.slice none 0 0] 31)) (.cells #[.bool false] 4)
      rw [show (w.alloc (.cells #[.slice none 0 0] 31)).heap.size = w.heap.size + 1 by simp] at h
      exact h
  have hB : Below w.heap.size w w1 := ((((Below.refl _ w).alloc (Nat.le_refl _) _).alloc (by simp) _).trans (hb1.mono (by simp; omega)))
  have hS : w.heap.size + 2 ≤ w1.heap.size := by have := hb1.size; simp at this; omega
  clear hfile hb1
  go_loopw [14] (fun i wr => ∃ (k : Nat) (v : Value), k ≤ ps.length ∧ i = .int .i64 k ∧ PlacesAt w.heap.size bf ls v k (placeCells ls (ps.take k)) wr ∧ Below w.heap.size w wr) (fun i _ => ps.length - (intOf i).toNat)
  case atStart => exact ⟨0, _, Nat.zero_le _, rfl, by simpa [placeCells] using hP, hB⟩
  case round =>
    obtain ⟨k, v, hk, rfl, hPr, hBr⟩ := hrel
    by_cases hlt : k < ps.length
    · have hcell : wr.cell? ⟨b, off + k, none⟩ = some (.int .i64 (ps.getD k 0)) := (hr.below hBr).2 k hlt
      have hpk := hp k hlt
      obtain ⟨x, hx⟩ : ∃ x, x = ps.getD k 0 := ⟨_, rfl⟩
      rw [← hx] at hcell hpk
      have HX := Lib.hid hx
      have HP := Lib.hid hPr
      clear hx hPr
      go_wp2_with (go_at_call 22; refine (position_line (w.heap.size + 2) bf ls x wr HP.out.2.2.2 hl ha hpk.1 hpk.2).mono ?_; rintro e w2 ⟨rfl, hb2⟩; refine Hid.out ?_)
      have hP2 := HP.out.below hb2
      have c2 : w2.cell? ⟨w.heap.size, 0, none⟩ = some v := by rw [Lib.cell_of_heap hP2.1]; rfl
      have f2 : w2.frozen? ⟨w.heap.size, 0, none⟩ = false := Lib.frozen_of_heap hP2.1 0
      refine Lib.hid ?_
      have hsz : w.heap.size + 2 ≤ w2.heap.size := by have := lt_of_heap hP2.2.1; omega
      have hlt2 : w.heap.size < w2.heap.size := by omega
      have hle : k ≤ 50 := by omega
      go_wp2_with (at_builtin; refine wpList_append_own _ rfl _ _ 31 rfl (w.heap.size + 2) 23 i0 (.agg #[.int .i64 0, .int .i64 0]) 2 16 Try.underlying31 hi hz0 hz1 hz2 rfl (by decide) _ _ _ rfl ((hP2.2.2.1.alloc _).alloc _) ⟨w2.heap.size + 1, 0, none⟩ 1 1 [.int .i64 (line ls x), .int .i64 (column ls x)] rfl rfl ?c1 ?c2 ?c3 ?c4 ?c5 ?_)
      case c1 =>
        intro j u hj
        match j, hj with
        | 0, hj => simp at hj; subst hj; simp only [Addr.add, if_true]; rw [World.cell?_alloc_at _ _ _ _ (by simp)]; rfl
        | 1, hj => simp at hj; subst hj; rw [add_plain, World.cell?_alloc_at _ _ _ _ (by simp)]; rfl
      case c2 => intro u hu; simp at hu; rcases hu with rfl | rfl <;> rfl
      case c3 => unfold maxLen; omega
      case c4 => omega
      case c5 => simp; omega
      intro v' w3 hown3 hgrow _
      have hP3 := hP2.below (((Below.refl w2.heap.size w2).alloc (Nat.le_refl _) (.cells #[.int .i64 (line ls x), .int .i64 (column ls x)] 40)).alloc (by simp) (.cells #[.int .i64 (line ls x), .int .i64 (column ls x)] 23))
      have hP4 := hP3.pushed hgrow hown3
      have hb3 : Below w.heap.size w w3 := (((hBr.trans (hb2.mono hBr.size)).alloc (by omega) _).alloc (by simp; omega) _).grown hgrow (by simp; omega) (fun j hj => by have := (hP2.2.2.1.lt j hj).1; omega)
      have c3 : w3.cell? ⟨w.heap.size, 0, none⟩ = some v := by
        have h := hgrow.block w.heap.size (by simp; omega) (fun e => by obtain ⟨cs, hc⟩ := own_tag hP3.2.2.1 _ e.symm; rw [hP3.1] at hc; cases hc)
        rw [Lib.cell_of_heap (h.trans hP3.1)]; rfl
      have f3 : w3.frozen? ⟨w.heap.size, 0, none⟩ = false := by
        have h := hgrow.block w.heap.size (by simp; omega) (fun e => by obtain ⟨cs, hc⟩ := own_tag hP3.2.2.1 _ e.symm; rw [hP3.1] at hc; cases hc)
        exact Lib.frozen_of_heap (h.trans hP3.1) 0
      obtain ⟨ad, len, cap, rfl⟩ : ∃ ad len cap, v' = .slice ad len cap := by
        rcases hown3.2 with ⟨h, _⟩ | ⟨g, cap, _, h, _⟩
        · exact ⟨_, _, _, h⟩
        · exact ⟨_, _, _, h⟩
      have HP4 := Lib.hid hP4
      clear hP4 hP3
      go_wp2
      go_roundw
      case rel =>
        refine ⟨k + 1, .slice ad len cap, by omega, by go_num, ?_, hb3.setCell (p := ⟨w.heap.size, 0, none⟩) (Nat.le_refl _) _⟩
        have e : placeCells ls (ps.take (k + 1)) = placeCells ls (ps.take k) ++ [.int .i64 (line ls x), .int .i64 (column ls x)] := by
          rw [take_snoc_int ps k hlt, placeCells_append, ← HX.out]
          rfl
        rw [e]
        exact HP4.out
      case measure => simp [intOf]; omega
    · have hk' : k = ps.length := by omega
      rw [hk', List.take_length] at hPr
      clear hk'
      have c3 : wr.cell? ⟨w.heap.size, 0, none⟩ = some v := by rw [Lib.cell_of_heap hPr.1]; rfl
      have f3 : wr.frozen? ⟨w.heap.size, 0, none⟩ = false := Lib.frozen_of_heap hPr.1 0
      have c4 : wr.cell? ⟨w.heap.size + 1, 0, none⟩ = some (.bool false) := by rw [Lib.cell_of_heap hPr.2.1]; rfl
      have f4 : wr.frozen? ⟨w.heap.size + 1, 0, none⟩ = false := Lib.frozen_of_heap hPr.2.1 0
      obtain ⟨ad, len, cap, hv⟩ : ∃ ad len cap, v = .slice ad len cap := by
        rcases hPr.2.2.1.2 with ⟨h, _⟩ | ⟨g, cap, _, h, _⟩
        · exact ⟨_, _, _, h⟩
        · exact ⟨_, _, _, h⟩
      subst hv
      go_wp2
      refine leaves_cons (f := 20) (args := #[.pointer (some ⟨w.heap.size, 0, none⟩), .pointer (some ⟨w.heap.size + 1, 0, none⟩)]) (by simp) (by simp [go_sem]) ?_
      refine (noList_idle ⟨w.heap.size, 0, none⟩ ⟨w.heap.size + 1, 0, none⟩ _).mono ?_
      rintro e u' w'' ⟨rfl, rfl, rfl⟩
      have k0 := heap_setCell_same wr w.heap.size 0 _ 31 (.slice ad len cap) hPr.1
      have q0 : (wr.setCell ⟨w.heap.size, 0, none⟩ (.slice ad len cap)).cell? ⟨w.heap.size, 0, none⟩ = some (.slice ad len cap) := by rw [Lib.cell_of_heap k0]; rfl
      have k1 := heap_setCell_same (wr.setCell ⟨w.heap.size, 0, none⟩ (.slice ad len cap)) (w.heap.size + 1) 0 #[.bool false] 4 (.bool true) (by rw [heap_setCell_other _ _ _ _ (by simp)]; exact hPr.2.1)
      have q1 : ((wr.setCell ⟨w.heap.size, 0, none⟩ (.slice ad len cap)).setCell ⟨w.heap.size + 1, 0, none⟩ (.bool true)).cell? ⟨w.heap.size + 1, 0, none⟩ = some (.bool true) := by rw [Lib.cell_of_heap k1]; rfl
      clear k0 k1
      simp [Leaves, settle, results, Try.results10, go_sem, q0, q1]
      exact ⟨(ownsRow_base (((hPr.2.2.1.kept (Lib.grownBy_setCell wr w.heap.size 0 _) (.inr fun e => by obtain ⟨cs, hc⟩ := own_tag hPr.2.2.1 _ e; rw [hPr.1] at hc; cases hc)).kept (Lib.grownBy_setCell _ (w.heap.size + 1) 0 _) (.inr fun e => by obtain ⟨cs, hc⟩ := own_tag hPr.2.2.1 _ e; rw [hPr.2.1] at hc; cases hc))) (by omega)), (hBr.setCell (p := ⟨w.heap.size, 0, none⟩) (Nat.le_refl _) _).setCell (p := ⟨w.heap.size + 1, 0, none⟩) (by simp) _⟩

set_option maxHeartbeats 2000000 in
theorem placesOf_none (A : Option Addr) (c : Nat) (ls : List Int) (A' : Option Addr) (c' : Nat) (w : World)
    (hf : ∀ w' : World, Below w.heap.size w w' → Calls Try.prog 21 #[.slice A ls.length c] w' fun e w'' => ∃ bf, e = .returned (.pointer (some ⟨bf, 0, none⟩)) ∧ FileAt w'.heap.size bf (0 :: ls) w'' ∧ Below w'.heap.size w' w'') :
    Calls Try.prog 10 #[.slice A ls.length c, .slice A' 0 c'] w fun e w' => ∃ v, e = .returned (.tuple #[v, .bool true]) ∧ w'.ownsRow w.heap.size 23 2 v 0 [] ∧ Below w.heap.size w w' := by
  have HF := Lib.hid hf
  clear hf
  go_enter_defers Try.func10, Try.ntmps10
  go_wp2_with (go_at_call 21; refine (HF.out _ (((Below.refl _ w).alloc (Nat.le_refl _) _).alloc (by simp) _)).mono ?_; rintro e w1 ⟨bf, rfl, hfile, hb1⟩; refine Hid.out ?_)
  have e : ((w.alloc (.cells #[.slice none 0 0] 31)).alloc (.cells #[.bool false] 4)).heap.size = w.heap.size + 2 := by simp
  rw [e] at hb1
  have h0 : w1.heap[w.heap.size]? = some (.cells #[.slice none 0 0] 31 (0, 0)) := by
    rw [hb1.block _ (by omega), Below.heap_alloc _ _ _ (by simp)]
    exact heap_alloc_new w _
  have h1 : w1.heap[w.heap.size + 1]? = some (.cells #[.bool false] 4 (0, 0)) := by
    rw [hb1.block _ (by omega)]
    have h := heap_alloc_new (w.alloc (.cells #[.slice none 0 0] 31)) (.cells #[.bool false] 4)
    rw [show (w.alloc (.cells #[.slice none 0 0] 31)).heap.size = w.heap.size + 1 by simp] at h
    exact h
  have hB : Below w.heap.size w w1 := ((((Below.refl _ w).alloc (Nat.le_refl _) _).alloc (by simp) _).trans (hb1.mono (by omega)))
  have c3 : w1.cell? ⟨w.heap.size, 0, none⟩ = some (.slice none 0 0) := by rw [Lib.cell_of_heap h0]; rfl
  have f3 : w1.frozen? ⟨w.heap.size, 0, none⟩ = false := Lib.frozen_of_heap h0 0
  have c4 : w1.cell? ⟨w.heap.size + 1, 0, none⟩ = some (.bool false) := by rw [Lib.cell_of_heap h1]; rfl
  have f4 : w1.frozen? ⟨w.heap.size + 1, 0, none⟩ = false := Lib.frozen_of_heap h1 0
  have k0 := heap_setCell_same w1 w.heap.size 0 _ 31 (.slice none 0 0) h0
  have q0 : (w1.setCell ⟨w.heap.size, 0, none⟩ (.slice none 0 0)).cell? ⟨w.heap.size, 0, none⟩ = some (.slice none 0 0) := by rw [Lib.cell_of_heap k0]; rfl
  have k1 := heap_setCell_same (w1.setCell ⟨w.heap.size, 0, none⟩ (.slice none 0 0)) (w.heap.size + 1) 0 #[.bool false] 4 (.bool true) (by rw [heap_setCell_other _ _ _ _ (by simp)]; exact h1)
  have q1 : ((w1.setCell ⟨w.heap.size, 0, none⟩ (.slice none 0 0)).setCell ⟨w.heap.size + 1, 0, none⟩ (.bool true)).cell? ⟨w.heap.size + 1, 0, none⟩ = some (.bool true) := by rw [Lib.cell_of_heap k1]; rfl
  clear k0 k1 h0 h1 e hb1
  refine Lib.hid ?_
  go_wp2
  refine wp_loop_rounds 1 ?_
  rw [rounds_succ]
  go_wp2
  refine leaves_cons (f := 20) (args := #[.pointer (some ⟨w.heap.size, 0, none⟩), .pointer (some ⟨w.heap.size + 1, 0, none⟩)]) (by simp) (by simp [go_sem]) ?_
  refine (noList_idle ⟨w.heap.size, 0, none⟩ ⟨w.heap.size + 1, 0, none⟩ _).mono ?_
  rintro e u' w'' ⟨rfl, rfl, rfl⟩
  simp [Leaves, settle, results, Try.results10, go_sem, q0, q1]
  exact ⟨World.ownsRow_nil _ _ _ _, (hB.setCell (p := ⟨w.heap.size, 0, none⟩) (Nat.le_refl _) _).setCell (p := ⟨w.heap.size + 1, 0, none⟩) (by simp) _⟩

end Go.Proofs.Ytlnimjpigghbmaa
