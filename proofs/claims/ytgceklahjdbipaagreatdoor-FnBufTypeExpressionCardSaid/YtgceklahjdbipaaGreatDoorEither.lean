/- The maker's slots out of several lists. The maker's slots of an import: an identifier or none, and a text. spec.choice: the numbers of what may stand at a place. The maker's two slots of a node that is one of some, or none. join over two lists of slots. join over three lists of slots. -/
import Derived.Test.YtgceklahjdbipaaGreatDoorMakerAll
import Derived.Test.YtgceklahjdbipaaGreatDoorMapLit
namespace Go.Proofs.YtgceklahjdbipaaGreatDoor
open Go Go.RowKit
set_option linter.unusedVariables false
set_option linter.unusedSimpArgs false

/-- Slots in memory, or none. -/
def ListAt (w : World) (v : Value) (l : List (SlotQ × Value)) : Prop :=
  (v = .slice none 0 0 ∧ l = []) ∨ ∃ g c : Nat, v = .slice (some ⟨g, 0, none⟩) l.length c ∧ g < w.heap.size ∧ ∀ j u, (slotCells l)[j]? = some u → w.cell? ((⟨g, 0, none⟩ : Addr).add j) = some u

theorem ListAt.below {w w' : World} {v : Value} {l : List (SlotQ × Value)} (h : ListAt w v l) (hb : Below w.heap.size w w') : ListAt w' v l := by
  rcases h with h | ⟨g, c, h1, h2, h3⟩
  · exact .inl h
  · refine .inr ⟨g, c, h1, Nat.lt_of_lt_of_le h2 hb.size, fun j u hu => ?_⟩
    have h4 := h3 j u hu
    rw [show (⟨g, 0, none⟩ : Addr).add j = ⟨g, j, none⟩ by unfold Addr.add; split <;> simp_all] at h4 ⊢
    exact (hb.cell (p := ⟨g, j, none⟩) h2).trans h4

theorem own_cap {w : World} {base : Nat} {e : TypeId} {size n c k : Nat} {a : Option Addr} {xs : List Value} (h : w.ownsRow base e size (.slice a k c) n xs) (hk : k = n := by rfl) : k ≤ c := by
  rcases h.2 with ⟨h1, h0⟩ | ⟨g, cap, cur, h1, _, _, hnc, _⟩
  · simp only [Value.slice.injEq] at h1
    omega
  · simp only [Value.slice.injEq] at h1
    omega

def JoinPost (l : List (SlotQ × Value)) (w : World) (e : Ending) (w' : World) : Prop :=
  ∃ v, e = .returned v ∧ w'.ownsRow w.heap.size 267 4 v l.length (slotCells l) ∧ Below w.heap.size w w'

set_option maxHeartbeats 4000000 in
set_option maxRecDepth 100000 in
theorem join_any (ls : List (Value × List (SlotQ × Value))) (B : Nat) (w : World) (hB : w.heap[B]? = some (.cells (ls.map Prod.fst).toArray 262 (0, 0))) (hls : ∀ p ∈ ls, ListAt w p.1 p.2) (hone : ∀ p ∈ ls, ∀ u ∈ slotCells p.2, u.oneCell' = true) (hn : ls.length ≤ 100) (hlen : (ls.flatMap Prod.snd).length ≤ 100) :
    Calls Tryz.prog 192 #[.slice (some ⟨B, 0, none⟩) ls.length ls.length] w (JoinPost (ls.flatMap Prod.snd) w) := by
  obtain ⟨i0, hi0, hz0, hz1, hz2⟩ := info_parts slot_info
  have hBl := (Array.getElem?_eq_some_iff.1 hB).1
  have HBB := Lib.hid hB
  have HLS := Lib.hid hls
  have HON := Lib.hid hone
  have HLN := Lib.hid hlen
  have HP : Hid (∀ v w', w'.ownsRow w.heap.size 267 4 v (ls.flatMap Prod.snd).length (slotCells (ls.flatMap Prod.snd)) → Below w.heap.size w w' → JoinPost (ls.flatMap Prod.snd) w (.returned v) w') := Lib.hid fun v w' h1 h2 => ⟨v, rfl, h1, h2⟩
  clear hB hls hone hlen
  go_enter Tryz.func192, Tryz.ntmps192
  go_wp2
  go_loopw [3, 8] (fun o i wr => ∃ j : Nat, j ≤ ls.length ∧ i = .int .i64 j ∧ Hid (wr.ownsRow w.heap.size 267 4 o ((ls.take j).flatMap Prod.snd).length (slotCells ((ls.take j).flatMap Prod.snd))) ∧ Hid (Below w.heap.size w wr)) (fun _ i _ => ls.length - (intOf i).toNat)
  case atStart => exact ⟨0, Nat.zero_le _, rfl, Lib.hid (World.ownsRow_nil _ _ _ _), Lib.hid (Below.refl _ _)⟩
  case round =>
    obtain ⟨j, hj, rfl, HO, HB⟩ := hrel
    obtain ⟨a, c, rfl⟩ := slice_of_own HO.out
    by_cases hlt : j < ls.length
    · have htk : (ls.take (j + 1)).flatMap Prod.snd = (ls.take j).flatMap Prod.snd ++ ls[j].2 := by
        rw [List.take_succ_eq_append_getElem hlt, List.flatMap_append]
        simp
      have hle : ((ls.take (j + 1)).flatMap Prod.snd).length ≤ 100 := by
        have h1 := HLN.out
        rw [← List.take_append_drop (j + 1) ls, List.flatMap_append, List.length_append] at h1
        omega
      have hc : wr.cell? ⟨B, j, none⟩ = some ls[j].1 := by
        rw [HB.out.cell (p := ⟨B, j, none⟩) hBl, Lib.cell_of_heap HBB.out]
        simp [hlt]
      have hla := (HLS.out ls[j] (List.getElem_mem hlt)).below HB.out
      have hoj := HON.out ls[j] (List.getElem_mem hlt)
      rw [htk, List.length_append] at hle
      have HTK := Lib.hid htk
      have HOJ := Lib.hid hoj
      clear htk hoj
      generalize (ls.take j).flatMap Prod.snd = done at *
      generalize ls[j] = p at *
      obtain ⟨v, l⟩ := p
      simp only at hc hla hle
      rcases hla with ⟨rfl, rfl⟩ | ⟨g, cp, rfl, hg, hcs⟩
      · have hi1 : (j : Int) < ls.length := by omega
        have hcap : done.length ≤ c := own_cap HO.out
        have HO5 : Hid (wr.ownsRow w.heap.size 267 4 (.slice a done.length c) (done ++ []).length (slotCells (done ++ []))) := Lib.hid (by rw [List.append_nil]; exact HO.out)
        rw [← HTK.out] at HO5
        cases a with
        | none =>
          go_wp2
          go_roundw
          case rel => exact ⟨j + 1, by omega, by go_num, HO5, HB⟩
          case measure => simp [intOf]; omega
        | some ad =>
          go_wp2
          go_roundw
          case rel => exact ⟨j + 1, by omega, by go_num, HO5, HB⟩
          case measure => simp [intOf]; omega
      · have hi1 : (j : Int) < ls.length := by omega
        have hmx : done.length + l.length ≤ maxLen := by unfold maxLen; omega
        have hbl : (done.length + l.length) * 32 ≤ 140737488355328 := by omega
        have HCS := Lib.hid hcs
        clear hcs
        go_wp2_with (at_builtin; refine wpList_append_own2 rfl _ _ 262 rfl w.heap.size 267 i0 _ 4 32 Tryz.underlying262 hi0 hz0 hz1 hz2 rfl (by decide) _ done.length (slotCells done) rfl HO.out ⟨g, 0, none⟩ l.length cp (slotCells l) rfl (slotCells_length l) HCS.out HOJ.out hmx hbl HB.out.size ?_)
        intro v' w5 hown' hgrow _
        rw [← slotCells_append] at hown'
        have hb5 := HB.out.grown hgrow HB.out.size (fun k e => (HO.out.lt k e).1)
        have HO5 : Hid (w5.ownsRow w.heap.size 267 4 v' (done ++ l).length (slotCells (done ++ l))) := Lib.hid (by rw [List.length_append]; exact hown')
        have HB5 := Lib.hid hb5
        rw [← HTK.out] at HO5
        clear hown' hgrow hb5 hc
        go_wp2
        go_roundw
        case rel => exact ⟨j + 1, by omega, by go_num, HO5, HB5⟩
        case measure => simp [intOf]; omega
    · have hje : j = ls.length := by omega
      have hO := HO.out
      subst hje
      have HTL : Hid ((ls.take ls.length).flatMap Prod.snd = ls.flatMap Prod.snd) := Lib.hid (by rw [List.take_length])
      clear hO
      rw [HTL.out] at HO ⊢
      go_wp2
      go_ret
      exact HP.out _ _ HO.out HB.out

theorem FnD.below {M : Nat} {base : Bool} {D : Nat → Prop} {w w' : World} {f : Value} {s : SlotP} {sz : Nat} (h : FnD M base D w f s sz) (hD : ∀ r, D r → r < w.heap.size) (hb : Below w.heap.size w w') : FnD M base D w' f s sz :=
  fun W hW => h W fun r hr => ⟨(hW r hr).1.trans (hb.block r (hD r hr)), (hW r hr).2⟩

theorem FnD.mono {M : Nat} {base : Bool} {D D' : Nat → Prop} {w : World} {f : Value} {s : SlotP} {sz : Nat} (h : FnD M base D w f s sz) (hD : ∀ r, D r → D' r) : FnD M base D' w f s sz :=
  fun W hW => h W fun r hr => hW r (hD r hr)

theorem ListAt.slice {w : World} {v : Value} {l : List (SlotQ × Value)} (h : ListAt w v l) : ∃ a n c, v = .slice a n c := by
  rcases h with ⟨rfl, _⟩ | ⟨g, c, rfl, _⟩
  · exact ⟨_, _, _, rfl⟩
  · exact ⟨_, _, _, rfl⟩

/-- Slots of a node, or none. -/
def MaybePost (M : Nat) (base : Bool) (fs : List SlotQ) (w : World) (e : Ending) (w' : World) : Prop :=
  ∃ (v : Value) (l : List (SlotQ × Value)) (D : Nat → Prop), e = .returned v ∧ l.map Prod.fst = fs ∧ ListAt w' v l ∧ (∀ k, v.ownBlock = some k → w.heap.size ≤ k) ∧ Below w.heap.size w w' ∧ (∀ r, D r → r < w'.heap.size ∧ MkOther M r w') ∧ ∀ p ∈ l, FnD M base D w' p.2 p.1.s p.1.sz

theorem SlotsPost.maybe {M : Nat} {base : Bool} {fs : List SlotQ} {w : World} {e : Ending} {w' : World} (h : SlotsPost M base fs w e w') (h0 : 0 < fs.length) : MaybePost M base fs w e w' := by
  obtain ⟨v, l, D, rfl, hl, hown, hb, hD, hf⟩ := h
  have hl0 : 0 < l.length := by
    have e := congrArg List.length hl
    rw [List.length_map] at e
    omega
  obtain ⟨g, c, rfl, h1, h2⟩ := hown.form hl0
  exact ⟨_, l, D, rfl, hl, .inr ⟨g, c, rfl, h2, hown.cells (g := g) rfl⟩, fun k hk => (hown.lt k hk).1, hb, fun r hr => ⟨(hD r hr).1, (hD r hr).2.1⟩, hf⟩

set_option maxHeartbeats 4000000 in
set_option maxRecDepth 100000 in
theorem maybeAt_some (M : Nat) (base : Bool) (out : List UInt8) (N i : Nat) (tr : Tr) (k : Int) (hk : k ≠ 0) (t m : ByteArray) (u : Int) (a : Option Addr) (n c : Nat) (P : List UInt8 → List UInt8 × Nat) (sz : Nat) (Q : List UInt8 → Nat → Prop) (w : World) (h : Mk M base out w) (hN : N ≤ w.heap.size) (ho : ∀ r, r < N → MkOther M r w)
    (hw : NodeWrites M base N tr (nodeU k t m u a n c) P sz) (ht : NodeIn w (· < N) tr (nodeU k t m u a n c)) :
    Calls Tryz.prog 194 #[.int .i64 i, .agg #[.int .i64 k, .string t, .string m, .int .u64 u, .slice a n c]] w (SlotsPost M base [kidQ i P sz Q] w) := by
  have hb0 := (Below.refl w.heap.size w).alloc (Nat.le_refl _) (.cells #[.int .i64 k, .string t, .string m, .int .u64 u, .slice a n c] 25)
  have H := Lib.hid h
  have HO := Lib.hid ho
  have HW := Lib.hid hw
  have HT := Lib.hid ht
  have HB0 := Lib.hid hb0
  have hk0 : (k == 0) = false := beq_eq_false_iff_ne.2 hk
  clear h ho hw ht hb0 hk
  go_enter Tryz.func194, Tryz.ntmps194
  go_wp2_with (go_at_call 190; with_reducible refine (nodeAt_any i k t m u a n c _).mono ?_)
  rintro e w2 ⟨rfl, hbox, hb2⟩
  rw [alloc_size] at hbox
  have HPOST := Lib.hid (kid_slots (i := i) (B := w.heap.size + 1) (Q := Q) H.out hN HO.out HW.out HT.out HB0.out hb2 (by rw [alloc_size]) hbox)
  clear hbox hb2
  go_wp2
  go_ret
  exact HPOST.out

theorem maybeAt_none (M : Nat) (base : Bool) (i : Int) (t m : ByteArray) (u : Int) (a : Option Addr) (n c : Nat) (w : World) :
    Calls Tryz.prog 194 #[.int .i64 i, .agg #[.int .i64 0, .string t, .string m, .int .u64 u, .slice a n c]] w (MaybePost M base [] w) := by
  have HP : Hid (∀ w', Below w.heap.size w w' → MaybePost M base [] w (.returned (.slice none 0 0)) w') := Lib.hid fun w' h => ⟨_, [], fun _ => False, rfl, rfl, .inl ⟨rfl, rfl⟩, (fun k hk => by simp [Value.ownBlock] at hk), h, (fun r hr => hr.elim), fun p hp => by cases hp⟩
  go_enter Tryz.func194, Tryz.ntmps194
  go_wp2
  go_ret
  exact HP.out _ ((Below.refl _ w).alloc (Nat.le_refl _) _)

theorem import_join {M : Nat} {base : Bool} {N sz n9 c9 : Nat} {out : List UInt8} {a9 : Option Addr} {l1 : List (SlotQ × Value)} {D1 : Nat → Prop} {fs1 : List SlotQ} {tr : Tr} {k : Int} {t m : ByteArray} {u : Int} {a : Option Addr} {n c : Nat} {P : List UInt8 → List UInt8 × Nat} {Q : List UInt8 → Nat → Prop} {w2 w3 : World}
    (hm2 : Mk M base out w2) (hN : N ≤ w2.heap.size) (ho : ∀ r, r < N → MkOther M r w2) (hat1 : ListAt w2 (.slice a9 n9 c9) l1) (hl1 : l1.map Prod.fst = fs1) (hfs : fs1.length ≤ 50) (hD1 : ∀ r, D1 r → r < w2.heap.size ∧ MkOther M r w2) (hf1 : ∀ p ∈ l1, FnD M base D1 w2 p.2 p.1.s p.1.sz)
    (hb23 : Below w2.heap.size w2 w3) (hbox : w3.heap[w2.heap.size]? = some (.cells #[.int .i64 k, .string t, .string m, .int .u64 u, .slice a n c] 25 (0, 0))) (hw : NodeWrites M base N tr (nodeU k t m u a n c) P sz) (ht : NodeIn w2 (· < N) tr (nodeU k t m u a n c)) :
    Calls Tryz.prog 192 #[.slice (some ⟨w3.heap.size + 1, 0, none⟩) 2 2] ((w3.alloc (.cells #[.int .i64 2, .int .i64 4, .int .u64 0, .func (.func 216) #[] #[.pointer (some ⟨w2.heap.size, 0, none⟩)]] 267)).alloc (.cells #[.slice a9 n9 c9, .slice (some ⟨w3.heap.size, 0, none⟩) 1 1] 262)) (SlotsPost M base (fs1 ++ [kidQ 2 P sz Q]) w2) := by
  have hM := hm2.lt
  have hb4 := hb23.alloc hb23.size (.cells #[.int .i64 2, .int .i64 4, .int .u64 0, .func (.func 216) #[] #[.pointer (some ⟨w2.heap.size, 0, none⟩)]] 267)
  have hr4 := heap_alloc_new w3 (.cells #[.int .i64 2, .int .i64 4, .int .u64 0, .func (.func 216) #[] #[.pointer (some ⟨w2.heap.size, 0, none⟩)]] 267)
  have hs4 : (w3.alloc (.cells #[.int .i64 2, .int .i64 4, .int .u64 0, .func (.func 216) #[] #[.pointer (some ⟨w2.heap.size, 0, none⟩)]] 267)).heap.size = w3.heap.size + 1 := alloc_size _ _
  have hbl := (Array.getElem?_eq_some_iff.1 hbox).1
  have hx4 := (Below.heap_alloc w3 (.cells #[.int .i64 2, .int .i64 4, .int .u64 0, .func (.func 216) #[] #[.pointer (some ⟨w2.heap.size, 0, none⟩)]] 267) _ hbl).trans hbox
  generalize w3.alloc (.cells #[.int .i64 2, .int .i64 4, .int .u64 0, .func (.func 216) #[] #[.pointer (some ⟨w2.heap.size, 0, none⟩)]] 267) = w4 at *
  have hb5 := hb4.alloc hb4.size (.cells #[.slice a9 n9 c9, .slice (some ⟨w3.heap.size, 0, none⟩) 1 1] 262)
  have hr5 := heap_alloc_new w4 (.cells #[.slice a9 n9 c9, .slice (some ⟨w3.heap.size, 0, none⟩) 1 1] 262)
  have hs5 : (w4.alloc (.cells #[.slice a9 n9 c9, .slice (some ⟨w3.heap.size, 0, none⟩) 1 1] 262)).heap.size = w4.heap.size + 1 := alloc_size _ _
  have hk5 := (Below.heap_alloc w4 (.cells #[.slice a9 n9 c9, .slice (some ⟨w3.heap.size, 0, none⟩) 1 1] 262) _ (Array.getElem?_eq_some_iff.1 hr4).1).trans hr4
  have hx5 := (Below.heap_alloc w4 (.cells #[.slice a9 n9 c9, .slice (some ⟨w3.heap.size, 0, none⟩) 1 1] 262) _ (Array.getElem?_eq_some_iff.1 hx4).1).trans hx4
  rw [hs4] at hr5
  generalize w4.alloc (.cells #[.slice a9 n9 c9, .slice (some ⟨w3.heap.size, 0, none⟩) 1 1] 262) = w5 at *
  have hll : l1.length = fs1.length := by
    have e := congrArg List.length hl1
    rw [List.length_map] at e
    exact e
  have hfd2 : FnD M base (fun r => r < N ∨ r = w2.heap.size) w5 (.func (.func 216) #[] #[.pointer (some ⟨w2.heap.size, 0, none⟩)]) (kidQ 2 P sz Q).s (kidQ 2 P sz Q).sz := kid_FnD hw (Nat.le_trans hN hb5.size) (ht.keep (Keep.of_below hb5 hN)) hx5
  have hfo2 := hfd2 w5 fun r hr => ⟨rfl, by
    rcases hr with hr | rfl
    · exact (ho r hr).below hM hb5
    · exact MkAt.newer hm2 (Nat.le_refl _) (hb5.cell (p := ⟨M, 0, none⟩) hM)⟩
  have hone1 : ∀ u ∈ slotCells l1, u.oneCell' = true := slotCells_one fun p hp => hf1 p hp w2 fun r hr => ⟨rfl, (hD1 r hr).2⟩
  have hj := join_any [(.slice a9 n9 c9, l1), (.slice (some ⟨w3.heap.size, 0, none⟩) 1 1, [(kidQ 2 P sz Q, .func (.func 216) #[] #[.pointer (some ⟨w2.heap.size, 0, none⟩)])])] (w3.heap.size + 1) w5 hr5
    (fun p hp => by
      rcases List.mem_cons.1 hp with rfl | hp
      · exact hat1.below hb5
      · rw [List.mem_singleton] at hp
        rw [hp]
        refine .inr ⟨w3.heap.size, 1, rfl, by omega, fun j u hu => ?_⟩
        rw [show (⟨w3.heap.size, 0, none⟩ : Addr).add j = ⟨w3.heap.size, j, none⟩ by unfold Addr.add; split <;> simp_all, Lib.cell_of_heap hk5]
        simpa [slotCells, kidQ] using hu)
    (fun p hp => by
      rcases List.mem_cons.1 hp with rfl | hp
      · exact hone1
      · rw [List.mem_singleton] at hp
        rw [hp]
        exact slotCells_one (M := M) (base := base) (w := w5) fun q hq => by
          rw [List.mem_singleton] at hq
          rw [hq]
          exact hfo2)
    (by show 2 ≤ 100; decide) (by simp; omega)
  have hfl : [((Value.slice a9 n9 c9), l1), (.slice (some ⟨w3.heap.size, 0, none⟩) 1 1, [(kidQ 2 P sz Q, Value.func (.func 216) #[] #[.pointer (some ⟨w2.heap.size, 0, none⟩)])])].flatMap Prod.snd = l1 ++ [(kidQ 2 P sz Q, .func (.func 216) #[] #[.pointer (some ⟨w2.heap.size, 0, none⟩)])] := by simp
  rw [hfl] at hj
  refine hj.mono ?_
  rintro e w6 ⟨v, rfl, hown, hb6⟩
  have hb26 : Below w2.heap.size w2 w6 := hb5.trans (hb6.mono hb5.size)
  refine ⟨v, _, fun r => D1 r ∨ r < N ∨ r = w2.heap.size, rfl, by rw [List.map_append, hl1]; rfl, own_base hown hb5.size, hb26, fun r hr => ?_, fun p hp => ?_⟩
  · have hr2 : r < w5.heap.size ∧ MkOther M r w6 := by
      rcases hr with hr | hr | rfl
      · exact ⟨Nat.lt_of_lt_of_le (hD1 r hr).1 hb5.size, (hD1 r hr).2.below hM hb26⟩
      · exact ⟨Nat.lt_of_lt_of_le hr (Nat.le_trans hN hb5.size), (ho r hr).below hM hb26⟩
      · exact ⟨(Array.getElem?_eq_some_iff.1 hx5).1, MkAt.newer hm2 (Nat.le_refl _) (hb26.cell (p := ⟨M, 0, none⟩) hM)⟩
    refine ⟨Nat.lt_of_lt_of_le hr2.1 hb6.size, hr2.2, fun e => ?_⟩
    have h1 := (hown.lt r e).1
    omega
  · rcases List.mem_append.1 hp with h1 | h1
    · exact (FnD.below (hf1 p h1) (fun r hr => (hD1 r hr).1) hb26).mono fun r hr => .inl hr
    · rw [List.mem_singleton] at h1
      rw [h1]
      refine (FnD.below hfd2 (fun r hr => ?_) hb6).mono fun r hr => .inr hr
      rcases hr with hr | rfl
      · exact Nat.lt_of_lt_of_le hr (Nat.le_trans hN hb5.size)
      · exact (Array.getElem?_eq_some_iff.1 hx5).1

set_option maxHeartbeats 8000000 in
set_option maxRecDepth 100000 in
theorem importSlots (M : Nat) (base : Bool) (out : List UInt8) (N : Nat) (t m : ByteArray) (u : Int) (k1 k2 : Tr) (a : Option Addr) (c : Nat) (fs1 : List SlotQ) (hfs : fs1.length ≤ 50) (P : List UInt8 → List UInt8 × Nat) (sz : Nat) (Q : List UInt8 → Nat → Prop) (w : World) (h : Mk M base out w) (hN : N ≤ w.heap.size) (ho : ∀ r, r < N → MkOther M r w)
    (hv : NodeIn w (· < N) (.mk 5 t m u [k1, k2]) (nodeU 5 t m u a 2 c))
    (hmb : ∀ W a' l' c', Below w.heap.size w W → NodeIn W (· < N) k1 (nodeU k1.kind k1.text k1.more k1.num a' l' c') → Calls Tryz.prog 194 #[.int .i64 1, nodeU k1.kind k1.text k1.more k1.num a' l' c'] W (MaybePost M base fs1 W))
    (hw : ∀ v, NodeWrites M base N k2 v P sz) :
    Calls Tryz.prog 130 #[.agg #[.int .i64 5, .string t, .string m, .int .u64 u, .slice a 2 c]] w (SlotsPost M base (fs1 ++ [kidQ 2 P sz Q]) w) := by
  obtain ⟨b, o, rfl, hbN, hkid⟩ := hv.kidsAt (by simp)
  have hb0 := (Below.refl w.heap.size w).alloc (Nat.le_refl _) (.cells #[.int .i64 5, .string t, .string m, .int .u64 u, .slice (some ⟨b, o, none⟩) 2 c] 25)
  have hrow0 := heap_alloc_new w (.cells #[.int .i64 5, .string t, .string m, .int .u64 u, .slice (some ⟨b, o, none⟩) 2 c] 25)
  obtain ⟨w0, hw0⟩ : ∃ w0, w0 = w.alloc (.cells #[.int .i64 5, .string t, .string m, .int .u64 u, .slice (some ⟨b, o, none⟩) 2 c] 25) := ⟨_, rfl⟩
  rw [← hw0] at hb0 hrow0
  obtain ⟨a1, c1, hn1, d0, d1, d2, d3, d4⟩ := hkid w0 (Keep.of_below hb0 hN) 0 (by simp)
  obtain ⟨a2, c2, hn2, e0, e1, e2, e3, e4⟩ := hkid w0 (Keep.of_below hb0 hN) 1 (by simp)
  simp only [List.getElem_cons_zero, List.getElem_cons_succ, Nat.zero_mul, Nat.add_zero, Nat.one_mul] at hn1 d0 d1 d2 d3 d4 hn2 e0 e1 e2 e3 e4
  have hMB := hmb w0.drew a1 k1.kids.length c1 hb0.drew (NodeIn.keep (w := w0) (w' := w0.drew) (B := (· < N)) (fun _ _ => rfl) hn1)
  unfold nodeU at hMB
  have HMB := Lib.hid hMB
  have HM0 := Lib.hid (h.below hb0)
  have HO := Lib.hid (fun r hr => (ho r hr).below h.lt hb0)
  have HW := Lib.hid (hw (nodeU k2.kind k2.text k2.more k2.num a2 k2.kids.length c2))
  have HN2 := Lib.hid hn2
  have HD0 : Hid (∀ w2, Below w0.drew.heap.size w0.drew w2 → Below w0.heap.size w0 w2) := Lib.hid fun w2 h => (Below.refl w0.heap.size w0).drew.trans h
  have HD1 : Hid (∀ w2, Below w0.drew.heap.size w0.drew w2 → Below w0.heap.size w0.drew w2) := Lib.hid fun w2 h => h
  have HB0 := Lib.hid hb0
  have hN0 : N ≤ w0.heap.size := Nat.le_trans hN hb0.size
  have hbl : b < w0.heap.size := Nat.lt_of_lt_of_le hbN hN0
  have f4 : w0.cell? ⟨w.heap.size, 4, none⟩ = some (.slice (some ⟨b, o, none⟩) 2 c) := by rw [Lib.cell_of_heap hrow0]; rfl
  have hxl := (Array.getElem?_eq_some_iff.1 hrow0).1
  have HROW := Lib.hid hrow0
  have f0 : w0.cell? ⟨w.heap.size, 0, none⟩ = some (.int .i64 5) := by rw [Lib.cell_of_heap hrow0]; rfl
  clear h ho hw hv hkid hn1 hn2 hb0 hrow0 hMB hmb
  generalize k1.kind = kk at *
  generalize k1.text = tt at *
  generalize k1.more = mm at *
  generalize k1.num = nn at *
  generalize k1.kids.length = ll at *
  generalize k2.kind = kk2 at *
  generalize k2.text = tt2 at *
  generalize k2.more = mm2 at *
  generalize k2.num = nn2 at *
  generalize k2.kids.length = ll2 at *
  have HW0 := Lib.hid hw0
  go_enter Tryz.func130, Tryz.ntmps130
  go_upto_region 10 with fail
  rw [← HW0.out]
  clear hw0 HW0
  have HS : Hid (∀ w', Below w0.heap.size w0.drew w' → w'.cell? ⟨w.heap.size, 4, none⟩ = some (.slice (some ⟨b, o, none⟩) 2 c) ∧ (w'.cell? ⟨b, o, none⟩ = some (.int .i64 kk) ∧ w'.cell? ⟨b, o + 1, none⟩ = some (.string tt) ∧ w'.cell? ⟨b, o + 2, none⟩ = some (.string mm) ∧ w'.cell? ⟨b, o + 3, none⟩ = some (.int .u64 nn) ∧ w'.cell? ⟨b, o + 4, none⟩ = some (.slice a1 ll c1)) ∧
      (w'.cell? ⟨b, o + 5, none⟩ = some (.int .i64 kk2) ∧ w'.cell? ⟨b, o + 5 + 1, none⟩ = some (.string tt2) ∧ w'.cell? ⟨b, o + 5 + 2, none⟩ = some (.string mm2) ∧ w'.cell? ⟨b, o + 5 + 3, none⟩ = some (.int .u64 nn2) ∧ w'.cell? ⟨b, o + 5 + 4, none⟩ = some (.slice a2 ll2 c2))) := Lib.hid fun w' hb => by
    have hc : ∀ r i, r < w0.heap.size → w'.cell? ⟨r, i, none⟩ = w0.cell? ⟨r, i, none⟩ := fun r i hr => hb.cell (p := ⟨r, i, none⟩) hr
    refine ⟨(hc _ _ hxl).trans f4, ⟨(hc _ _ hbl).trans d0, (hc _ _ hbl).trans d1, (hc _ _ hbl).trans d2, (hc _ _ hbl).trans d3, (hc _ _ hbl).trans d4⟩, (hc _ _ hbl).trans e0, (hc _ _ hbl).trans e1, (hc _ _ hbl).trans e2, (hc _ _ hbl).trans e3, (hc _ _ hbl).trans e4⟩
  go_region_held3 (fun w' => w'.cell? ⟨w.heap.size, 4, none⟩ = some (.slice (some ⟨b, o, none⟩) 2 c) ∧ (w'.cell? ⟨b, o, none⟩ = some (.int .i64 kk) ∧ w'.cell? ⟨b, o + 1, none⟩ = some (.string tt) ∧ w'.cell? ⟨b, o + 2, none⟩ = some (.string mm) ∧ w'.cell? ⟨b, o + 3, none⟩ = some (.int .u64 nn) ∧ w'.cell? ⟨b, o + 4, none⟩ = some (.slice a1 ll c1)) ∧
      (w'.cell? ⟨b, o + 5, none⟩ = some (.int .i64 kk2) ∧ w'.cell? ⟨b, o + 5 + 1, none⟩ = some (.string tt2) ∧ w'.cell? ⟨b, o + 5 + 2, none⟩ = some (.string mm2) ∧ w'.cell? ⟨b, o + 5 + 3, none⟩ = some (.int .u64 nn2) ∧ w'.cell? ⟨b, o + 5 + 4, none⟩ = some (.slice a2 ll2 c2))) (first | exact HS.out _ (Below.refl _ _) | exact HS.out _ hb2d | exact HS.out _ hb3 | exact HS.out _ hb6 | go_keep) (first
    | (go_at_call 194; ((with_reducible refine HMB.out.mono ?_)); rintro e w2 ⟨v1, l1, D1, rfl, hl1, hat1, hv1, hb2, hD1, hf1⟩; obtain ⟨a9, n9, c9, rfl⟩ := hat1.slice; have hb20 := HD0.out _ hb2; have hb2d := HD1.out _ hb2)
    | (go_at_call 190; ((with_reducible refine (nodeAt_any 2 kk2 tt2 mm2 nn2 a2 ll2 c2 _).mono ?_)); rintro e w3 ⟨rfl, hbox, hb23⟩; have hb3 : Below w0.heap.size w0.drew w3 := hb2d.trans (hb23.mono hb20.size))
    | (go_at_call 192; ((with_reducible refine (import_join (Q := Q) (HM0.out.below hb20) (Nat.le_trans hN0 hb20.size) (fun r hr => (HO.out r hr).below HM0.out.lt hb20) hat1 hl1 hfs hD1 hf1 hb23 hbox HW.out (HN2.out.keep (Keep.of_below hb20 hN0))).mono ?_)); rintro e w6 ⟨v, l, D, rfl, hp⟩; have hb6 : Below w0.heap.size w0.drew w6 := hb2d.trans ((hp.2.2.1).mono hb20.size)))
  all_goals
    have HPP := Lib.hid (SlotsPost.from (HB0.out.trans (hb20.mono HB0.out.size)) ⟨v, l, D, rfl, hp⟩)
    go_wp2
    go_ret
    exact HPP.out

def choices : List (Int × Int) := [(30, 1), (25, 2), (26, 3), (27, 4), (20, 5), (21, 6), (35, 7), (16, 8), (24, 9), (41, 10), (39, 11), (38, 12), (33, 13), (36, 14), (23, 15), (17, 16), (18, 17), (28, 18), (19, 19), (43, 20), (42, 21), (34, 22), (22, 23), (37, 24), (45, 1), (46, 2), (47, 3), (48, 4), (49, 5), (51, 6), (7, 1), (10, 2), (11, 3), (8, 4), (9, 5), (12, 6), (13, 7), (14, 8), (15, 9)]
def choiceOf (k : Int) : Int := ((choices.find? (fun p => p.1 == k)).map (·.2)).getD 0

theorem lookI_u64 (l : List (Int × Int)) (k : Int) : lookI (l.map fun p => (p.1, Value.int .u64 p.2)) k = ((l.find? (fun p => p.1 == k)).map (·.2)).map (Value.int .u64 ·) := by
  induction l with
  | nil => rfl
  | cons p l ih =>
    unfold lookI at ih ⊢
    simp only [List.map_cons, List.find?_cons]
    cases h : p.1 == k with
    | true => simp [h]
    | false => simpa [h] using ih

theorem choiceOf_bounds (k : Int) : 0 ≤ choiceOf k ∧ choiceOf k ≤ 24 := by
  unfold choiceOf
  cases h : choices.find? (fun p => p.1 == k) with
  | none => exact ⟨by decide, by decide⟩
  | some p =>
    have hm := List.mem_of_find?_eq_some h
    have : ∀ p ∈ choices, 0 ≤ p.2 ∧ p.2 ≤ 24 := by decide
    exact this p hm

theorem zero_u64 (w : World) : (zeroValue 22).run Tryz.prog w = .ok (.int .u64 0) w := by kernel_rfl

set_option maxHeartbeats 2000000 in
set_option maxRecDepth 100000 in
theorem choice_any (k : Int) (t m : ByteArray) (u : Int) (a : Option Addr) (n c : Nat) (w : World) :
    Calls Tryz.prog 217 #[.agg #[.int .i64 k, .string t, .string m, .int .u64 u, .slice a n c]] w fun e w' => e = .returned (.int .u64 (choiceOf k)) ∧ Below w.heap.size w w' := by
  have hmm := @run_makeMap Tryz.prog
  have hb0 := (Below.refl w.heap.size w).alloc (Nat.le_refl _) (.cells #[.int .i64 k, .string t, .string m, .int .u64 u, .slice a n c] 25)
  have hr0 := heap_alloc_new w (.cells #[.int .i64 k, .string t, .string m, .int .u64 u, .slice a n c] 25)
  have hs1 : (w.alloc (.cells #[.int .i64 k, .string t, .string m, .int .u64 u, .slice a n c] 25)).heap.size = w.heap.size + 1 := alloc_size _ _
  have hS0 := MapJ.made (w.alloc (.cells #[.int .i64 k, .string t, .string m, .int .u64 u, .slice a n c] 25))
  rw [hs1] at hS0
  have hS := Lib.hid hS0
  clear hS0
  have HB0 := Lib.hid hb0
  have HR0 := Lib.hid hr0
  clear hb0 hr0
  go_enter Tryz.func217, Tryz.ntmps217
  iterate 39 (go_wp2_with fail; ((with_reducible refine upon_insJ hS.out Tryz.underlying432 Tryz.underlying3 ?_ ?_)); rfl; clear hS; intro w2 hS0; have hS := Lib.hid hS0; clear hS0)
  change Hid (MapJ (w.alloc (.cells #[.int .i64 k, .string t, .string m, .int .u64 u, .slice a n c] 25)) w2 (w.heap.size + 1) (choices.map fun p => (p.1, Value.int .u64 p.2))) at hS
  have hr2 := (hS.out.1.block w.heap.size (Array.getElem?_eq_some_iff.1 HR0.out).1).trans HR0.out
  have c0 : w2.cell? ⟨w.heap.size, 0, none⟩ = some (.int .i64 k) := by rw [Lib.cell_of_heap hr2]; rfl
  have hrun := run_lookI Tryz.underlying432 Tryz.underlying3 hS.out.2.2 _ (zero_u64 _) k
  have hval : (lookI (choices.map fun p => (p.1, Value.int .u64 p.2)) k).getD (.int .u64 0) = .int .u64 (choiceOf k) := by
    rw [lookI_u64]
    unfold choiceOf
    cases ((choices.find? (fun p => p.1 == k))) <;> rfl
  rw [hval] at hrun
  have HB2 := Lib.hid (HB0.out.trans (hS.out.1.mono HB0.out.size))
  clear hval hr2
  go_wp2
  clear hS hrun
  go_ret
  exact ⟨rfl, HB2.out⟩

theorem either_slots {M : Nat} {base : Bool} {N i sz ch : Nat} {out : List UInt8} {tr : Tr} {k : Int} {t m : ByteArray} {u : Int} {a : Option Addr} {n c : Nat} {P : List UInt8 → List UInt8 × Nat} {Q : List UInt8 → Nat → Prop} {w w1 w2 : World}
    (h : Mk M base out w) (hN : N ≤ w.heap.size) (ho : ∀ r, r < N → MkOther M r w) (hw : NodeWrites M base N tr (nodeU k t m u a n c) P sz) (ht : NodeIn w (· < N) tr (nodeU k t m u a n c)) (hb1 : Below w.heap.size w w1) (hb2 : Below w1.heap.size w1 w2)
    (hb : w2.heap[w1.heap.size]? = some (.cells #[.int .i64 k, .string t, .string m, .int .u64 u, .slice a n c] 25 (0, 0))) :
    SlotsPost M base [numQ i 1 ch, kidQ (i + 1) P sz Q] w (.returned (.slice (some ⟨w2.heap.size, 0, none⟩) 2 2)) (w2.alloc (.cells #[.int .i64 i, .int .i64 1, .int .u64 ch, .nilFunc, .int .i64 (i + 1 : Nat), .int .i64 4, .int .u64 0, .func (.func 216) #[] #[.pointer (some ⟨w1.heap.size, 0, none⟩)]] 267)) := by
  have hM := h.lt
  obtain ⟨o, hO⟩ : ∃ o, o = Obj.cells #[.int .i64 i, .int .i64 1, .int .u64 ch, .nilFunc, .int .i64 (i + 1 : Nat), .int .i64 4, .int .u64 0, .func (.func 216) #[] #[.pointer (some ⟨w1.heap.size, 0, none⟩)]] 267 (0, 0) := ⟨_, rfl⟩
  have hb12 : Below w.heap.size w w2 := hb1.trans (hb2.mono hb1.size)
  rw [← hO]
  have hb3 := hb12.alloc hb12.size o
  have hrow := heap_alloc_new w2 o
  have hbl := (Array.getElem?_eq_some_iff.1 hb).1
  have hbox := (Below.heap_alloc w2 o _ hbl).trans hb
  have hsz3 : (w2.alloc o).heap.size = w2.heap.size + 1 := alloc_size _ _
  have hb23 := hb2.alloc hb2.size o
  subst hO
  refine ⟨_, [(numQ i 1 ch, .nilFunc), (kidQ (i + 1) P sz Q, .func (.func 216) #[] #[.pointer (some ⟨w1.heap.size, 0, none⟩)])], fun r => r < N ∨ r = w1.heap.size, rfl, rfl, ⟨rfl, .inr ⟨w2.heap.size, 2, _, rfl, hb12.size, hrow, Nat.le_refl _, by decide, rfl, rfl⟩⟩, hb3, fun r hr => ?_, fun p hp => ?_⟩
  · rcases hr with hr | rfl
    · refine ⟨by have := hb12.size; omega, (ho r hr).below hM hb3, ?_⟩
      show some w2.heap.size ≠ some r
      intro e
      have e2 := Option.some.inj e
      have := hb12.size
      omega
    · refine ⟨by omega, MkAt.newer (h.below hb1) (Nat.le_refl _) ?_, ?_⟩
      · exact (hb23.cell (p := ⟨M, 0, none⟩) (Nat.lt_of_lt_of_le hM hb1.size))
      · show some w2.heap.size ≠ some w1.heap.size
        intro e
        have e2 := Option.some.inj e
        omega
  · rcases List.mem_cons.1 hp with rfl | hp
    · exact fun W _ => num_fnOk i 1 ch
    · rw [List.mem_singleton] at hp
      rw [hp]
      exact kid_FnD hw (Nat.le_trans hN hb3.size) (ht.keep (Keep.of_below hb3 hN)) hbox

set_option maxHeartbeats 2000000 in
set_option maxRecDepth 100000 in
theorem either_none (M : Nat) (base : Bool) (i : Int) (t m : ByteArray) (u : Int) (a : Option Addr) (n c : Nat) (w : World) :
    Calls Tryz.prog 191 #[.int .i64 i, .agg #[.int .i64 0, .string t, .string m, .int .u64 u, .slice a n c]] w (MaybePost M base [] w) := by
  have HP : Hid (∀ w', Below w.heap.size w w' → MaybePost M base [] w (.returned (.slice none 0 0)) w') := Lib.hid fun w' h => ⟨_, [], fun _ => False, rfl, rfl, .inl ⟨rfl, rfl⟩, (fun k hk => by simp [Value.ownBlock] at hk), h, (fun r hr => hr.elim), fun p hp => by cases hp⟩
  go_enter Tryz.func191, Tryz.ntmps191
  go_wp2
  go_ret
  exact HP.out _ ((Below.refl _ w).alloc (Nat.le_refl _) _)

set_option maxHeartbeats 8000000 in
set_option maxRecDepth 100000 in
theorem either_some (M : Nat) (base : Bool) (out : List UInt8) (N i : Nat) (hi : i < 1000) (tr : Tr) (k : Int) (hk : k ≠ 0) (t m : ByteArray) (u : Int) (a : Option Addr) (n c : Nat) (P : List UInt8 → List UInt8 × Nat) (sz : Nat) (Q : List UInt8 → Nat → Prop) (w : World) (h : Mk M base out w) (hN : N ≤ w.heap.size) (ho : ∀ r, r < N → MkOther M r w)
    (hw : NodeWrites M base N tr (nodeU k t m u a n c) P sz) (ht : NodeIn w (· < N) tr (nodeU k t m u a n c)) :
    Calls Tryz.prog 191 #[.int .i64 i, .agg #[.int .i64 k, .string t, .string m, .int .u64 u, .slice a n c]] w (SlotsPost M base [numQ i 1 (choiceOf k).toNat, kidQ (i + 1) P sz Q] w) := by
  have hb0 := (Below.refl w.heap.size w).alloc (Nat.le_refl _) (.cells #[.int .i64 k, .string t, .string m, .int .u64 u, .slice a n c] 25)
  have hr0 := heap_alloc_new w (.cells #[.int .i64 k, .string t, .string m, .int .u64 u, .slice a n c] 25)
  obtain ⟨w0, hw0⟩ : ∃ w0, w0 = w.alloc (.cells #[.int .i64 k, .string t, .string m, .int .u64 u, .slice a n c] 25) := ⟨_, rfl⟩
  rw [← hw0] at hb0 hr0
  have f0 : w0.cell? ⟨w.heap.size, 0, none⟩ = some (.int .i64 k) := by rw [Lib.cell_of_heap hr0]; rfl
  obtain ⟨ch, hch⟩ : ∃ ch : Nat, choiceOf k = ch := ⟨_, (Int.toNat_of_nonneg (choiceOf_bounds k).1).symm⟩
  have hchn : (choiceOf k).toNat = ch := by rw [hch]; rfl
  rw [hchn]
  have HPOST : Hid (∀ w1 w2, Below w0.heap.size w0.drew w1 → Below w1.heap.size w1 w2 → w2.heap[w1.heap.size]? = some (.cells #[.int .i64 k, .string t, .string m, .int .u64 u, .slice a n c] 25 (0, 0)) →
      SlotsPost M base [numQ i 1 ch, kidQ (i + 1) P sz Q] w (.returned (.slice (some ⟨w2.heap.size, 0, none⟩) 2 2)) (w2.alloc (.cells #[.int .i64 i, .int .i64 1, .int .u64 ch, .nilFunc, .int .i64 ((i : Int) + 1), .int .i64 4, .int .u64 0, .func (.func 216) #[] #[.pointer (some ⟨w1.heap.size, 0, none⟩)]] 267))) := Lib.hid fun w1 w2 h1 h2 h3 => either_slots h hN ho hw ht (hb0.drew.trans (h1.mono hb0.size)) h2 h3
  have HS : Hid (∀ w', Below w0.heap.size w0.drew w' → w'.cell? ⟨w.heap.size, 0, none⟩ = some (.int .i64 k) ∧ w'.cell? ⟨w.heap.size, 1, none⟩ = some (.string t) ∧ w'.cell? ⟨w.heap.size, 2, none⟩ = some (.string m) ∧ w'.cell? ⟨w.heap.size, 3, none⟩ = some (.int .u64 u) ∧ w'.cell? ⟨w.heap.size, 4, none⟩ = some (.slice a n c)) := Lib.hid fun w' hb => by
    have hr := (hb.block w.heap.size (Array.getElem?_eq_some_iff.1 hr0).1).trans hr0
    exact ⟨by rw [Lib.cell_of_heap hr]; rfl, by rw [Lib.cell_of_heap hr]; rfl, by rw [Lib.cell_of_heap hr]; rfl, by rw [Lib.cell_of_heap hr]; rfl, by rw [Lib.cell_of_heap hr]; rfl⟩
  have hk0 : (k == 0) = false := beq_eq_false_iff_ne.2 hk
  have hwr : IntKind.i64.wrap ((i : Int) + 1) = (i : Int) + 1 := by rw [IntKind.wrap_i64]; omega
  have HCH : Hid (∀ W, Calls Tryz.prog 217 #[.agg #[.int .i64 k, .string t, .string m, .int .u64 u, .slice a n c]] W fun e w' => e = .returned (.int .u64 ch) ∧ Below W.heap.size W w') := Lib.hid fun W => hch ▸ choice_any k t m u a n c W
  have HW0 := Lib.hid hw0
  clear h hN ho hw ht hb0 hr0 hk hch hchn
  go_enter Tryz.func191, Tryz.ntmps191
  go_upto_region 3 with fail
  rw [← HW0.out]
  clear hw0 HW0
  go_region_held3 (fun w' => w'.cell? ⟨w.heap.size, 0, none⟩ = some (.int .i64 k) ∧ w'.cell? ⟨w.heap.size, 1, none⟩ = some (.string t) ∧ w'.cell? ⟨w.heap.size, 2, none⟩ = some (.string m) ∧ w'.cell? ⟨w.heap.size, 3, none⟩ = some (.int .u64 u) ∧ w'.cell? ⟨w.heap.size, 4, none⟩ = some (.slice a n c)) (first | with_reducible exact HS.out _ (Below.refl _ _) | with_reducible exact HS.out _ hb1d | with_reducible exact HS.out _ hb2d | with_reducible exact HS.out _ hb3d | go_keep) (first
    | (go_at_call 217; ((with_reducible refine (HCH.out _).mono ?_)); rintro e w1 ⟨rfl, hb1⟩; have hb1d : Below w0.heap.size w0.drew w1 := hb1)
    | (go_at_call 132; ((with_reducible refine (number_any _ _ _ _).mono ?_)); rintro e w2 ⟨rfl, hb2⟩; have hb2d : Below w0.heap.size w0.drew w2 := hb1d.trans (hb2.mono hb1d.size))
    | (go_at_call 190; ((with_reducible refine (nodeAt_any _ k t m u a n c _).mono ?_)); rintro e w3 ⟨rfl, hbox, hb3⟩; have hb3d : Below w0.heap.size w0.drew w3 := hb2d.trans (hb3.mono hb2d.size)))
  all_goals
    have HPP := Lib.hid (HPOST.out _ _ hb2d hb3 hbox)
    go_wp2
    go_ret
    exact HPP.out

theorem two_all' {α : Type} {x y : α} {p : α → Prop} (h : p x) (h2 : p y) : ∀ f ∈ [x, y], p f := by
  intro f hf
  rcases List.mem_cons.1 hf with rfl | hf
  · exact h
  · rw [List.mem_singleton] at hf
    rw [hf]
    exact h2

theorem join_two {M : Nat} {base : Bool} {out : List UInt8} {a1 a2 : Option Addr} {n1 c1 n2 c2 : Nat} {l1 l2 : List (SlotQ × Value)} {D1 D2 : Nat → Prop} {fs1 fs2 : List SlotQ} {w2 w3 : World}
    (hm2 : Mk M base out w2) (hat1 : ListAt w2 (.slice a1 n1 c1) l1) (hl1 : l1.map Prod.fst = fs1) (hD1 : ∀ r, D1 r → r < w2.heap.size ∧ MkOther M r w2) (hf1 : ∀ p ∈ l1, FnD M base D1 w2 p.2 p.1.s p.1.sz)
    (hb23 : Below w2.heap.size w2 w3) (hat2 : ListAt w3 (.slice a2 n2 c2) l2) (hl2 : l2.map Prod.fst = fs2) (hD2 : ∀ r, D2 r → r < w3.heap.size ∧ MkOther M r w3) (hf2 : ∀ p ∈ l2, FnD M base D2 w3 p.2 p.1.s p.1.sz) (hfs : fs1.length + fs2.length ≤ 50) :
    Calls Tryz.prog 192 #[.slice (some ⟨w3.heap.size, 0, none⟩) 2 2] (w3.alloc (.cells #[.slice a1 n1 c1, .slice a2 n2 c2] 262)) (SlotsPost M base (fs1 ++ fs2) w2) := by
  have hM := hm2.lt
  have hM3 := (hm2.below hb23).lt
  have hb35 := (Below.refl w3.heap.size w3).alloc (Nat.le_refl _) (.cells #[.slice a1 n1 c1, .slice a2 n2 c2] 262)
  have hb5 := hb23.alloc hb23.size (.cells #[.slice a1 n1 c1, .slice a2 n2 c2] 262)
  have hr5 := heap_alloc_new w3 (.cells #[.slice a1 n1 c1, .slice a2 n2 c2] 262)
  have hs5 : (w3.alloc (.cells #[.slice a1 n1 c1, .slice a2 n2 c2] 262)).heap.size = w3.heap.size + 1 := alloc_size _ _
  generalize w3.alloc (.cells #[.slice a1 n1 c1, .slice a2 n2 c2] 262) = w5 at *
  have hll1 : l1.length = fs1.length := by
    have e := congrArg List.length hl1
    rw [List.length_map] at e
    exact e
  have hll2 : l2.length = fs2.length := by
    have e := congrArg List.length hl2
    rw [List.length_map] at e
    exact e
  have hone1 : ∀ u ∈ slotCells l1, u.oneCell' = true := slotCells_one fun p hp => hf1 p hp w2 fun r hr => ⟨rfl, (hD1 r hr).2⟩
  have hone2 : ∀ u ∈ slotCells l2, u.oneCell' = true := slotCells_one fun p hp => hf2 p hp w3 fun r hr => ⟨rfl, (hD2 r hr).2⟩
  have hj := join_any [(.slice a1 n1 c1, l1), (.slice a2 n2 c2, l2)] w3.heap.size w5 hr5
    (two_all' (hat1.below hb5) (hat2.below hb35)) (two_all' hone1 hone2) (by show 2 ≤ 100; decide) (by simp; omega)
  have hfl : [((Value.slice a1 n1 c1), l1), (.slice a2 n2 c2, l2)].flatMap Prod.snd = l1 ++ l2 := by simp
  rw [hfl] at hj
  refine hj.mono ?_
  rintro e w6 ⟨v, rfl, hown, hb6⟩
  have hb26 : Below w2.heap.size w2 w6 := hb5.trans (hb6.mono hb5.size)
  have hb36 : Below w3.heap.size w3 w6 := hb35.trans (hb6.mono hb35.size)
  refine ⟨v, _, fun r => D1 r ∨ D2 r, rfl, by rw [List.map_append, hl1, hl2], own_base hown hb5.size, hb26, fun r hr => ?_, fun p hp => ?_⟩
  · have hr2 : r < w5.heap.size ∧ MkOther M r w6 := by
      rcases hr with hr | hr
      · exact ⟨Nat.lt_of_lt_of_le (hD1 r hr).1 hb5.size, (hD1 r hr).2.below hM hb26⟩
      · exact ⟨Nat.lt_of_lt_of_le (hD2 r hr).1 hb35.size, (hD2 r hr).2.below hM3 hb36⟩
    refine ⟨Nat.lt_of_lt_of_le hr2.1 hb6.size, hr2.2, fun e => ?_⟩
    have h1 := (hown.lt r e).1
    omega
  · rcases List.mem_append.1 hp with h1 | h1
    · exact (FnD.below (hf1 p h1) (fun r hr => (hD1 r hr).1) hb26).mono fun r hr => .inl hr
    · exact (FnD.below (hf2 p h1) (fun r hr => (hD2 r hr).1) hb36).mono fun r hr => .inr hr

theorem three_all' {α : Type} {x y z : α} {p : α → Prop} (h : p x) (h2 : p y) (h3 : p z) : ∀ f ∈ [x, y, z], p f := by
  intro f hf
  rcases List.mem_cons.1 hf with rfl | hf
  · exact h
  · exact two_all' h2 h3 f hf

theorem join_three {M : Nat} {base : Bool} {out : List UInt8} {a1 a2 a4 : Option Addr} {n1 c1 n2 c2 n4 c4 : Nat} {l1 l2 l4 : List (SlotQ × Value)} {D1 D2 D4 : Nat → Prop} {fs1 fs2 fs4 : List SlotQ} {w2 w3 : World}
    (hm2 : Mk M base out w2) (hat1 : ListAt w2 (.slice a1 n1 c1) l1) (hl1 : l1.map Prod.fst = fs1) (hD1 : ∀ r, D1 r → r < w2.heap.size ∧ MkOther M r w2) (hf1 : ∀ p ∈ l1, FnD M base D1 w2 p.2 p.1.s p.1.sz)
    (hb23 : Below w2.heap.size w2 w3) (hat2 : ListAt w3 (.slice a2 n2 c2) l2) (hl2 : l2.map Prod.fst = fs2) (hD2 : ∀ r, D2 r → r < w3.heap.size ∧ MkOther M r w3) (hf2 : ∀ p ∈ l2, FnD M base D2 w3 p.2 p.1.s p.1.sz) (hat4 : ListAt w3 (.slice a4 n4 c4) l4) (hl4 : l4.map Prod.fst = fs4) (hD4 : ∀ r, D4 r → r < w3.heap.size ∧ MkOther M r w3) (hf4 : ∀ p ∈ l4, FnD M base D4 w3 p.2 p.1.s p.1.sz) (hfs : fs1.length + fs2.length + fs4.length ≤ 50) :
    Calls Tryz.prog 192 #[.slice (some ⟨w3.heap.size, 0, none⟩) 3 3] (w3.alloc (.cells #[.slice a1 n1 c1, .slice a2 n2 c2, .slice a4 n4 c4] 262)) (SlotsPost M base (fs1 ++ fs2 ++ fs4) w2) := by
  have hM := hm2.lt
  have hM3 := (hm2.below hb23).lt
  have hb35 := (Below.refl w3.heap.size w3).alloc (Nat.le_refl _) (.cells #[.slice a1 n1 c1, .slice a2 n2 c2, .slice a4 n4 c4] 262)
  have hb5 := hb23.alloc hb23.size (.cells #[.slice a1 n1 c1, .slice a2 n2 c2, .slice a4 n4 c4] 262)
  have hr5 := heap_alloc_new w3 (.cells #[.slice a1 n1 c1, .slice a2 n2 c2, .slice a4 n4 c4] 262)
  have hs5 : (w3.alloc (.cells #[.slice a1 n1 c1, .slice a2 n2 c2, .slice a4 n4 c4] 262)).heap.size = w3.heap.size + 1 := alloc_size _ _
  generalize w3.alloc (.cells #[.slice a1 n1 c1, .slice a2 n2 c2, .slice a4 n4 c4] 262) = w5 at *
  have hll1 : l1.length = fs1.length := by
    have e := congrArg List.length hl1
    rw [List.length_map] at e
    exact e
  have hll2 : l2.length = fs2.length := by
    have e := congrArg List.length hl2
    rw [List.length_map] at e
    exact e
  have hll4 : l4.length = fs4.length := by
    have e := congrArg List.length hl4
    rw [List.length_map] at e
    exact e
  have hone4 : ∀ u ∈ slotCells l4, u.oneCell' = true := slotCells_one fun p hp => hf4 p hp w3 fun r hr => ⟨rfl, (hD4 r hr).2⟩
  have hone1 : ∀ u ∈ slotCells l1, u.oneCell' = true := slotCells_one fun p hp => hf1 p hp w2 fun r hr => ⟨rfl, (hD1 r hr).2⟩
  have hone2 : ∀ u ∈ slotCells l2, u.oneCell' = true := slotCells_one fun p hp => hf2 p hp w3 fun r hr => ⟨rfl, (hD2 r hr).2⟩
  have hj := join_any [(.slice a1 n1 c1, l1), (.slice a2 n2 c2, l2), (.slice a4 n4 c4, l4)] w3.heap.size w5 hr5
    (three_all' (hat1.below hb5) (hat2.below hb35) (hat4.below hb35)) (three_all' hone1 hone2 hone4) (by show 3 ≤ 100; decide) (by simp; omega)
  have hfl : [((Value.slice a1 n1 c1), l1), (.slice a2 n2 c2, l2), (.slice a4 n4 c4, l4)].flatMap Prod.snd = l1 ++ l2 ++ l4 := by simp
  rw [hfl] at hj
  refine hj.mono ?_
  rintro e w6 ⟨v, rfl, hown, hb6⟩
  have hb26 : Below w2.heap.size w2 w6 := hb5.trans (hb6.mono hb5.size)
  have hb36 : Below w3.heap.size w3 w6 := hb35.trans (hb6.mono hb35.size)
  refine ⟨v, _, fun r => D1 r ∨ D2 r ∨ D4 r, rfl, by rw [List.map_append, List.map_append, hl1, hl2, hl4], own_base hown hb5.size, hb26, fun r hr => ?_, fun p hp => ?_⟩
  · have hr2 : r < w5.heap.size ∧ MkOther M r w6 := by
      rcases hr with hr | hr | hr
      · exact ⟨Nat.lt_of_lt_of_le (hD1 r hr).1 hb5.size, (hD1 r hr).2.below hM hb26⟩
      · exact ⟨Nat.lt_of_lt_of_le (hD2 r hr).1 hb35.size, (hD2 r hr).2.below hM3 hb36⟩
      · exact ⟨Nat.lt_of_lt_of_le (hD4 r hr).1 hb35.size, (hD4 r hr).2.below hM3 hb36⟩
    refine ⟨Nat.lt_of_lt_of_le hr2.1 hb6.size, hr2.2, fun e => ?_⟩
    have h1 := (hown.lt r e).1
    omega
  · rcases List.mem_append.1 hp with h1 | h1
    rcases List.mem_append.1 h1 with h1 | h1
    · exact (FnD.below (hf1 p h1) (fun r hr => (hD1 r hr).1) hb26).mono fun r hr => .inl hr
    · exact (FnD.below (hf2 p h1) (fun r hr => (hD2 r hr).1) hb36).mono fun r hr => .inr (.inl hr)
    · exact (FnD.below (hf4 p h1) (fun r hr => (hD4 r hr).1) hb36).mono fun r hr => .inr (.inr hr)

end Go.Proofs.YtgceklahjdbipaaGreatDoor
