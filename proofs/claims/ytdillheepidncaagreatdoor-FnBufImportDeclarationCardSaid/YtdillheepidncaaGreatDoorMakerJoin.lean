/- The maker's slots out of several lists. -/
import Derived.Test.YtdillheepidncaaGreatDoorMakerAll
namespace Go.Proofs.YtdillheepidncaaGreatDoor
open Go Go.RowKit
set_option linter.unusedVariables false
set_option linter.unusedSimpArgs false

/-- Slots in memory, or none. -/
def ListAt (w : World) (v : Value) (l : List (SlotQ × Value)) : Prop :=
  (v = .slice none 0 0 ∧ l = []) ∨ ∃ g c : Nat, v = .slice (some ⟨g, 0, none⟩) l.length c ∧ g < w.heap.size ∧ ∀ j u, (slotCells l)[j]? = some u → w.cell? ((⟨g, 0, none⟩ : Addr).add j) = some u

theorem ListAt.below {w w' : World} {v : Value} {l : List (SlotQ × Value)} (h : ListAt w v l) (hb : Below w.heap.size w w') : ListAt w' v l := by
  rcases h with h | ⟨g, c, h1, h2, h3⟩
  · exact .inl h
  · refine .inr ⟨g, c, h1, Nat.lt_of_lt_of_le h2 hb.size, fun j u hu => ?_⟩
    have h4 := h3 j u hu
    rw [show (⟨g, 0, none⟩ : Addr).add j = ⟨g, j, none⟩ by unfold Addr.add; split <;> simp_all] at h4 ⊢
    exact (hb.cell (p := ⟨g, j, none⟩) h2).trans h4

theorem own_cap {w : World} {base : Nat} {e : TypeId} {size n c k : Nat} {a : Option Addr} {xs : List Value} (h : w.ownsRow base e size (.slice a k c) n xs) (hk : k = n := by rfl) : k ≤ c := by
  rcases h.2 with ⟨h1, h0⟩ | ⟨g, cap, cur, h1, _, _, hnc, _⟩
  · simp only [Value.slice.injEq] at h1
    omega
  · simp only [Value.slice.injEq] at h1
    omega

def JoinPost (l : List (SlotQ × Value)) (w : World) (e : Ending) (w' : World) : Prop :=
  ∃ v, e = .returned v ∧ w'.ownsRow w.heap.size 253 4 v l.length (slotCells l) ∧ Below w.heap.size w w'

set_option maxHeartbeats 4000000 in
set_option maxRecDepth 100000 in
theorem join_any (ls : List (Value × List (SlotQ × Value))) (B : Nat) (w : World) (hB : w.heap[B]? = some (.cells (ls.map Prod.fst).toArray 248 (0, 0))) (hls : ∀ p ∈ ls, ListAt w p.1 p.2) (hone : ∀ p ∈ ls, ∀ u ∈ slotCells p.2, u.oneCell' = true) (hn : ls.length ≤ 100) (hlen : (ls.flatMap Prod.snd).length ≤ 100) :
    Calls Tryz.prog 145 #[.slice (some ⟨B, 0, none⟩) ls.length ls.length] w (JoinPost (ls.flatMap Prod.snd) w) := by
  obtain ⟨i0, hi0, hz0, hz1, hz2⟩ := info_parts slot_info
  have hBl := (Array.getElem?_eq_some_iff.1 hB).1
  have HBB := Lib.hid hB
  have HLS := Lib.hid hls
  have HON := Lib.hid hone
  have HLN := Lib.hid hlen
  have HP : Hid (∀ v w', w'.ownsRow w.heap.size 253 4 v (ls.flatMap Prod.snd).length (slotCells (ls.flatMap Prod.snd)) → Below w.heap.size w w' → JoinPost (ls.flatMap Prod.snd) w (.returned v) w') := Lib.hid fun v w' h1 h2 => ⟨v, rfl, h1, h2⟩
  clear hB hls hone hlen
  go_enter Tryz.func145, Tryz.ntmps145
  go_wp2
  go_loopw [3, 8] (fun o i wr => ∃ j : Nat, j ≤ ls.length ∧ i = .int .i64 j ∧ Hid (wr.ownsRow w.heap.size 253 4 o ((ls.take j).flatMap Prod.snd).length (slotCells ((ls.take j).flatMap Prod.snd))) ∧ Hid (Below w.heap.size w wr)) (fun _ i _ => ls.length - (intOf i).toNat)
  case atStart => exact ⟨0, Nat.zero_le _, rfl, Lib.hid (World.ownsRow_nil _ _ _ _), Lib.hid (Below.refl _ _)⟩
  case round =>
    obtain ⟨j, hj, rfl, HO, HB⟩ := hrel
    obtain ⟨a, c, rfl⟩ := slice_of_own HO.out
    by_cases hlt : j < ls.length
    · have htk : (ls.take (j + 1)).flatMap Prod.snd = (ls.take j).flatMap Prod.snd ++ ls[j].2 := by
        rw [List.take_succ_eq_append_getElem hlt, List.flatMap_append]
        simp
      have hle : ((ls.take (j + 1)).flatMap Prod.snd).length ≤ 100 := by
        have h1 := HLN.out
        rw [← List.take_append_drop (j + 1) ls, List.flatMap_append, List.length_append] at h1
        omega
      have hc : wr.cell? ⟨B, j, none⟩ = some ls[j].1 := by
        rw [HB.out.cell (p := ⟨B, j, none⟩) hBl, Lib.cell_of_heap HBB.out]
        simp [hlt]
      have hla := (HLS.out ls[j] (List.getElem_mem hlt)).below HB.out
      have hoj := HON.out ls[j] (List.getElem_mem hlt)
      rw [htk, List.length_append] at hle
      have HTK := Lib.hid htk
      have HOJ := Lib.hid hoj
      clear htk hoj
      generalize (ls.take j).flatMap Prod.snd = done at *
      generalize ls[j] = p at *
      obtain ⟨v, l⟩ := p
      simp only at hc hla hle
      rcases hla with ⟨rfl, rfl⟩ | ⟨g, cp, rfl, hg, hcs⟩
      · have hi1 : (j : Int) < ls.length := by omega
        have hcap : done.length ≤ c := own_cap HO.out
        have HO5 : Hid (wr.ownsRow w.heap.size 253 4 (.slice a done.length c) (done ++ []).length (slotCells (done ++ []))) := Lib.hid (by rw [List.append_nil]; exact HO.out)
        rw [← HTK.out] at HO5
        cases a with
        | none =>
          go_wp2
          go_roundw
          case rel => exact ⟨j + 1, by omega, by go_num, HO5, HB⟩
          case measure => simp [intOf]; omega
        | some ad =>
          go_wp2
          go_roundw
          case rel => exact ⟨j + 1, by omega, by go_num, HO5, HB⟩
          case measure => simp [intOf]; omega
      · have hi1 : (j : Int) < ls.length := by omega
        have hmx : done.length + l.length ≤ maxLen := by unfold maxLen; omega
        have hbl : (done.length + l.length) * 32 ≤ 140737488355328 := by omega
        have HCS := Lib.hid hcs
        clear hcs
        go_wp2_with (at_builtin; refine wpList_append_own2 rfl _ _ 248 rfl w.heap.size 253 i0 _ 4 32 Tryz.underlying248 hi0 hz0 hz1 hz2 rfl (by decide) _ done.length (slotCells done) rfl HO.out ⟨g, 0, none⟩ l.length cp (slotCells l) rfl (slotCells_length l) HCS.out HOJ.out hmx hbl HB.out.size ?_)
        intro v' w5 hown' hgrow _
        rw [← slotCells_append] at hown'
        have hb5 := HB.out.grown hgrow HB.out.size (fun k e => (HO.out.lt k e).1)
        have HO5 : Hid (w5.ownsRow w.heap.size 253 4 v' (done ++ l).length (slotCells (done ++ l))) := Lib.hid (by rw [List.length_append]; exact hown')
        have HB5 := Lib.hid hb5
        rw [← HTK.out] at HO5
        clear hown' hgrow hb5 hc
        go_wp2
        go_roundw
        case rel => exact ⟨j + 1, by omega, by go_num, HO5, HB5⟩
        case measure => simp [intOf]; omega
    · have hje : j = ls.length := by omega
      have hO := HO.out
      subst hje
      have HTL : Hid ((ls.take ls.length).flatMap Prod.snd = ls.flatMap Prod.snd) := Lib.hid (by rw [List.take_length])
      clear hO
      rw [HTL.out] at HO ⊢
      go_wp2
      go_ret
      exact HP.out _ _ HO.out HB.out

end Go.Proofs.YtdillheepidncaaGreatDoor
