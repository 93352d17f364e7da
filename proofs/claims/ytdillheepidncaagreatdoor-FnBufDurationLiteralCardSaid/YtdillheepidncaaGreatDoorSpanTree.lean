/- What spec.Fits says of a duration. A tree of the kind of durations, that spec.Fits takes, is numbers with units. -/
import Derived.Test.YtdillheepidncaaGreatDoorMagRow
import Derived.Test.YtdillheepidncaaGreatDoorParts
import Derived.Test.YtdillheepidncaaGreatDoorFits
namespace Go.Proofs.YtdillheepidncaaGreatDoor
open Go Go.RowKit
set_option linter.unusedVariables false
set_option linter.unusedSimpArgs false

theorem mags_count (l : List (Int × ByteArray)) : ((l.map magT).map Tr.count).sum = l.length := by
  induction l with
  | nil => rfl
  | cons x l ih =>
    have h : (magT x).count = 1 := by unfold magT; rw [Tr.count_mk]; simp
    simp only [List.map_cons, List.sum_cons, List.length_cons, h, ih]
    omega

theorem unit_plain (u : ByteArray) (h : u ∈ unitTexts) : u.data.toList ∈ plainU ∧ u.size ≤ 2 := by
  simp only [unitTexts, List.mem_cons, List.mem_nil_iff, or_false] at h
  rcases h with rfl | rfl | rfl | rfl | rfl | rfl | rfl | rfl | rfl | rfl <;> exact ⟨by decide, by decide⟩

theorem mag_fits (x : Int × ByteArray) (h : FitsT (magT x)) : x.2 ∈ unitTexts := by
  unfold magT at h
  cases h with
  | node hk hf hs hkids hd => exact hf.2.2.2.2.2.2.1 rfl

theorem span_fits (l : List (Int × ByteArray)) (h : BigFits (spanT l)) : (∀ x ∈ l, x.2 ∈ unitTexts) ∧ l.length ≤ 399 := by
  obtain ⟨h1, h2⟩ := h
  unfold spanT at h1 h2
  rw [Tr.count_mk, mags_count] at h2
  refine ⟨fun x hx => ?_, by omega⟩
  cases h1 with
  | node hk hf hs hkids hd => exact mag_fits x (hkids (magT x) (List.mem_map_of_mem hx))

theorem take_more {α : Type} {P : α → Prop} (l : List α) (j : Nat) (h : j < l.length) (h1 : ∀ x ∈ l.take j, P x) (h2 : P l[j]) : ∀ x ∈ l.take (j + 1), P x := by
  intro x hx
  rw [List.take_succ_eq_append_getElem h] at hx
  rcases List.mem_append.1 hx with h3 | h3
  · exact h1 x h3
  · simp at h3
    subst h3
    exact h2

theorem span_kid {w wr : World} {l : List (Int × ByteArray)} {a : Option Addr} {c N : Nat} (hv : NodeIn w (· < N) (spanT l) (nodeU 39 ⟨#[]⟩ ⟨#[]⟩ 0 a l.length c)) (hpos : 0 < l.length) :
    ∃ b o : Nat, a = some ⟨b, o, none⟩ ∧ ∀ wr, Keep (· < N) w wr → ∀ j (hj : j < l.length), ∃ (a' : Option Addr) (c' : Nat),
      wr.cell? ⟨b, o + j * 5, none⟩ = some (.int .i64 40) ∧ wr.cell? ⟨b, o + j * 5 + 1, none⟩ = some (.string l[j].2) ∧ wr.cell? ⟨b, o + j * 5 + 2, none⟩ = some (.string ⟨#[]⟩) ∧ wr.cell? ⟨b, o + j * 5 + 3, none⟩ = some (.int .u64 l[j].1) ∧ wr.cell? ⟨b, o + j * 5 + 4, none⟩ = some (.slice a' 0 c') := by
  obtain ⟨b, o, ha, _, hk⟩ := hv.kidsAt (by simpa using hpos)
  refine ⟨b, o, ha, fun wr hw j hj => ?_⟩
  obtain ⟨a', c', _, h0, h1, h2, h3, h4⟩ := hk wr hw j (by simpa using hj)
  simp only [List.getElem_map] at h0 h1 h2 h3 h4
  exact ⟨a', c', h0, h1, h2, h3, h4⟩

theorem span_in {w : World} {l : List (Int × ByteArray)} {a : Option Addr} {c N : Nat} (hv : NodeIn w (· < N) (spanT l) (nodeU 39 ⟨#[]⟩ ⟨#[]⟩ 0 a l.length c)) : ∀ x ∈ l, 0 ≤ x.1 ∧ x.1 ≤ 18446744073709551615 := by
  intro x hx
  obtain ⟨j, hj, rfl⟩ := List.getElem_of_mem hx
  obtain ⟨b, o, ha, _, hk⟩ := hv.kidsAt (by simpa using (show 0 < l.length by omega))
  obtain ⟨a', c', hin, _⟩ := hk w (Keep.refl _ w) j (by simpa using hj)
  simp only [List.getElem_map] at hin
  exact hin.len.2.2.2.2.2

theorem mag_tree (x : Tr) (h : FitsT x) (hk : x.kind = 40) : x = magT (x.num, x.text) := by
  cases h with
  | none => simp [Tr.kind] at hk
  | @node k t m n ks hk1 hf hs hkids hd =>
    have e : k = 40 := hk
    subst e
    have hm : m = ⟨#[]⟩ := by
      rcases hf.1.2.2.1 with h | h | h
      · exact h
      · omega
      · omega
    have h0 : shapeFixed 40 = [] := by decide
    have h1 : shapeRest 40 = 28 := by decide
    have hks : ks = [] := by
      have h2 := (hs (by decide)).2.1
      rw [h0, h1] at h2
      rcases Nat.eq_zero_or_pos ks.length with h3 | h3
      · exact List.length_eq_zero_iff.1 h3
      · exact absurd rfl (h2 (by simpa using h3))
    subst hm
    subst hks
    rfl

theorem fits_span (t : Tr) (h : FitsT t) (hk : t.kind = 39) : ∃ l : List (Int × ByteArray), t = spanT l := by
  cases h with
  | none => simp [Tr.kind] at hk
  | @node k t m n ks hk1 hf hs hkids hd =>
    have e : k = 39 := hk
    subst e
    have ht : t = ⟨#[]⟩ := hf.1.1 (by decide)
    have hn : n = 0 := hf.1.2.1 (by decide)
    have hm : m = ⟨#[]⟩ := by
      rcases hf.1.2.2.1 with h | h | h
      · exact h
      · omega
      · omega
    have h0 : shapeFixed 39 = [] := by decide
    have h1 : shapeRest 39 = 23 := by decide
    have hcl : ∀ i, classAt 39 i = 23 := fun i => by unfold classAt; rw [h0, h1]; simp
    have hkid : ∀ x ∈ ks, x.kind = 40 := fun x hx => by
      obtain ⟨i, hi, rfl⟩ := List.getElem_of_mem hx
      have hc := (hs (by decide)).2.2 i hi
      rw [hcl] at hc
      have hf := hc.2.2.2 (by decide) (by decide) (by decide)
      have hm := hf.2.2.2.2.2 (by decide) (by decide) (by decide) (by decide) (by decide)
      rw [show classFew 23 = [40] by decide] at hm
      simpa using hm
    refine ⟨ks.map fun x => (x.num, x.text), ?_⟩
    subst ht
    subst hn
    subst hm
    unfold spanT
    rw [List.map_map]
    congr 1
    conv => lhs; rw [← List.map_id ks]
    exact List.map_congr_left fun x hx => mag_tree x (hkids x hx) (hkid x hx)

end Go.Proofs.YtdillheepidncaaGreatDoor
