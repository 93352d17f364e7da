/- What spec.Fits says of a duration. -/
import Derived.Test.YtaaiojhdhefjdaaDoorMagRow
import Derived.Test.YtaaiojhdhefjdaaDoorParts
import Derived.Test.YtaaiojhdhefjdaaDoorFits
namespace Go.Proofs.YtaaiojhdhefjdaaDoor
open Go Go.RowKit
set_option linter.unusedVariables false
set_option linter.unusedSimpArgs false

theorem mags_count (l : List (Int × ByteArray)) : ((l.map magT).map Tr.count).sum = l.length := by
  induction l with
  | nil => rfl
  | cons x l ih =>
    have h : (magT x).count = 1 := by unfold magT; rw [Tr.count_mk]; simp
    simp only [List.map_cons, List.sum_cons, List.length_cons, h, ih]
    omega

theorem unit_plain (u : ByteArray) (h : u ∈ unitTexts) : u.data.toList ∈ plainU ∧ u.size ≤ 2 := by
  simp only [unitTexts, List.mem_cons, List.mem_nil_iff, or_false] at h
  rcases h with rfl | rfl | rfl | rfl | rfl | rfl | rfl | rfl | rfl | rfl <;> exact ⟨by decide, by decide⟩

theorem mag_fits (x : Int × ByteArray) (h : FitsT (magT x)) : x.2 ∈ unitTexts := by
  unfold magT at h
  cases h with
  | node hk hf hs hkids hd => exact hf.2.2.2.2.2.2.1 rfl

theorem span_fits (l : List (Int × ByteArray)) (h : BigFits (spanT l)) : (∀ x ∈ l, x.2 ∈ unitTexts) ∧ l.length ≤ 399 := by
  obtain ⟨h1, h2⟩ := h
  unfold spanT at h1 h2
  rw [Tr.count_mk, mags_count] at h2
  refine ⟨fun x hx => ?_, by omega⟩
  cases h1 with
  | node hk hf hs hkids hd => exact mag_fits x (hkids (magT x) (List.mem_map_of_mem hx))

theorem take_more {α : Type} {P : α → Prop} (l : List α) (j : Nat) (h : j < l.length) (h1 : ∀ x ∈ l.take j, P x) (h2 : P l[j]) : ∀ x ∈ l.take (j + 1), P x := by
  intro x hx
  rw [List.take_succ_eq_append_getElem h] at hx
  rcases List.mem_append.1 hx with h3 | h3
  · exact h1 x h3
  · simp at h3
    subst h3
    exact h2

theorem span_kid {w wr : World} {l : List (Int × ByteArray)} {a : Option Addr} {c N : Nat} (hv : NodeIn w (· < N) (spanT l) (nodeU 39 ⟨#[]⟩ ⟨#[]⟩ 0 a l.length c)) (hpos : 0 < l.length) :
    ∃ b o : Nat, a = some ⟨b, o, none⟩ ∧ ∀ wr, Keep (· < N) w wr → ∀ j (hj : j < l.length), ∃ (a' : Option Addr) (c' : Nat),
      wr.cell? ⟨b, o + j * 5, none⟩ = some (.int .i64 40) ∧ wr.cell? ⟨b, o + j * 5 + 1, none⟩ = some (.string l[j].2) ∧ wr.cell? ⟨b, o + j * 5 + 2, none⟩ = some (.string ⟨#[]⟩) ∧ wr.cell? ⟨b, o + j * 5 + 3, none⟩ = some (.int .u64 l[j].1) ∧ wr.cell? ⟨b, o + j * 5 + 4, none⟩ = some (.slice a' 0 c') := by
  obtain ⟨b, o, ha, _, hk⟩ := hv.kidsAt (by simpa using hpos)
  refine ⟨b, o, ha, fun wr hw j hj => ?_⟩
  obtain ⟨a', c', _, h0, h1, h2, h3, h4⟩ := hk wr hw j (by simpa using hj)
  simp only [List.getElem_map] at h0 h1 h2 h3 h4
  exact ⟨a', c', h0, h1, h2, h3, h4⟩

theorem span_in {w : World} {l : List (Int × ByteArray)} {a : Option Addr} {c N : Nat} (hv : NodeIn w (· < N) (spanT l) (nodeU 39 ⟨#[]⟩ ⟨#[]⟩ 0 a l.length c)) : ∀ x ∈ l, 0 ≤ x.1 ∧ x.1 ≤ 18446744073709551615 := by
  intro x hx
  obtain ⟨j, hj, rfl⟩ := List.getElem_of_mem hx
  obtain ⟨b, o, ha, _, hk⟩ := hv.kidsAt (by simpa using (show 0 < l.length by omega))
  obtain ⟨a', c', hin, _⟩ := hk w (Keep.refl _ w) j (by simpa using hj)
  simp only [List.getElem_map] at hin
  exact hin.len.2.2.2.2.2

end Go.Proofs.YtaaiojhdhefjdaaDoor
