/- What spec.Fits says of imports. -/
import Derived.Test.YtdillheepidncaaGreatDoorKidFits
namespace Go.Proofs.YtdillheepidncaaGreatDoor
open Go Go.RowKit
set_option linter.unusedVariables false
set_option linter.unusedSimpArgs false

theorem import_shape : shapeFixed 5 = [4, 15] ∧ shapeRest 5 = 28 ∧ classFew 4 = [33, 0] ∧ classFew 15 = [34] := ⟨by decide, by decide, by decide, by decide⟩

/-- An import has a name or none, and a path. -/
theorem fits_import (tr : Tr) (h : FitsT tr) (hk : tr.kind = 5) : ∃ y : ByteArray, y.size ≤ 300 ∧ (tr = .mk 5 ⟨#[]⟩ ⟨#[]⟩ 0 [.mk 0 ⟨#[]⟩ ⟨#[]⟩ 0 [], .mk 34 y ⟨#[]⟩ 0 []] ∨ ∃ x : ByteArray, x.size ≤ 300 ∧ tr = .mk 5 ⟨#[]⟩ ⟨#[]⟩ 0 [.mk 33 x ⟨#[]⟩ 0 [], .mk 34 y ⟨#[]⟩ 0 []]) := by
  cases h with
  | none => exact absurd hk (by decide)
  | @node k t m n ks hk1 hf hs hkids hd =>
    have hk2 : k = 5 := hk
    subst hk2
    obtain ⟨s1, s2, f4, f15⟩ := import_shape
    obtain ⟨a1, a2, a3⟩ := hs (by omega)
    rw [s1] at a1 a2
    obtain ⟨b1, b2, b3, b4, _⟩ := hf.1
    have ht : t = ⟨#[]⟩ := b1 (by decide)
    have hn : n = 0 := b2 (by decide)
    have hm : m = ⟨#[]⟩ := by
      rcases b3 with h | h | h
      · exact h
      · omega
      · omega
    match ks, a1, a2, a3, hkids with
    | [k1, k2], _, _, a3, hkids =>
      have hc1 := a3 0 (by simp)
      have hc2 := a3 1 (by simp)
      have e1 : classAt 5 0 = 4 := by unfold classAt; rw [s1]; rfl
      have e2 : classAt 5 1 = 15 := by unfold classAt; rw [s1]; rfl
      rw [e1] at hc1
      rw [e2] at hc2
      have hfl1 := hc1.2.2.2 (by decide) (by decide) (by decide)
      have hfl2 := hc2.2.2.2 (by decide) (by decide) (by decide)
      have h34 := hfl2.2.2.2.2.2 (by decide) (by decide) (by decide) (by decide) (by decide)
      rw [f15] at h34
      have h34 : k2.kind = 34 := by simpa using h34
      obtain ⟨k', y, n', e, hke, h300, hte, hne⟩ := fits_leaf k2 (hkids k2 (by simp)) (by rw [h34]; decide)
      have hn0 : n' = 0 := hne (by rw [hke, h34]; decide)
      subst ht hn hm hn0
      rw [h34] at hke
      subst hke
      refine ⟨y, h300, ?_⟩
      have h33 := hfl1.2.2.2.2.2 (by decide) (by decide) (by decide) (by decide) (by decide)
      rw [f4] at h33
      have h33 : k1.kind = 33 ∨ k1.kind = 0 := by simpa using h33
      rcases h33 with h33 | h0
      · obtain ⟨k', x, n', e1, hke, hx, hte, hne⟩ := fits_leaf k1 (hkids k1 (by simp)) (by rw [h33]; decide)
        have hn0 : n' = 0 := hne (by rw [hke, h33]; decide)
        subst hn0
        rw [h33] at hke
        subst hke
        refine .inr ⟨x, hx, ?_⟩
        rw [show k1 = _ from e1, show k2 = _ from e]
      · have hk1f := hkids k1 (by simp)
        have hz : k1 = .mk 0 ⟨#[]⟩ ⟨#[]⟩ 0 [] := by
          cases hk1f with
          | none => rfl
          | @node k t m n ks hk1 hf hs hkids hd =>
            have : k = 0 := h0
            omega
        refine .inl ?_
        rw [hz, show k2 = _ from e]
    | x :: y :: z :: r, _, a2, _, _ => exact absurd s2 (a2 (by simp))

theorem simple_import (tr : Tr) (h : FitsT tr) (hk : tr.kind = 5) : SimpleT tr := by
  obtain ⟨y, _, e | ⟨x, _, e⟩⟩ := fits_import tr h hk
  all_goals
    rw [e]
    refine .mk (by decide) fun z hz => ?_
    simp only [List.mem_cons, List.mem_nil_iff, or_false] at hz
    rcases hz with rfl | rfl
    · exact .mk (by decide) fun z hz => by cases hz
    · exact .mk (by decide) fun z hz => by cases hz

end Go.Proofs.YtdillheepidncaaGreatDoor
