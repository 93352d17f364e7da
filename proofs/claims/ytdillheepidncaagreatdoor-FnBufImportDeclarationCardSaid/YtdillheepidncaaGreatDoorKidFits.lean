/- What spec.Fits says of types of one identifier. -/
import Derived.Test.YtdillheepidncaaGreatDoorSimple
import Derived.Test.YtdillheepidncaaGreatDoorBuffered
namespace Go.Proofs.YtdillheepidncaaGreatDoor
open Go Go.RowKit
set_option linter.unusedVariables false
set_option linter.unusedSimpArgs false

theorem tvar_shape (k : Int) (hk : k = 45 ∨ k = 46) : shapeFixed k = [3] ∧ shapeRest k = 28 := by
  rcases hk with rfl | rfl <;> exact ⟨by decide, by decide⟩

theorem fits_tvar (tr : Tr) (h : FitsT tr) (hk : tr.kind = 45 ∨ tr.kind = 46) : ∃ x, tr = .mk tr.kind ⟨#[]⟩ ⟨#[]⟩ 0 [.mk 33 x ⟨#[]⟩ 0 []] ∧ x.size ≤ 300 := by
  cases h with
  | none => exact absurd hk (by decide)
  | @node k t m n ks hk1 hf hs hkids hd =>
    have hk2 : k = 45 ∨ k = 46 := hk
    obtain ⟨s1, s2⟩ := tvar_shape k hk2
    obtain ⟨a1, a2, a3⟩ := hs (by omega)
    rw [s1] at a1 a2
    obtain ⟨b1, b2, b3, b4, _⟩ := hf.1
    have ht : t = ⟨#[]⟩ := b1 (by rcases hk2 with rfl | rfl <;> decide)
    have hn : n = 0 := b2 (by rcases hk2 with rfl | rfl <;> decide)
    have hm : m = ⟨#[]⟩ := by
      rcases b3 with h | h | h
      · exact h
      · omega
      · omega
    match ks, a1, a2, a3, hkids with
    | [kid], _, _, a3, hkids =>
      have hc := a3 0 (by simp)
      have hc3 : classAt k 0 = 3 := by unfold classAt; rw [s1]; rfl
      rw [hc3] at hc
      have hfl := hc.2.2.2 (by decide) (by decide) (by decide)
      have hk33 : kid.kind = 33 := by
        have h33 := hfl.2.2.2.2.2 (by decide) (by decide) (by decide) (by decide) (by decide)
        have e3 : classFew 3 = [33] := by decide
        rw [e3] at h33
        simpa using h33
      obtain ⟨k', t', n', e, hke, h300, hte, hne⟩ := fits_leaf kid (hkids kid (by simp)) (by rw [hk33]; decide)
      have hn0 : n' = 0 := hne (by rw [hke, hk33]; decide)
      subst ht hn hm hn0
      rw [hk33] at hke
      subst hke
      exact ⟨t', by rw [e]; rfl, h300⟩
    | x :: y :: r, _, a2, _, _ => exact absurd s2 (a2 (by simp))

theorem simple_tvar (tr : Tr) (h : FitsT tr) (hk : tr.kind = 45 ∨ tr.kind = 46) : SimpleT tr := by
  obtain ⟨x, e, _⟩ := fits_tvar tr h hk
  rw [e]
  refine .mk (by rcases hk with h | h <;> rw [h] <;> decide) fun y hy => ?_
  rw [List.mem_singleton] at hy
  rw [hy]
  exact .mk (by decide) fun z hz => by cases hz

end Go.Proofs.YtdillheepidncaaGreatDoor
