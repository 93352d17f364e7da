/- A tree of the kind of durations, that spec.Fits takes, is numbers with units. -/
import Derived.Test.YtaaiojhdhefjdaaDoorSpanFits
namespace Go.Proofs.YtaaiojhdhefjdaaDoor
open Go Go.RowKit
set_option linter.unusedVariables false
set_option linter.unusedSimpArgs false

theorem mag_tree (x : Tr) (h : FitsT x) (hk : x.kind = 40) : x = magT (x.num, x.text) := by
  cases h with
  | none => simp [Tr.kind] at hk
  | @node k t m n ks hk1 hf hs hkids hd =>
    have e : k = 40 := hk
    subst e
    have hm : m = ⟨#[]⟩ := by
      rcases hf.1.2.2.1 with h | h | h
      · exact h
      · omega
      · omega
    have h0 : shapeFixed 40 = [] := by decide
    have h1 : shapeRest 40 = 28 := by decide
    have hks : ks = [] := by
      have h2 := (hs (by decide)).2.1
      rw [h0, h1] at h2
      rcases Nat.eq_zero_or_pos ks.length with h3 | h3
      · exact List.length_eq_zero_iff.1 h3
      · exact absurd rfl (h2 (by simpa using h3))
    subst hm
    subst hks
    rfl

theorem fits_span (t : Tr) (h : FitsT t) (hk : t.kind = 39) : ∃ l : List (Int × ByteArray), t = spanT l := by
  cases h with
  | none => simp [Tr.kind] at hk
  | @node k t m n ks hk1 hf hs hkids hd =>
    have e : k = 39 := hk
    subst e
    have ht : t = ⟨#[]⟩ := hf.1.1 (by decide)
    have hn : n = 0 := hf.1.2.1 (by decide)
    have hm : m = ⟨#[]⟩ := by
      rcases hf.1.2.2.1 with h | h | h
      · exact h
      · omega
      · omega
    have h0 : shapeFixed 39 = [] := by decide
    have h1 : shapeRest 39 = 23 := by decide
    have hcl : ∀ i, classAt 39 i = 23 := fun i => by unfold classAt; rw [h0, h1]; simp
    have hkid : ∀ x ∈ ks, x.kind = 40 := fun x hx => by
      obtain ⟨i, hi, rfl⟩ := List.getElem_of_mem hx
      have hc := (hs (by decide)).2.2 i hi
      rw [hcl] at hc
      have hf := hc.2.2.2 (by decide) (by decide) (by decide)
      have hm := hf.2.2.2.2.2 (by decide) (by decide) (by decide) (by decide) (by decide)
      rw [show classFew 23 = [40] by decide] at hm
      simpa using hm
    refine ⟨ks.map fun x => (x.num, x.text), ?_⟩
    subst ht
    subst hn
    subst hm
    unfold spanT
    rw [List.map_map]
    congr 1
    conv => lhs; rw [← List.map_id ks]
    exact List.map_congr_left fun x hx => mag_tree x (hkids x hx) (hkid x hx)

end Go.Proofs.YtaaiojhdhefjdaaDoor
