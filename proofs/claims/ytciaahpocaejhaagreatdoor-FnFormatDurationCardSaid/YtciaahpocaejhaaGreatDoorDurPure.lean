/- FnFormatDuration: what fits and is writable is read back: plain lists. -/
import Derived.Test.YtciaahpocaejhaaGreatDoorDurFmt
import Derived.Test.YtciaahpocaejhaaGreatDoorLitSpan
import Derived.Test.YtciaahpocaejhaaGreatDoorReadSpan
import Derived.Test.YtciaahpocaejhaaGreatDoorFits
namespace Go.Proofs.YtciaahpocaejhaaGreatDoor
open Go Go.RowKit
set_option linter.unusedVariables false
set_option linter.unusedSimpArgs false

/-- A number as 64 bits without a sign. -/
def wrapM (x : Int × ByteArray) : Int × ByteArray := (IntKind.u64.wrap x.1, x.2)

theorem wrapM_in (x : Int × ByteArray) (h : x.2.size ≤ maxLen) : MagIn (wrapM x) := by
  refine ⟨?_, h⟩
  show 0 ≤ IntKind.u64.wrap x.1 ∧ IntKind.u64.wrap x.1 ≤ 18446744073709551615
  rw [IntKind.wrap_u64]
  omega

theorem mags_count (l : List (Int × ByteArray)) : ((l.map magT).map Tr.count).sum = l.length := by
  induction l with
  | nil => rfl
  | cons x l ih =>
    have h : (magT x).count = 1 := by unfold magT; rw [Tr.count_mk]; simp
    simp only [List.map_cons, List.sum_cons, List.length_cons, h, ih]
    omega

theorem unit_plain (u : ByteArray) (h : u ∈ unitTexts) : u.data.toList ∈ plainU ∧ u.size ≤ 2 := by
  simp only [unitTexts, List.mem_cons, List.mem_nil_iff, or_false] at h
  rcases h with rfl | rfl | rfl | rfl | rfl | rfl | rfl | rfl | rfl | rfl <;> exact ⟨by decide, by decide⟩

theorem mag_fits (x : Int × ByteArray) (h : FitsT (magT x)) : x.2 ∈ unitTexts := by
  unfold magT at h
  cases h with
  | node hk hf hs hkids hd => exact hf.2.2.2.2.2.2.1 rfl

theorem span_fits (l : List (Int × ByteArray)) (h : BigFits (spanT l)) : (∀ x ∈ l, x.2 ∈ unitTexts) ∧ l.length ≤ 399 := by
  obtain ⟨h1, h2⟩ := h
  unfold spanT at h1 h2
  rw [Tr.count_mk, mags_count] at h2
  refine ⟨fun x hx => ?_, by omega⟩
  cases h1 with
  | node hk hf hs hkids hd => exact mag_fits x (hkids (magT x) (List.mem_map_of_mem hx))

/-- A part as its digits and its unit's bytes. -/
def partM (x : Int × ByteArray) : List UInt8 × List UInt8 := (Lib.decDigits x.1.toNat, x.2.data.toList)

theorem dur_pure (l : List (Int × ByteArray)) (hb : ∀ x ∈ l, -9223372036854775808 ≤ x.1 ∧ x.1 ≤ 9223372036854775807) (hf : BigFits (spanT (l.map wrapM))) (hn : NumsOk (l.map wrapM)) :
    (∀ x ∈ l, DurIn x) ∧ l.length ≤ 399 ∧ l ≠ [] ∧ SpanTxt ⟨(durBytes l).toArray⟩ (l.map partM) ∧ (l.map partM).map magOf = l.map wrapM := by
  obtain ⟨hu, hl⟩ := span_fits _ hf
  rw [List.length_map] at hl
  have hu' : ∀ x ∈ l, x.2 ∈ unitTexts := fun x hx => hu (wrapM x) (List.mem_map_of_mem hx)
  have hpos : ∀ x ∈ l, 0 ≤ x.1 ∧ IntKind.u64.wrap x.1 = x.1 := fun x hx => by
    have h1 := hb x hx
    have h2 := hn.1 (wrapM x) (List.mem_map_of_mem hx)
    have h3 : IntKind.u64.wrap x.1 ≤ 9223372036854775807 := h2
    rw [IntKind.wrap_u64] at h3 ⊢
    omega
  have hne : l ≠ [] := fun e => hn.2 (by rw [e]; rfl)
  have hin : ∀ x ∈ l, DurIn x := fun x hx => ⟨hb x hx, by have := (unit_plain _ (hu' x hx)).2; omega⟩
  have hit : ∀ x ∈ l, Lib.itoa x.1 = Lib.decDigits x.1.toNat := fun x hx => by
    have h := (hpos x hx).1
    unfold Lib.itoa
    rw [if_neg (by omega)]
  have hsp : spanB (l.map partM) = durBytes l := by
    unfold spanB durBytes
    rw [List.flatMap_map]
    clear hf hn hl hne
    induction l with
    | nil => rfl
    | cons x l ih =>
      rw [List.flatMap_cons, List.flatMap_cons, hit x (by simp), ih (fun y hy => hb y (by simp [hy])) (fun y hy => hu y (by simp at hy ⊢; exact .inr hy)) (fun y hy => hu' y (by simp [hy])) (fun y hy => hpos y (by simp [hy])) (fun y hy => hin y (by simp [hy])) (fun y hy => hit y (by simp [hy]))]
      rfl
  have hlen : (durBytes l).length ≤ 22 * l.length := by
    clear hf hn hl hne hsp
    induction l with
    | nil => simp [durBytes]
    | cons x l ih =>
      have h1 := ih (fun y hy => hb y (by simp [hy])) (fun y hy => hu y (by simp at hy ⊢; exact .inr hy)) (fun y hy => hu' y (by simp [hy])) (fun y hy => hpos y (by simp [hy])) (fun y hy => hin y (by simp [hy])) (fun y hy => hit y (by simp [hy]))
      have h2 : (Lib.itoa x.1).length ≤ 20 := by
        rw [hit x (by simp)]
        exact decDigits_20 _ (by have := (hb x (by simp)).2; omega)
      have h3 := (unit_plain _ (hu' x (by simp))).2
      have h4 : x.2.data.toList.length = x.2.size := by simp
      rw [show durBytes (x :: l) = (Lib.itoa x.1 ++ x.2.data.toList) ++ durBytes l by simp [durBytes], List.length_append, List.length_append, List.length_cons]
      omega
  refine ⟨hin, hl, hne, ⟨hsp.symm, ?_, ?_, ?_, by rw [List.length_map]; omega⟩, ?_⟩
  · intro y hy
    obtain ⟨x, hx, rfl⟩ := List.mem_map.1 hy
    exact ⟨decDigits_ne _, decDigits_digits _, (unit_plain _ (hu' x hx)).1⟩
  · intro y hy
    obtain ⟨x, hx, rfl⟩ := List.mem_map.1 hy
    show decV (Lib.decDigits x.1.toNat) ≤ _
    rw [decV_digits]
    have := (hb x hx).2
    omega
  · show (durBytes l).toArray.size ≤ 10000
    simp only [List.size_toArray]
    omega
  · rw [List.map_map]
    refine List.map_congr_left fun x hx => ?_
    have h := hpos x hx
    show (((decV (Lib.decDigits x.1.toNat) : Nat) : Int), (⟨x.2.data.toList.toArray⟩ : ByteArray)) = (IntKind.u64.wrap x.1, x.2)
    rw [decV_digits, h.2, Int.toNat_of_nonneg h.1]

end Go.Proofs.YtciaahpocaejhaaGreatDoor
