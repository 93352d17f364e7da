/- The law FnPrecedence over the printed functions: of two operators that the law asks, the one that binds tighter has the smaller precedence, for every two strings. -/
import Derived.Test.YtlnimjpigghbmaaPFnPrecedencex4
import Derived.Lib.Strings
namespace Go.Proofs.Ytlnimjpigghbmaa.Pure
open Go.RowKit Go.Proofs.Ytlnimjpigghbmaa.PFnPrecedence Go.Proofs.YtlnimjpigghbmaaW.PrintWords Go.Proofs.YtlnimjpigghbmaaW.PrintLast

theorem of_list {s : ByteArray} {l : List UInt8} (h : s.toList = l) : s = ⟨l.toArray⟩ := by
  rw [ByteArray.toList_eq] at h
  cases s with
  | mk d => cases d with
    | mk t => simp at h; subst h; rfl

/-- A string is not asked, or binds one tighter than its precedence. -/
def Cls (s : ByteArray) (k : Nat) : Prop := laws_binds.f k s = some 0 ∨ ∃ b : Int, 1 ≤ b ∧ laws_binds.f k s = some b ∧ impl_Precedence.f k s = some (b + 1)

theorem prec_up {s : ByteArray} {r : Int} {k m : Nat} (h : impl_Precedence.f k s = some r) (hm : k ≤ m) : impl_Precedence.f m s = some r := by
  induction hm with
  | refl => exact h
  | step _ ih => exact impl_Precedence.mono _ _ _ ih

theorem binds_up {s : ByteArray} {r : Int} {k m : Nat} (h : laws_binds.f k s = some r) (hm : k ≤ m) : laws_binds.f m s = some r := by
  induction hm with
  | refl => exact h
  | step _ ih => exact laws_binds.mono _ _ _ ih

theorem Cls.up {s : ByteArray} {k m : Nat} (h : Cls s k) (hm : k ≤ m) : Cls s m := by
  rcases h with h | ⟨b, h1, h2, h3⟩
  · exact .inl (binds_up h hm)
  · exact .inr ⟨b, h1, binds_up h2 hm, prec_up h3 hm⟩

theorem known (l : List UInt8) (b : Int) (h : (l, b) ∈ [([94], 1), ([42], 2), ([47], 2), ([37], 2), ([43], 3), ([45], 3), ([61, 61], 4), ([33, 61], 4), ([60], 4), ([60, 61], 4), ([62], 4), ([62, 61], 4), ([61, 126], 4), (([33, 126] : List UInt8), (4 : Int))]) :
    laws_binds.f 24 ⟨l.toArray⟩ = some b ∧ impl_Precedence.f 24 ⟨l.toArray⟩ = some (b + 1) ∧ 1 ≤ b := by
  simp only [List.mem_cons, List.mem_nil_iff, or_false, Prod.mk.injEq] at h
  rcases h with ⟨rfl, rfl⟩ | ⟨rfl, rfl⟩ | ⟨rfl, rfl⟩ | ⟨rfl, rfl⟩ | ⟨rfl, rfl⟩ | ⟨rfl, rfl⟩ | ⟨rfl, rfl⟩ | ⟨rfl, rfl⟩ | ⟨rfl, rfl⟩ | ⟨rfl, rfl⟩ | ⟨rfl, rfl⟩ | ⟨rfl, rfl⟩ | ⟨rfl, rfl⟩ | ⟨rfl, rfl⟩ <;> exact ⟨by decide +kernel, by decide +kernel, by decide⟩

theorem cls_of (s : ByteArray) (l : List UInt8) (b : Int) (hs : s.toList = l) (h : (l, b) ∈ [([94], 1), ([42], 2), ([47], 2), ([37], 2), ([43], 3), ([45], 3), ([61, 61], 4), ([33, 61], 4), ([60], 4), ([60, 61], 4), ([62], 4), ([62, 61], 4), ([61, 126], 4), (([33, 126] : List UInt8), (4 : Int))]) : Cls s 24 := by
  obtain ⟨h1, h2, h3⟩ := known l b h
  rw [of_list hs]
  exact .inr ⟨b, h3, h1, h2⟩

theorem cls (s : ByteArray) : Cls s 24 := by
  by_cases h1 : s.toList = [94]
  · exact cls_of s _ 1 h1 (by decide)
  by_cases h2 : s.toList = [42]
  · exact cls_of s _ 2 h2 (by decide)
  by_cases h3 : s.toList = [47]
  · exact cls_of s _ 2 h3 (by decide)
  by_cases h4 : s.toList = [37]
  · exact cls_of s _ 2 h4 (by decide)
  by_cases h5 : s.toList = [43]
  · exact cls_of s _ 3 h5 (by decide)
  by_cases h6 : s.toList = [45]
  · exact cls_of s _ 3 h6 (by decide)
  by_cases h7 : s.toList = [61, 61]
  · exact cls_of s _ 4 h7 (by decide)
  by_cases h8 : s.toList = [33, 61]
  · exact cls_of s _ 4 h8 (by decide)
  by_cases h9 : s.toList = [60]
  · exact cls_of s _ 4 h9 (by decide)
  by_cases h10 : s.toList = [60, 61]
  · exact cls_of s _ 4 h10 (by decide)
  by_cases h11 : s.toList = [62]
  · exact cls_of s _ 4 h11 (by decide)
  by_cases h12 : s.toList = [62, 61]
  · exact cls_of s _ 4 h12 (by decide)
  by_cases h13 : s.toList = [61, 126]
  · exact cls_of s _ 4 h13 (by decide)
  by_cases h14 : s.toList = [33, 126]
  · exact cls_of s _ 4 h14 (by decide)
  left
  simp [laws_binds.f, laws_binds.j0, laws_binds.j1, h1, h2, h3, h4, h5, h6, h7, h8, h9, h10, h11, h12, h13, h14]

theorem prec_times : impl_Precedence.f 26 ⟨#[42]⟩ = some 3 := by decide +kernel
theorem prec_plus : impl_Precedence.f 26 ⟨#[43]⟩ = some 4 := by decide +kernel

theorem j1_true (s t : ByteArray) (x : Bool) (hx : x = true → (laws_binds.f 26 s = some 0 ∨ laws_binds.f 26 t = some 0)) (hx' : x = false → ∃ a b : Int, 1 ≤ a ∧ 1 ≤ b ∧ laws_binds.f 25 s = some a ∧ impl_Precedence.f 25 s = some (a + 1) ∧ laws_binds.f 25 t = some b ∧ impl_Precedence.f 25 t = some (b + 1)) :
    laws_FnPrecedence.j1 26 s t true x = some true := by
  cases x with
  | true => simp [laws_FnPrecedence.j1]
  | false =>
    obtain ⟨a, b, ha, hb, h1, h2, h3, h4⟩ := hx' rfl
    simp only [laws_FnPrecedence.j1, h1, h2, h3, h4, Option.bind_some]
    rw [if_neg (by decide), if_pos]
    rw [beq_iff_eq, decide_eq_decide]
    omega

theorem FnPrecedence : laws_FnPrecedence.Pure := by
  intro s t _ _
  refine ⟨27, ?_⟩
  have main : ∀ x, laws_FnPrecedence.j0 27 s t x = some true := by
    intro x
    cases x with
    | true => simp [laws_FnPrecedence.j0]
    | false =>
      rw [laws_FnPrecedence.j0, if_neg (by decide), prec_times, prec_plus]
      simp only [Option.bind_some]
      rcases cls s with h | ⟨a, ha, h1, h2⟩
      · rw [binds_up h (by omega : 24 ≤ 26)]
        simp only [Option.bind_some]
        rw [if_pos trivial]
        exact j1_true s t true (fun _ => .inl (binds_up h (by omega))) (fun h => by cases h)
      · rw [binds_up h1 (by omega : 24 ≤ 26)]
        simp only [Option.bind_some]
        rw [if_neg (by omega)]
        rcases cls t with h | ⟨b, hb, h3, h4⟩
        · rw [binds_up h (by omega : 24 ≤ 26)]
          exact j1_true s t true (fun _ => .inr (binds_up h (by omega))) (fun h => by cases h)
        · rw [binds_up h3 (by omega : 24 ≤ 26)]
          have e : (b == 0) = false := by simp; omega
          simp only [Option.bind_some, e]
          exact j1_true s t false (fun h => by cases h) (fun _ => ⟨a, b, ha, hb, binds_up h1 (by omega), prec_up h2 (by omega), binds_up h3 (by omega), prec_up h4 (by omega)⟩)
  unfold laws_FnPrecedence.f
  split <;> exact main _

end Go.Proofs.Ytlnimjpigghbmaa.Pure
