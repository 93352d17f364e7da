/- spec.ReadExpression of an expression's literal. -/
import Derived.Test.YtciaahpocaejhaaGreatDoorStep
import Derived.Test.YtciaahpocaejhaaGreatDoorNextRegexp
import Derived.Test.YtciaahpocaejhaaGreatDoorReadExpr
namespace Go.Proofs.YtciaahpocaejhaaGreatDoor
open Go Go.RowKit

theorem escP_begin (s : ByteArray) (l : List UInt8) (hs : s.data.toList = [47] ++ escP l ++ [47]) (hne : l ≠ []) (q : Nat) (hq : q = 0) : ((s.extract q (q + 2)).toList == [47, 47]) = false := by
  subst hq
  rw [ByteArray.toList_eq, ByteArray.data_extract, Array.toList_extract, hs]
  obtain ⟨c, t, rfl⟩ := List.exists_cons_of_ne_nil hne
  by_cases h : c = 47
  · simp [escP, h, List.extract_eq_take_drop]
  · simp [escP, h, List.extract_eq_take_drop]

theorem readExpr_regexp (s : ByteArray) (l : List UInt8) (hs : s.data.toList = [47] ++ escP l ++ [47]) (hl : ∀ c ∈ l, c ≠ 92 ∧ c ≠ 10) (hne : l ≠ []) (hsz : s.size ≤ 10000) (w : World) :
    Calls Tryz.prog 10 #[.string s] w fun e w' => e = .returned (.tuple #[nodeV 42 ⟨l.toArray⟩ 0 none 0 0, .bool true]) ∧ Below w.heap.size w w' := by
  refine (readExpr_lit s ⟨l.toArray⟩ s.size s.size 6 (fun v _ _ => v = nodeV 42 ⟨l.toArray⟩ 0 none 0 0) (fun v w0 w1 w2 w3 h _ _ => h) w
    (fun w => read_gen s ⟨l.toArray⟩ s.size 6 (fun b w h => next_regexp b s ⟨#[]⟩ 0 0 l hs hl hsz (fun q hq _ => escP_begin s l hs hne q hq) w 0 rfl h) w)
    (fun b w h => expr_leaf b s.size s ⟨l.toArray⟩ 6 42 (.inl ⟨rfl, rfl⟩) (Nat.le_refl _) w h)).mono ?_
  rintro e w' ⟨v, rfl, rfl, hb⟩
  exact ⟨rfl, hb⟩

end Go.Proofs.YtciaahpocaejhaaGreatDoor
