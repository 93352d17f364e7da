/- Types are read: every kind's table. -/
import Derived.Test.YtgceklahjdbipaaGreatDoorTyFrom
import Derived.Test.YtgceklahjdbipaaGreatDoorTyLists
import Derived.Test.YtgceklahjdbipaaGreatDoorTyT
namespace Go.Proofs.YtgceklahjdbipaaGreatDoor
open Go Go.RowKit
set_option linter.unusedVariables false
set_option linter.unusedSimpArgs false

theorem ch_small (k : Int) : (choiceOf k).toNat < 256 := by
  have := choiceOf_bounds k
  omega

theorem reads_id (x : ByteArray) (hx : x.size ≤ 300) : ReadsAs (idT x) (LeafText x) := fun bs p h b g L c w ht => by
  obtain ⟨size, p0, p1, hq, h2⟩ := h
  refine (fromIdentifier_any b g L c p size p0 p1 bs hq x h2 w ht).mono ?_
  rintro e w' ⟨r, rfl, hr, hrow, hb⟩
  exact ⟨r, rfl, hr, giveIdentifier (by unfold maxLen; omega) hrow hr, hb⟩

set_option maxHeartbeats 4000000 in
theorem ty_reads (base : Bool) : TyR base ReadsAs where
  id := fun x hx _ => reads_id x hx
  name := fun k hk x P s Q _ _ hr => by
    rcases hk with rfl | rfl
    · exact fun bs p h b g L c w ht => fromNamedType_q b g L c p _ bs _ (h.head (by decide) (by decide) (by decide) (by decide) rfl (by decide)) (idT x) (.inr ⟨hr, rfl, (h.kid (i := 1) (P := P) (s := s) (by simp) (by decide) (by decide))⟩) w ht
    · exact fun bs p h b g L c w ht => fromTvarType_q b g L c p _ bs _ (h.head (by decide) (by decide) (by decide) (by decide) rfl (by decide)) (idT x) (.inr ⟨hr, rfl, (h.kid (i := 1) (P := P) (s := s) (by simp) (by decide) (by decide))⟩) w ht
  array := fun e he P s Q _ _ hr bs p h b g L c w ht => fromArrayType_q b g L c p _ bs _ (h.head (by decide) (by decide) (by decide) (by decide) rfl (by decide)) e he hr _ rfl (h.byte (i := 1) (u := (choiceOf e.kind).toNat) (by simp) (ch_small _) (by decide) (by decide) (by decide) (by decide)) (h.kid (i := 2) (P := P) (s := s) (by simp) (by decide) (by decide)) w ht
  dict := fun e1 e2 he1 he2 P1 s1 Q1 P2 s2 Q2 _ _ hr1 _ hr2 bs p h b g L c w ht => fromDictType_q b g L c p _ bs _ (h.head (by decide) (by decide) (by decide) (by decide) rfl (by decide)) e1 he1 hr1 _ rfl (h.byte (i := 1) (u := (choiceOf e1.kind).toNat) (by simp) (ch_small _) (by decide) (by decide) (by decide) (by decide)) (h.kid (i := 2) (P := P1) (s := s1) (by simp) (by decide) (by decide)) e2 he2 hr2 _ rfl (h.byte (i := 3) (u := (choiceOf e2.kind).toNat) (by simp) (ch_small _) (by decide) (by decide) (by decide) (by decide)) (h.kid (i := 4) (P := P2) (s := s2) (by simp) (by decide) (by decide)) w ht
  record := fun ks hk ps _ hl bs p h b g L c w ht => fromRecordType_q b g L c p _ bs _ (h.head (by decide) (by decide) (by decide) (by decide) rfl (by decide)) noT (Q1 := fun _ _ => True) (.inl ⟨rfl, by cases base <;> decide⟩) ks ps hl.len hl.few hk hl.rd (h.vec (i := 1) (by simp) (by decide) (by decide)) w ht
  recordWith := fun x ks hk ps P s Q _ hl _ hr bs p h b g L c w ht => fromRecordType_q b g L c p _ bs _ (h.head (by decide) (by decide) (by decide) (by decide) rfl (by decide)) (idT x) (.inr ⟨hr, rfl, (h.kid (i := 2) (P := P) (s := s) (by simp) (by decide) (by decide))⟩) ks ps hl.len hl.few hk hl.rd (h.vec (i := 1) (by simp) (by decide) (by decide)) w ht
  prop := fun x e he P1 s1 Q1 P2 s2 Q2 _ _ hr1 _ hr2 bs p h b g L c w ht => fromPropertyType_q b g L c p _ bs _ (h.head (by decide) (by decide) (by decide) (by decide) rfl (by decide)) (idT x) (.inr ⟨hr1, rfl, (h.kid (i := 1) (P := P1) (s := s1) (by simp) (by decide) (by decide))⟩) e he hr2 _ rfl (h.byte (i := 2) (u := (choiceOf e.kind).toNat) (by simp) (ch_small _) (by decide) (by decide) (by decide) (by decide)) (h.kid (i := 3) (P := P2) (s := s2) (by simp) (by decide) (by decide)) w ht
  func := fun e he ks hk ps P s Q _ hl _ hr bs p h b g L c w ht => fromFunctionType_q b g L c p _ bs _ (h.head (by decide) (by decide) (by decide) (by decide) rfl (by decide)) e he hr _ rfl (h.byte (i := 2) (u := (choiceOf e.kind).toNat) (by simp) (ch_small _) (by decide) (by decide) (by decide) (by decide)) (h.kid (i := 3) (P := P) (s := s) (by simp) (by decide) (by decide)) ks ps hl.len hl.few hk hl.rd (h.vec (i := 1) (by simp) (by decide) (by decide)) w ht
  param := fun n hn e he P s Q _ _ hr bs p h b g L c w ht => fromParameterType_q b g L c p _ bs _ (h.head (by decide) (by decide) (by decide) (by decide) rfl (by decide)) noT (Q1 := fun _ _ => True) (.inl ⟨rfl, by cases base <;> decide⟩) e he hr _ rfl (h.byte (i := 2) (u := (choiceOf e.kind).toNat) (by simp) (ch_small _) (by decide) (by decide) (by decide) (by decide)) (h.kid (i := 3) (P := P) (s := s) (by simp) (by decide) (by decide)) n hn (h.byte (i := 4) (u := n) (by simp) (by omega) (by decide) (by decide) (by decide) (by decide)) w ht
  paramWith := fun n hn x e he P1 s1 Q1 P2 s2 Q2 _ _ hr1 _ hr2 bs p h b g L c w ht => fromParameterType_q b g L c p _ bs _ (h.head (by decide) (by decide) (by decide) (by decide) rfl (by decide)) (idT x) (.inr ⟨hr1, rfl, (h.kid (i := 1) (P := P1) (s := s1) (by simp) (by decide) (by decide))⟩) e he hr2 _ rfl (h.byte (i := 2) (u := (choiceOf e.kind).toNat) (by simp) (ch_small _) (by decide) (by decide) (by decide) (by decide)) (h.kid (i := 3) (P := P2) (s := s2) (by simp) (by decide) (by decide)) n hn (h.byte (i := 4) (u := n) (by simp) (by omega) (by decide) (by decide) (by decide) (by decide)) w ht
  cons := fun x ks hk ps P s Q _ hl _ hr bs p h b g L c w ht => fromTypeConstraint_q b g L c p _ bs _ (h.head (by decide) (by decide) (by decide) (by decide) rfl (by decide)) (idT x) (.inr ⟨hr, rfl, (h.kid (i := 1) (P := P) (s := s) (by simp) (by decide) (by decide))⟩) ks ps hl.len hl.few hk hl.rd (h.vec (i := 2) (by simp) (by decide) (by decide)) w ht
  expr := fun e he ks hk ps P s Q _ hl _ hr bs p h b g L c w ht => fromTypeExpression_q b g L c p _ bs _ (h.head (by decide) (by decide) (by decide) (by decide) rfl (by decide)) e he hr _ rfl (h.byte (i := 1) (u := (choiceOf e.kind).toNat) (by simp) (ch_small _) (by decide) (by decide) (by decide) (by decide)) (h.kid (i := 2) (P := P) (s := s) (by simp) (by decide) (by decide)) ks ps hl.len hl.few hk hl.rd (h.vec (i := 3) (by simp) (by decide) (by decide)) w ht

end Go.Proofs.YtgceklahjdbipaaGreatDoor
