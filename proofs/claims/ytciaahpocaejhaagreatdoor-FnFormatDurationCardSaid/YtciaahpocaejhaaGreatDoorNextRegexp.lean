/- spec's lexer: the first token of an expression's literal. -/
import Derived.Test.YtciaahpocaejhaaGreatDoorLexRegexp
namespace Go.Proofs.YtciaahpocaejhaaGreatDoor
open Go Go.RowKit

set_option maxHeartbeats 2000000 in
set_option maxRecDepth 100000 in
theorem next_regexp (b : Nat) (s t : ByteArray) (k d : Int) (l : List UInt8) (hs : s.data.toList = [47] ++ escP l ++ [47]) (hl : ∀ c ∈ l, c ≠ 92 ∧ c ≠ 10) (hsz : s.size ≤ 10000)
    (h2 : ∀ q, q = 0 → q + 1 < s.size → ((s.extract q (q + 2)).toList == [47, 47]) = false) (w : World) (q : Nat) (hq0 : q = 0) (h : RdAt b s q k t d w) :
    Calls Tryz.prog 70 #[.pointer (some ⟨b, 0, none⟩), .bool true] w fun e w' => e = .returned (.agg #[.int .i64 6, .string ⟨l.toArray⟩]) ∧ RdAt b s s.size k t d w' ∧ w.grownBy w' (some b) := by
  have hlen : s.size = (escP l).length + 2 := by
    have := congrArg List.length hs
    simp at this
    omega
  have hp : q < s.size := by omega
  have e0 : s[q] = 47 := by rw [at_list s q hp, hs, hq0]; rfl
  have hlt := h.lt
  have h1 := h.alloc (.cells #[.int .i64 0, .string ⟨#[]⟩] 61)
  have hB := Lib.hid (blank_no b q s t k d _ h1 hp (by omega) (by rw [e0]; rfl) (by rw [e0]; rfl) (by rw [e0]; rfl) (by rw [e0]; rfl) (h2 q hq0))
  have hk0 : (w.alloc (.cells #[.int .i64 0, .string ⟨#[]⟩] 61)).heap[w.heap.size]? = some (.cells #[.int .i64 0, .string ⟨#[]⟩] 61 (0, 0)) := heap_alloc_new w _
  have H1 := Lib.hid h1
  have HK := Lib.hid hk0
  have hge : ¬ (s.size : Int) ≤ (q : Int) := by omega
  have hlt1 : (q : Int) < s.size := by omega
  have hin : (0 : Int) ≤ q ∧ (q : Int) < s.size := by omega
  have HQ := Lib.hid hq0
  have hl65 : s[q].toNat < 65 := by rw [e0]; decide
  have m46 : ((s[q].toNat : Int) == 46) = false := by rw [e0]; rfl
  have m34 : ((s[q].toNat : Int) == 34) = false := by rw [e0]; rfl
  have m47 : ((s[q].toNat : Int) == 47) = true := by rw [e0]; rfl
  have hdg : decide (48 ≤ s[q].toNat ∧ s[q].toNat ≤ 57) = false := by rw [e0]; rfl
  have HS := Lib.hid hs
  have HLN := Lib.hid hlen
  clear h h1 hk0 hs h2 hlen e0 hq0
  go_enter Tryz.func70, Tryz.ntmps70
  go_wp2_with fail
  ((with_reducible refine hB.out.mono ?_))
  rintro e w1 ⟨rfl, hb1⟩
  have h3 := H1.out.below hb1
  have c0 := h3.c0
  have c1 : w1.cell? ⟨b, 1, none⟩ = some (.int .i64 q) := h3.c1
  have k1 := (hb1.block _ (Array.getElem?_eq_some_iff.1 HK.out).1).trans HK.out
  have HB1 := Lib.hid hb1
  have H3 := Lib.hid h3
  have K1 := Lib.hid k1
  clear hb1 h3 k1
  go_wp2
  go_quiet (fail)
  go_wp2_with fail
  refine (letter_no b q s (w1.drewN _) c0 hp hl65).mono ?_
  rintro e w2 ⟨rfl, hw2⟩
  have c0' : w2.cell? ⟨b, 0, none⟩ = some (.string s) := by rw [hw2]; exact c0
  have c1' : w2.cell? ⟨b, 1, none⟩ = some (.int .i64 q) := by rw [hw2]; exact c1
  have hb2 : Below w1.heap.size w1 w2 := by rw [hw2]; exact below_drewN (Below.refl _ w1) _
  clear hw2 c0 c1
  have hDg : ∀ n, Calls Tryz.prog 84 #[.pointer (some ⟨b, 0, none⟩), .int .i64 q] (w2.drewN n) fun e w' => e = .returned (.bool false) ∧ w' = w2.drewN n := fun n => by
    have h := digit_any b q s (w2.drewN n) c0' hp
    rwa [hdg] at h
  go_wp2_with fail
  go_quiet ((go_at_call 84; refine Calls.quiet_of_same (hDg _)))
  go_wp2
  go_quiet (fail)
  go_wp2
  go_quiet (fail)
  go_wp2_with fail
  have h5 : RdAt b s q k t d w2 := H3.out.below hb2
  have k5 := (hb2.block _ (Array.getElem?_eq_some_iff.1 K1.out).1).trans K1.out
  rw [HQ.out] at h5
  refine (regexp_any b s t k d l HS.out hl hsz (w2.drewN _) h5).mono ?_
  rintro e w6 ⟨rfl, h6, g6⟩
  have k6 : w6.heap[w.heap.size]? = _ := (g6.block _ (Array.getElem?_eq_some_iff.1 k5).1 (by intro e; cases e; omega)).trans k5
  have z0 : w6.cell? ⟨w.heap.size, 0, none⟩ = some (.int .i64 0) := by rw [Lib.cell_of_heap k6]; rfl
  have z1 : w6.cell? ⟨w.heap.size, 1, none⟩ = some (.string ⟨#[]⟩) := by rw [Lib.cell_of_heap k6]; rfl
  have y0 := Lib.frozen_of_heap k6 0
  have y1 := Lib.frozen_of_heap k6 1
  have HH6 := Lib.hid h6
  have HG6 := Lib.hid g6
  have HB2 := Lib.hid hb2
  clear h6 g6 k6 hb2 h5 k5 c0' c1' hDg
  go_wp2
  refine bodyPost_ret (v := .agg #[.int .i64 6, .string ⟨l.toArray⟩]) (by simp [results, Tryz.results70, go_sem, z0, z1]) rfl ⟨rfl, ?_, ?_⟩
  · exact row_kept (row_kept HH6.out _ _ _ (by omega)) _ _ _ (by omega)
  · have g1 : w.grownBy w1 (some b) := Lib.grownBy_below (World.grownBy_alloc w _ (some b)) HB1.out
    have g2 : w.grownBy w2 (some b) := Lib.grownBy_below g1 HB2.out
    exact grownBy_new (grownBy_new (Lib.grownBy_trans (grownBy_drewN g2 _) HG6.out) (Nat.le_refl _) _ _) (Nat.le_refl _) _ _

end Go.Proofs.YtciaahpocaejhaaGreatDoor
