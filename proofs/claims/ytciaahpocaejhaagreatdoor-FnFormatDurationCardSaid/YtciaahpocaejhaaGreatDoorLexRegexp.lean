/- spec's lexer: an expression's literal. -/
import Derived.Test.YtciaahpocaejhaaGreatDoorLex
import Derived.LoopTactic
namespace Go.Proofs.YtciaahpocaejhaaGreatDoor
open Go Go.RowKit

/-- A pattern as it stands between slashes. -/
def escP (l : List UInt8) : List UInt8 := l.flatMap fun c => if c = 47 then [92, 47] else [c]
theorem escP_append (a b : List UInt8) : escP (a ++ b) = escP a ++ escP b := by simp [escP]
theorem escP_le : ∀ l, l.length ≤ (escP l).length
  | [] => by simp [escP]
  | c :: l => by
    have := escP_le l
    show (c :: l).length ≤ (escP ([c] ++ l)).length
    rw [escP_append, List.length_append]
    have : 1 ≤ (escP [c]).length := by unfold escP; simp; split <;> simp
    simp; omega

def strLen : Value → Nat
  | .string x => x.size
  | _ => 0

theorem RdAt.put1 {b p : Nat} {s t : ByteArray} {k d : Int} {w : World} (h : RdAt b s p k t d w) (p' : Nat) : RdAt b s p' k t d (w.setCell ⟨b, 1, none⟩ (.int .i64 p')) := by
  unfold RdAt at h ⊢
  simp [World.setCell, Array.getElem?_modify, h]

theorem at_list (s : ByteArray) (k : Nat) (h : k < s.size) : s[k] = s.data.toList.getD k 0 := by
  have h' : k < s.data.toList.length := by simpa using h
  rw [List.getD, List.getElem?_eq_getElem h']
  rfl
theorem extract_one (s : ByteArray) (k : Nat) (h : k < s.size) : (s.extract k (k + 1)).data.toList = [s[k]] := by
  have h' : k < s.data.toList.length := by simpa using h
  rw [ByteArray.data_extract, Array.toList_extract, List.extract_eq_take_drop, Nat.add_sub_cancel_left, List.drop_eq_getElem_cons h']
  rfl

set_option maxHeartbeats 4000000 in
set_option maxRecDepth 100000 in
theorem regexp_any (b : Nat) (s t : ByteArray) (k d : Int) (l : List UInt8) (hs : s.data.toList = [47] ++ escP l ++ [47]) (hl : ∀ c ∈ l, c ≠ 92 ∧ c ≠ 10) (hsz : s.size ≤ 10000) (w : World) (h : RdAt b s 0 k t d w) :
    Calls Tryz.prog 92 #[.pointer (some ⟨b, 0, none⟩)] w fun e w' => e = .returned (.agg #[.int .i64 6, .string ⟨l.toArray⟩]) ∧ RdAt b s s.size k t d w' ∧ w.grownBy w' (some b) := by
  have hlen : s.size = (escP l).length + 2 := by
    have := congrArg List.length hs
    simp at this
    omega
  have hlt := h.lt
  have c1 := h.c1
  have f1 := h.fz 1
  have H1 := Lib.hid ((h.put1 1).alloc (.cells #[.int .i64 0, .string ⟨#[]⟩] 61))
  have G1 := Lib.hid (Lib.grownBy_allocR (Lib.grownBy_setCell w b 1 (.int .i64 (1 : Nat))) (.cells #[.int .i64 0, .string ⟨#[]⟩] 61))
  have HS := Lib.hid hs
  have HL := Lib.hid hl
  clear h hs hl
  go_enter Tryz.func92, Tryz.ntmps92
  go_wp2
  have K1 : ((w.setCell ⟨b, 1, none⟩ (.int .i64 1)).alloc (.cells #[.int .i64 0, .string ⟨#[]⟩] 61)).heap[w.heap.size]? = some (.cells #[.int .i64 0, .string ⟨#[]⟩] 61 (0, 0)) := by
    have := heap_alloc_new (w.setCell ⟨b, 1, none⟩ (.int .i64 1)) (.cells #[.int .i64 0, .string ⟨#[]⟩] 61)
    rwa [show (w.setCell ⟨b, 1, none⟩ (.int .i64 1)).heap.size = w.heap.size by simp [World.setCell]] at this
  have HK := Lib.hid K1
  clear K1 c1 f1
  go_loopw [3] (fun o wr => ∃ (pre post : List UInt8) (out : ByteArray), o = .string out ∧ Hid (pre ++ post = l) ∧ Hid (out.data.toList = pre) ∧ Hid (RdAt b s (1 + (escP pre).length) k t d wr) ∧ Hid (w.grownBy wr (some b)) ∧ Hid (wr.heap[w.heap.size]? = some (.cells #[.int .i64 0, .string ⟨#[]⟩] 61 (0, 0)))) (fun o _ => s.size - strLen o)
  case atStart => exact ⟨[], l, ⟨#[]⟩, rfl, Lib.hid rfl, Lib.hid rfl, H1, G1, HK⟩
  case round =>
    obtain ⟨pre, post, out, rfl, hpp, hout, hrd, hgr, hk⟩ := hrel
    have c0 := hrd.out.c0
    have c1 := hrd.out.c1
    have f1 := hrd.out.fz 1
    have hos : out.size = pre.length := by rw [← hout.out]; simp
    have hel : (escP pre).length + (escP post).length = (escP l).length := by rw [← List.length_append, ← escP_append, hpp.out]
    have hpl := escP_le pre
    obtain ⟨q, hq⟩ : ∃ q, q = 1 + (escP pre).length := ⟨_, rfl⟩
    have hqs : q < s.size := by omega
    have hdrop : s.data.toList.drop q = escP post ++ [47] := by
      rw [HS.out, ← hpp.out, escP_append, hq, List.append_assoc, List.append_assoc]
      rw [show 1 + (escP pre).length = ([47] ++ escP pre).length by simp; omega, ← List.append_assoc, List.drop_left]
    rw [← hq] at c1 hrd
    have hlt1 : (q : Int) < s.size := by omega
    have hge : (0 : Int) ≤ q ∧ (q : Int) < s.size := by omega
    have hge0 : (0 : Int) ≤ q := by omega
    have hw1 : IntKind.i64.wrap ((q : Int) + 1) = (q : Int) + 1 := by rw [IntKind.wrap_i64]; omega
    have hw2 : IntKind.i64.wrap ((q : Int) + 2) = (q : Int) + 2 := by rw [IntKind.wrap_i64]; omega
    have hat : ∀ j (hj : q + j < s.size), s[q + j] = (escP post ++ [47]).getD j 0 := fun j hj => by
      rw [at_list s _ hj, ← hdrop]
      simp [List.getD, List.getElem?_drop]
    cases post with
    | nil =>
      have e0 : s[q] = 47 := hat 0 hqs
      have n0 : ((s[q].toNat : Int) == 47) = true := by rw [e0]; rfl
      have n10 : ((s[q].toNat : Int) == 10) = false := by rw [e0]; rfl
      have n10' : ((s[q].toNat : Int) != 10) = true := by rw [e0]; rfl
      have hz : (escP ([] : List UInt8)).length = 0 := rfl
      have hn : s.size = q + 1 := by omega
      have HN := Lib.hid hn
      have HL2 := Lib.hid hlen
      have HO := Lib.hid hos
      have HQ := Lib.hid hq
      clear e0 hz hn hlen hos hq hpl
      have z0 : wr.cell? ⟨w.heap.size, 0, none⟩ = some (.int .i64 0) := by rw [Lib.cell_of_heap hk.out]; rfl
      have z1 : wr.cell? ⟨w.heap.size, 1, none⟩ = some (.string ⟨#[]⟩) := by rw [Lib.cell_of_heap hk.out]; rfl
      have y0 := Lib.frozen_of_heap hk.out 0
      have y1 := Lib.frozen_of_heap hk.out 1
      have hol : out = ⟨l.toArray⟩ := by
        apply Go.WideShapes.bytes_inj
        rw [hout.out, ← hpp.out]
        simp
      have HOL := Lib.hid hol
      clear hol
      clear hdrop hat hel
      go_wp2
      go_quiet (fail)
      go_wp2
      go_quiet (fail)
      go_wp2
      have hs1 : ((q : Int) + 1) = ((s.size : Nat) : Int) := by have := HN.out; omega
      refine bodyPost_ret (v := .agg #[.int .i64 6, .string out]) (by simp [results, Tryz.results92, go_sem, z0, z1]) rfl ⟨by rw [HOL.out], ?_, ?_⟩
      · rw [hs1]
        exact row_kept (row_kept (hrd.out.put1 s.size) _ _ _ (by omega)) _ _ _ (by omega)
      · exact grownBy_new (grownBy_new (Lib.grownBy_setB (grownBy_drewN hgr.out _) 1 _) (Nat.le_refl _) _ _) (Nat.le_refl _) _ _
    | cons c post =>
      have hc := HL.out c (by rw [← hpp.out]; simp)
      have hcs : escP (c :: post) = escP [c] ++ escP post := escP_append [c] post
      by_cases h47 : c = 47
      · have hE : (escP [c]).length = 2 := by rw [h47]; rfl
        have hq1 : q + 1 < s.size := by rw [hcs, List.length_append] at hel; omega
        have e0 : s[q] = 92 := by have := hat 0 hqs; rw [hcs, h47] at this; exact this
        have e1 : s[q + 1] = 47 := by have := hat 1 hq1; rw [hcs, h47] at this; exact this
        have m47 : ((s[q].toNat : Int) == 47) = false := by rw [e0]; rfl
        have m92 : ((s[q].toNat : Int) == 92) = true := by rw [e0]; rfl
        have m10 : ((s[q].toNat : Int) == 10) = false := by rw [e0]; rfl
        have m10' : ((s[q].toNat : Int) != 10) = true := by rw [e0]; rfl
        have r47 : ((s[q + 1].toNat : Int) == 47) = true := by rw [e1]; rfl
        have r47' : ((s[q + 1].toNat : Int) != 47) = false := by rw [e1]; rfl
        have hx := extract_one s (q + 1) hq1
        rw [e1, ← h47] at hx
        have hlt2 : (q : Int) + 1 < s.size := by omega
        have hge2 : (0 : Int) ≤ (q : Int) + 1 ∧ (q : Int) + 1 < s.size := by omega
        have hsl0 := fun W => run_slice_string (P := Tryz.prog) W 9 s .i64 .i64 ((q : Int) + 1) ((q : Int) + 2) Tryz.underlying9 (by omega) (by omega) (by omega)
        have hsl : ∀ W, (Instr.slice 9 (.string s) (some (.int .i64 ((q : Int) + 1))) (some (.int .i64 ((q : Int) + 2))) none).run Tryz.prog W = .ok (.string (s.extract (q + 1) (q + 1 + 1))) W := hsl0
        clear hsl0
        generalize s.extract (q + 1) (q + 1 + 1) = x at hx hsl
        have hxs : x.size = 1 := by
          have := congrArg List.length hx
          simpa using this
        have hnb : ¬ 9223372036854775807 < out.size + x.size := by omega
        have HE := Lib.hid hE
        have HL2 := Lib.hid hlen
        have HO := Lib.hid hos
        have HQ := Lib.hid hq
        have HX := Lib.hid hxs
        have HLT := Lib.hid (show out.size < s.size by omega)
        clear e0 e1 hlen hos hq hpl hxs hel hdrop hat hE hcs hc h47
        go_wp2
        go_quiet (fail)
        go_wp2
        go_quiet (fail)
        go_wp2
        go_quiet (fail)
        go_wp2
        go_quiet (fail)
        go_wp2
        go_quiet (fail)
        go_wp2
        go_roundw
        case rel =>
          refine ⟨pre ++ [c], post, out ++ x, rfl, Lib.hid (by rw [← hpp.out]; simp), Lib.hid (by simp [hout.out, hx]), Lib.hid ?_, Lib.hid (Lib.grownBy_setB (grownBy_drewN hgr.out _) 1 _), Lib.hid (row_kept hk.out b 1 _ (by omega))⟩
          have e : 1 + (escP (pre ++ [c])).length = q + 2 := by rw [escP_append, List.length_append, HE.out]; have := HQ.out; omega
          rw [e]
          exact hrd.out.put1 (q + 2)
        case measure =>
          have h1 := HO.out
          have h2 := HX.out
          have h3 := HLT.out
          have h4 : (out ++ x).size = out.size + x.size := by simp
          show s.size - (out ++ x).size < s.size - out.size
          omega
      · have hE : (escP [c]).length = 1 := by unfold escP; simp [h47]
        have hec : escP [c] = [c] := by unfold escP; simp [h47]
        have e0 : s[q] = c := by have := hat 0 hqs; rw [hcs, hec] at this; exact this
        have m47 : ((s[q].toNat : Int) == 47) = false := by
          rw [e0]; simp; intro h; apply h47; apply UInt8.toNat_inj.1; simp; omega
        have m92 : ((s[q].toNat : Int) == 92) = false := by
          rw [e0]; simp; intro h; apply hc.1; apply UInt8.toNat_inj.1; simp; omega
        have m10 : ((s[q].toNat : Int) == 10) = false := by
          rw [e0]; simp; intro h; apply hc.2; apply UInt8.toNat_inj.1; simp; omega
        have m10' : ((s[q].toNat : Int) != 10) = true := by simp at m10 ⊢; exact m10
        have hx := extract_one s q hqs
        rw [e0] at hx
        have hsl0 := fun W => run_slice_string (P := Tryz.prog) W 9 s .i64 .i64 (q : Int) ((q : Int) + 1) Tryz.underlying9 (by omega) (by omega) (by omega)
        have hsl : ∀ W, (Instr.slice 9 (.string s) (some (.int .i64 (q : Int))) (some (.int .i64 ((q : Int) + 1))) none).run Tryz.prog W = .ok (.string (s.extract q (q + 1))) W := hsl0
        clear hsl0
        generalize s.extract q (q + 1) = x at hx hsl
        have hxs : x.size = 1 := by
          have := congrArg List.length hx
          simpa using this
        have hnb : ¬ 9223372036854775807 < out.size + x.size := by omega
        have HE := Lib.hid hE
        have HL2 := Lib.hid hlen
        have HO := Lib.hid hos
        have HQ := Lib.hid hq
        have HX := Lib.hid hxs
        have HLT := Lib.hid (show out.size < s.size by omega)
        clear e0 hlen hos hq hpl hxs hel hdrop hat hE hec hcs hc h47
        go_wp2
        go_quiet (fail)
        go_wp2
        go_quiet (fail)
        go_wp2
        go_quiet (fail)
        go_wp2
        go_quiet (fail)
        go_wp2
        go_roundw
        case rel =>
          refine ⟨pre ++ [c], post, out ++ x, rfl, Lib.hid (by rw [← hpp.out]; simp), Lib.hid (by simp [hout.out, hx]), Lib.hid ?_, Lib.hid (Lib.grownBy_setB (grownBy_drewN hgr.out _) 1 _), Lib.hid (row_kept hk.out b 1 _ (by omega))⟩
          have e : 1 + (escP (pre ++ [c])).length = q + 1 := by rw [escP_append, List.length_append, HE.out]; have := HQ.out; omega
          rw [e]
          exact hrd.out.put1 (q + 1)
        case measure =>
          have h1 := HO.out
          have h2 := HX.out
          have h3 := HLT.out
          have h4 : (out ++ x).size = out.size + x.size := by simp
          show s.size - (out ++ x).size < s.size - out.size
          omega

end Go.Proofs.YtciaahpocaejhaaGreatDoor
