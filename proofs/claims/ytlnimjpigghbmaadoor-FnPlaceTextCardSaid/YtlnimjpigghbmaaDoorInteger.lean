/- FnFormatInteger: what FormatInteger writes: the decimal digits, behind a minus sign below 0. -/
import Derived.Test.YtlnimjpigghbmaaDoorFmt
import Derived.Test.YtlnimjpigghbmaaDoorDigits
import Derived.Lib.ItoaLen
import Derived.ShutString
import Derived.OpenShut
import Derived.LaidHandle
import Derived.Stop.LaidErr
import Derived.Lib.LaidTab
namespace Go.Proofs.YtlnimjpigghbmaaDoor
open Go Go.RowKit Go.Shelf

theorem itoa_ne (v : Int) : Lib.itoa v ≠ [] := by
  have h : ∀ u, Lib.decDigits u ≠ [] := fun u => by rw [decDigits_step]; simp
  unfold Lib.itoa
  split
  · simp
  · exact h _

theorem below_more (w : World) (q : Nat) (os : Array Obj) : Below w.heap.size w (Sort.grow (w.drewN q) os) :=
  ⟨rfl, rfl, rfl, by simp [Sort.grow], fun k hk => by
    show (w.heap ++ os)[k]? = w.heap[k]?
    rw [Array.getElem?_append_left hk]⟩

theorem itoa_21 (v : Int) (h0 : -9223372036854775808 ≤ v) (h1 : v ≤ 9223372036854775807) : (Lib.itoa v).length ≤ 21 := Lib.itoa_length_le v h0 h1

theorem formatIntegerLiteral_any (b bf nb : Nat) (ind : Int) (v : Int) (w : World) (h0 : -9223372036854775808 ≤ v) (h1 : v ≤ 9223372036854775807) (h : FmAt b bf ind [] w) (hc : w.cell? ⟨nb, 3, none⟩ = some (.int .i64 v))
    (htab : Lib.TabIs Tryd.prog w "internal/strconv.uint64pow10" .u64 Lib.pow10Tab) :
    Calls Tryd.prog 25 #[.pointer (some ⟨bf, 0, none⟩), .pointer (some ⟨nb, 0, none⟩)] w fun e w' => e = .returned (.tuple #[]) ∧ FmAt b bf ind (Lib.byteCells (Lib.itoa v)) w' ∧ Below b w w' := by
  have HH := Lib.hid h
  have HT := Lib.hid htab
  have hl := itoa_21 v h0 h1
  clear h htab
  go_enter Tryd.func25, Tryd.ntmps25
  go_wp2_with fail
  refine (Tryd.strconv_FormatInt_10 v h0 h1 _ HT.out).mono ?_
  rintro e w1 ⟨rfl, q, os, rfl⟩
  have hb1 := below_more w q os
  have HF := Lib.hid (HH.out.below hb1)
  go_wp2_with fail
  refine (writeString_any b bf ind [] ⟨(Lib.itoa v).toArray⟩ _ HF.out ?_).mono ?_
  · rw [List.length_nil, size_of_list]
    omega
  rintro e w2 ⟨rfl, h2, hb2⟩
  have H2 := Lib.hid h2
  clear h2
  have hlt := HH.out.lt
  go_wp2
  go_end0
  refine ⟨rfl, ?_, (hb1.mono (by omega)).trans hb2⟩
  have h := H2.out
  simpa [Lib.strCells, Lib.byteCells] using h

theorem closureInteger_any (b bf cb nb : Nat) (ind : Int) (v : Int) (w : World) (h0 : -9223372036854775808 ≤ v) (h1 : v ≤ 9223372036854775807) (h : FmAt b bf ind [] w) (hc : w.cell? ⟨cb, 0, none⟩ = some (.pointer (some ⟨nb, 0, none⟩))) (hn : w.cell? ⟨nb, 3, none⟩ = some (.int .i64 v))
    (htab : Lib.TabIs Tryd.prog w "internal/strconv.uint64pow10" .u64 Lib.pow10Tab) :
    Calls Tryd.prog 24 #[.pointer (some ⟨bf, 0, none⟩), .pointer (some ⟨cb, 0, none⟩)] w fun e w' => e = .returned (.tuple #[]) ∧ FmAt b bf ind (Lib.byteCells (Lib.itoa v)) w' ∧ Below b w w' := by
  have HH := Lib.hid h
  have HT := Lib.hid htab
  clear h htab
  go_enter Tryd.func24, Tryd.ntmps24
  go_wp2_with fail
  refine (formatIntegerLiteral_any b bf nb ind v _ h0 h1 HH.out hn HT.out).mono ?_
  rintro e w1 ⟨rfl, h2, hb1⟩
  have H1 := Lib.hid h2
  clear h2
  go_wp2
  go_end0
  exact ⟨rfl, H1.out, hb1⟩

/-- The table of powers, out of a row's list at whose head it stands. -/
theorem pow_tab {W : World} {rest : List (String × DataW Unit)} (h : laidMet Tryd.prog (("internal/strconv.uint64pow10", Rows.laid_internal_strconv_uint64pow10) :: rest) W) : Lib.TabIs Tryd.prog W "internal/strconv.uint64pow10" .u64 Lib.pow10Tab :=
  Lib.tabIs_of_head (k := .u64) (zs := Lib.pow10Tab) (rest := rest) (g := 3) (t := 100) (e := 28) (by kernel_rfl) (by kernel_rfl) Tryd.underlying100 Tryd.underlying28 (by kernel_rfl) (by kernel_rfl) h

theorem tab_below {w w' : World} (h : Lib.TabIs Tryd.prog w "internal/strconv.uint64pow10" .u64 Lib.pow10Tab) (hb : Below w.heap.size w w') : Lib.TabIs Tryd.prog w' "internal/strconv.uint64pow10" .u64 Lib.pow10Tab := by
  have hg : Tryd.prog.globalNamed "internal/strconv.uint64pow10" = some 3 := by kernel_rfl
  unfold Lib.TabIs World.var? at h ⊢
  rw [hg] at h ⊢
  simp only [Option.bind_some] at h ⊢
  have hlt : 3 < w.heap.size := by
    rcases Nat.lt_or_ge 3 w.heap.size with h' | h'
    · exact h'
    · rw [Array.getElem?_eq_none h'] at h; cases h
  rw [hb.block _ hlt]
  exact h

theorem formatIntegerLiteral_inner (nb : Nat) (v : Int) (w : World) (h0 : -9223372036854775808 ≤ v) (h1 : v ≤ 9223372036854775807) (hnb : nb < w.heap.size) (hn : w.cell? ⟨nb, 3, none⟩ = some (.int .i64 v))
    (htab : Lib.TabIs Tryd.prog w "internal/strconv.uint64pow10" .u64 Lib.pow10Tab) :
    Calls Tryd.prog 18 #[.pointer (some ⟨nb, 0, none⟩)] w fun e w' => e = .returned (.string ⟨(Lib.itoa v).toArray⟩) ∧ Below w.heap.size w w' := by
  have hmf : ∀ (fn : Fn) (first cap : Array Value) (w : World), (Instr.makeFunc fn first cap).run Tryd.prog w = .ok (.func fn first cap) w := fun _ _ _ _ => rfl
  have hb0 : Below w.heap.size w (w.alloc (.cells #[.pointer (some ⟨nb, 0, none⟩)] 48)) := (Below.refl _ w).alloc (Nat.le_refl _) _
  have hc : (w.alloc (.cells #[.pointer (some ⟨nb, 0, none⟩)] 48)).cell? ⟨w.heap.size, 0, none⟩ = some (.pointer (some ⟨nb, 0, none⟩)) := by rw [World.cell?_alloc_at _ _ _ _ rfl]; rfl
  have H0 := Lib.hid hc
  have HT := Lib.hid htab
  have HN := Lib.hid hn
  clear hc htab hn
  go_enter Tryd.func18, Tryd.ntmps18
  go_wp2_with fail
  refine (written_any 24 (enters_of Tryd.func24 (by kernel_rfl) rfl) ⟨w.heap.size, 0, none⟩ 0 (Lib.itoa v) (itoa_ne v) _ ?_).mono ?_
  · intro W hf hbW
    have hbw := hb0.trans (hbW.mono (by simp))
    refine (closureInteger_any _ _ w.heap.size nb 0 v W h0 h1 hf ((hbW.cell (p := ⟨w.heap.size, 0, none⟩) (by simp)).trans H0.out) ((hbw.cell (p := ⟨nb, 3, none⟩) hnb).trans HN.out) (tab_below HT.out hbw)).mono ?_
    exact fun e W' h => h
  rintro e w1 ⟨rfl, hb1⟩
  go_wp2
  go_ret
  exact ⟨rfl, hb0.trans (hb1.mono (by simp))⟩

theorem formatInteger_any (v : Int) (w : World) (h0 : -9223372036854775808 ≤ v) (h1 : v ≤ 9223372036854775807)
    (htab : Lib.TabIs Tryd.prog w "internal/strconv.uint64pow10" .u64 Lib.pow10Tab) :
    Calls Tryd.prog 11 #[.int .i64 v] w fun e w' => e = .returned (.string ⟨(Lib.itoa v).toArray⟩) ∧ Below w.heap.size w w' := by
  have HT := Lib.hid htab
  clear htab
  go_enter Tryd.func11, Tryd.ntmps11
  go_wp2_with fail
  have hb0 : Below w.heap.size w (w.alloc (.cells #[.pointer none, .slice none 0 0, .slice none 0 0, .int .i64 v] 55)) := (Below.refl _ w).alloc (Nat.le_refl _) _
  refine (formatIntegerLiteral_inner w.heap.size v _ h0 h1 (by simp) (by rw [World.cell?_alloc_at _ _ _ _ rfl]; rfl) (tab_below HT.out hb0)).mono ?_
  rintro e w1 ⟨rfl, hb1⟩
  go_wp2
  go_ret
  exact ⟨rfl, hb0.trans (hb1.mono (by simp))⟩

set_option maxHeartbeats 2000000 in
set_option maxRecDepth 100000 in
theorem formatInteger_law (v : Int) (w : World) (h0 : -9223372036854775808 ≤ v) (h1 : v ≤ 9223372036854775807)
    (htab : Lib.TabIs Tryd.prog w "internal/strconv.uint64pow10" .u64 Lib.pow10Tab) :
    Calls Tryd.prog 5 #[.int .i64 v] w fun e w' => e = .returned (.bool true) ∧ Below w.heap.size w w' := by
  have HT := Lib.hid htab
  clear htab
  by_cases hv : v < 0
  · obtain ⟨m, rfl⟩ : ∃ m : Nat, v = -(m : Int) := ⟨v.natAbs, by omega⟩
    obtain ⟨u, hu, hul⟩ : ∃ u : Nat, IntKind.u64.wrap (-(m : Int)) = (u : Int) ∧ u < 18446744073709551616 ∧ IntKind.u64.wrap (-(u : Int)) = (m : Int) := by
      refine ⟨18446744073709551616 - m, ?_, by omega, ?_⟩
      · rw [IntKind.wrap_u64]; omega
      · rw [IntKind.wrap_u64]; omega
    have hm : IntKind.u64.wrap (-(u : Int)) = (m : Int) := hul.2
    have HUL := Lib.hid hul.1
    clear hul
    go_enter Tryd.func5, Tryd.ntmps5
    go_wp2_with fail
    refine (digits_any u HUL.out _).mono ?_
    rintro e w1 ⟨rfl, hb1⟩
    go_wp2_with fail
    obtain ⟨d, hd⟩ : ∃ d : ByteArray, d = ⟨(Lib.decDigits m).toArray⟩ := ⟨_, rfl⟩
    have hdl : d.size ≤ 20 := by rw [hd, size_of_list]; exact decDigits_20 m (by omega)
    have hit : (⟨(Lib.itoa (-(m : Int))).toArray⟩ : ByteArray) = ⟨#[45]⟩ ++ d := by
      apply Go.WideShapes.bytes_inj
      rw [hd]
      unfold Lib.itoa
      rw [if_pos hv]
      simp
    have hdig := fun w => digits_any m (by omega) w
    rw [← hd] at hdig
    have hfi := fun w => formatInteger_any (-(m : Int)) w h0 h1
    rw [hit] at hfi
    have HFI := Lib.hid hfi
    clear hd hit hfi
    refine (hdig _).mono ?_
    clear hdig
    rintro e w2 ⟨rfl, hb2⟩
    have hb12 := hb1.trans (hb2.mono hb1.size)
    go_wp2_with fail
    refine (HFI.out _ (tab_below HT.out hb12)).mono ?_
    rintro e w3 ⟨rfl, hb3⟩
    go_wp2
    go_ret
    exact ⟨rfl, hb12.trans (hb3.mono hb12.size)⟩
  · obtain ⟨m, rfl⟩ : ∃ m : Nat, v = (m : Int) := ⟨v.toNat, by omega⟩
    have hu : IntKind.u64.wrap (m : Int) = (m : Int) := IntWalk.u64_in _ (by omega)
    go_enter Tryd.func5, Tryd.ntmps5
    go_wp2_with fail
    refine (digits_any m (by omega) _).mono ?_
    rintro e w1 ⟨rfl, hb1⟩
    go_wp2_with fail
    refine (formatInteger_any (m : Int) _ h0 h1 (tab_below HT.out hb1)).mono ?_
    rintro e w2 ⟨rfl, hb2⟩
    rw [show Lib.itoa (m : Int) = Lib.decDigits m by unfold Lib.itoa; rw [if_neg (by omega)]; simp]
    go_wp2
    go_ret
    exact ⟨rfl, hb1.trans (hb2.mono hb1.size)⟩

theorem formatInteger_walk (W : World) (hL : laidMetH Tryd.prog Rows.fnFormatIntegerRow.laid W) (v : Int) (hv : (Lit.int .i64 v).wf = true) :
    Calls Tryd.prog 5 #[.int .i64 v] W fun e W' => e = .returned (.bool true) ∧ Below W.heap.size W W' := by
  have hb : -9223372036854775808 ≤ v ∧ v ≤ 9223372036854775807 := bounds_i64 hv
  exact formatInteger_law v W hb.1 hb.2 (pow_tab hL.tail.tail)

end Go.Proofs.YtlnimjpigghbmaaDoor
