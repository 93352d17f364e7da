/- What strconv.FormatInt needs and gives. -/
import Derived.Test.YtciaahpocaejhaaGreatDoorFmt
import Derived.Test.YtciaahpocaejhaaGreatDoorDec
import Derived.Lib.ItoaLen
import Derived.ShutString
import Derived.OpenShut
import Derived.LaidHandle
import Derived.Stop.LaidErr
import Derived.Lib.LaidTab
namespace Go.Proofs.YtciaahpocaejhaaGreatDoor
open Go Go.RowKit Go.Shelf

theorem itoa_ne (v : Int) : Lib.itoa v ≠ [] := by
  have h : ∀ u, Lib.decDigits u ≠ [] := fun u => by rw [decDigits_step]; simp
  unfold Lib.itoa
  split
  · simp
  · exact h _

theorem below_more (w : World) (q : Nat) (os : Array Obj) : Below w.heap.size w (Sort.grow (w.drewN q) os) :=
  ⟨rfl, rfl, rfl, by simp [Sort.grow], fun k hk => by
    show (w.heap ++ os)[k]? = w.heap[k]?
    rw [Array.getElem?_append_left hk]⟩

theorem itoa_21 (v : Int) (h0 : -9223372036854775808 ≤ v) (h1 : v ≤ 9223372036854775807) : (Lib.itoa v).length ≤ 21 := Lib.itoa_length_le v h0 h1

/-- The table of powers, out of a row's list at whose head it stands. -/
theorem pow_tab {W : World} {rest : List (String × DataW Unit)} (h : laidMet Tryz.prog (("internal/strconv.uint64pow10", Rows.laid_internal_strconv_uint64pow10) :: rest) W) : Lib.TabIs Tryz.prog W "internal/strconv.uint64pow10" .u64 Lib.pow10Tab :=
  Lib.tabIs_of_head (k := .u64) (zs := Lib.pow10Tab) (rest := rest) (g := 3) (t := 171) (e := 23) (by kernel_rfl) (by kernel_rfl) Tryz.underlying171 Tryz.underlying23 (by kernel_rfl) (by kernel_rfl) h

theorem tab_below {w w' : World} (h : Lib.TabIs Tryz.prog w "internal/strconv.uint64pow10" .u64 Lib.pow10Tab) (hb : Below w.heap.size w w') : Lib.TabIs Tryz.prog w' "internal/strconv.uint64pow10" .u64 Lib.pow10Tab := by
  have hg : Tryz.prog.globalNamed "internal/strconv.uint64pow10" = some 3 := by kernel_rfl
  unfold Lib.TabIs World.var? at h ⊢
  rw [hg] at h ⊢
  simp only [Option.bind_some] at h ⊢
  have hlt : 3 < w.heap.size := by
    rcases Nat.lt_or_ge 3 w.heap.size with h' | h'
    · exact h'
    · rw [Array.getElem?_eq_none h'] at h; cases h
  rw [hb.block _ hlt]
  exact h

end Go.Proofs.YtciaahpocaejhaaGreatDoor
