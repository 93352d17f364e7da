/- spec's maker of flatbuffers: bytes put over others within a region that draws. -/
import Derived.Test.YtdillheepidncaaGreatDoorMakerText
namespace Go.Proofs.YtdillheepidncaaGreatDoor
open Go Go.RowKit
set_option linter.unusedVariables false
set_option linter.unusedSimpArgs false

theorem patch_facts {w : World} {base g p n cap : Nat} {e : TypeId} {l bs : List UInt8} (hown : w.ownsRow base e 1 (.slice (some ⟨g, 0, none⟩) n cap) n (Lib.byteCells l)) (hfit : p + bs.length ≤ n) :
    ∃ cur : Array Value, w.heap[g]? = some (.cells cur e (0, 0)) ∧ p + (Lib.byteCells bs).length ≤ cur.size ∧
      (w.setRow g (cur.toList.take p ++ (Lib.byteCells bs ++ cur.toList.drop (p + (Lib.byteCells bs).length))).toArray).ownsRow base e 1 (.slice (some ⟨g, 0, none⟩) n cap) n (Lib.byteCells (patch l p bs)) ∧
      w.grownBy (w.setRow g (cur.toList.take p ++ (Lib.byteCells bs ++ cur.toList.drop (p + (Lib.byteCells bs).length))).toArray) (some g) := by
  rcases hown.2 with ⟨h', _⟩ | ⟨g', cap', cur, h', hb, hg, hnc, hcm, hcs, htake⟩
  · simp at h'
  · simp only [Value.slice.injEq, Option.some.injEq, Addr.mk.injEq, and_true, true_and] at h'
    obtain ⟨rfl, rfl⟩ := h'
    rw [Nat.mul_one] at hcs htake
    have hbl : (Lib.byteCells bs).length = bs.length := Lib.byteCells_length bs
    refine ⟨cur, hg, by rw [hbl]; omega, ?_, ?_⟩
    · rw [hbl]
      refine ⟨?_, .inr ⟨g, cap, _, rfl, hb, setRow_heap w g cur _ e _ hg, hnc, hcm, ?_, ?_⟩⟩
      · have h1 := hown.1
        rw [Lib.byteCells_length] at h1 ⊢
        rw [patch_length _ _ _ (by omega)]
        exact h1
      · simp only [List.size_toArray, List.length_append, List.length_take, List.length_drop, Array.length_toList, hbl]
        omega
      · rw [byteCells_patch, Nat.mul_one]
        simp only [← htake]
        rw [List.take_append, List.take_append]
        simp only [List.length_take, Array.length_toList, hbl]
        rw [List.take_take, List.take_take, List.drop_take, show min p cur.size = p by omega, show min n p = min p n by omega, show n - p - bs.length = n - (p + bs.length) by omega, List.take_of_length_le (l := Lib.byteCells bs) (by rw [hbl]; omega)]
    · exact ⟨rfl, rfl, rfl, by simp, fun k _ hk => setRow_other w g k _ (fun e => hk (by simp [e]))⟩

section
variable {ops : Array Oper} {o : Oper} {a : Act} {w : World} {K : Act → World → Prop} {Q : Exit → Act → World → Prop} {E : Prop}

/-- Bytes are put over others in the maker's row, at a step of a region that draws. -/
theorem step_mk_copy (hgd : o.guard = none) (d s : Operand) (ho : o.op = .call { callee := .builtin .copy, args := #[d, s], argTypes := #[30, 30] })
    (M : Nat) (base : Bool) (out : List UInt8) (L : Nat) (hL : out.length = L) (g c : Nat) (hm : MkRow M base out (.slice (some ⟨g, 0, none⟩) L c) w)
    (p dLen dCap : Nat) (hd : a.eval d = .slice (some ⟨g, p, none⟩) dLen dCap) (bs : List UInt8) (k : Nat) (hk : bs.length = k) (hdl : k ≤ dLen) (hfit : p + k ≤ L)
    (ad : Addr) (sCap : Nat) (hs : a.eval s = .slice (some ad) k sCap) (hsrc : BytesIn w ad bs) (x : Int) (hx : x = (k : Int))
    (h : ∀ w', MkRow M base (patch out p bs) (.slice (some ⟨g, 0, none⟩) L c) w' → (∀ w0, Moves M w0 w → Moves M w0 w') → K (a.put o.dst (.int .i64 x)) w') :
    if Region.wanted o (yielded ops a.tmps) = true then Oper.wp Tryz.prog o a w K Q else E := by
  have hw : Region.wanted o (yielded ops a.tmps) = true := by simp [Region.wanted, hgd]
  rw [if_pos hw]
  subst hx
  subst hk
  have hpl : (patch out p bs).length = L := by rw [patch_length _ _ _ (by omega), hL]
  subst hL
  have hbl : (Lib.byteCells bs).length = bs.length := Lib.byteCells_length bs
  obtain ⟨cur, hg, hcs, hown, hgr⟩ := patch_facts hm.2.1 hfit
  have hrun := run_copy_row (P := Tryz.prog) w 30 30 o.type 5 g p dLen dCap ad bs.length sCap cur 5 (Lib.byteCells bs) Tryz.underlying30 (by kernel_rfl) hg (by rw [hbl]; exact (Nat.min_eq_left hdl).symm) hsrc hcs (byteCells_one bs)
  have hM := hm.lt
  have hne : some M ≠ some g := fun e => hm.2.2 (by rw [e]; rfl)
  have hrow : MkRow M base (patch out p bs) (.slice (some ⟨g, 0, none⟩) out.length c) (w.setRow g (cur.toList.take p ++ (Lib.byteCells bs ++ cur.toList.drop (p + (Lib.byteCells bs).length))).toArray) :=
    ⟨(hgr.block M hM hne).trans hm.1, by rw [hpl]; exact hown, hm.2.2⟩
  have hres := h _ hrow fun w0 h0 => h0.over hm.c0 hgr hM hne
  unfold Oper.wp
  simp [execOp, ho, resolve, invoke, builtin, hd, hs, hrun, Result.andThen, hbl]
  simp [hbl] at hres
  exact hres
end

theorem equalIn_nil (W : World) : (Op.equal 251 .nilFunc .nilFunc).run Tryz.prog W = .ok true W := by
  have h : ∀ d : Nat, (Op.equalIn (d + 1) 251 .nilFunc .nilFunc).run Tryz.prog W = .ok true W := fun d => by
    simp [Op.equalIn, run_underlying Tryz.underlying251]
  exact h 9999
theorem equalIn_func (fn : Fn) (first cap : Array Value) (W : World) : (Op.equal 251 (.func fn first cap) .nilFunc).run Tryz.prog W = .ok false W := by
  have h : ∀ d : Nat, (Op.equalIn (d + 1) 251 (.func fn first cap) .nilFunc).run Tryz.prog W = .ok false W := fun d => by
    simp [Op.equalIn, run_underlying Tryz.underlying251]
  exact h 9999
theorem eql_nil (W : World) : (binOp .eql 251 .nilFunc .nilFunc).run Tryz.prog W = .ok (.bool true) W := by
  simp [binOp, equalIn_nil]
theorem eql_func (fn : Fn) (first cap : Array Value) (W : World) : (binOp .eql 251 (.func fn first cap) .nilFunc).run Tryz.prog W = .ok (.bool false) W := by
  simp [binOp, equalIn_func]
theorem neq_nil (W : World) : (binOp .neq 251 .nilFunc .nilFunc).run Tryz.prog W = .ok (.bool false) W := by
  simp [binOp, equalIn_nil]
theorem neq_func (fn : Fn) (first cap : Array Value) (W : World) : (binOp .neq 251 (.func fn first cap) .nilFunc).run Tryz.prog W = .ok (.bool true) W := by
  simp [binOp, equalIn_func]

end Go.Proofs.YtdillheepidncaaGreatDoor
