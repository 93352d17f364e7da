/- append(row of bytes, make([]byte, k)...): as of a text of zeros. -/
import Derived.Test.YtdillheepidncaaGreatDoorOwn2
import Derived.Lib.AppendZeros
namespace Go.Proofs.YtdillheepidncaaGreatDoor
open Go Go.RowKit
set_option linter.unusedVariables false
set_option linter.unusedSimpArgs false

section
variable {P : Program}

def zeroText (k : Nat) : ByteArray := ⟨Array.replicate k 0⟩
theorem zeroText_size (k : Nat) : (zeroText k).size = k := by
  show (Array.replicate k (0 : UInt8)).size = k
  simp
theorem zeroText_cells (k : Nat) : Lib.strCells (zeroText k) = Lib.byteCells (List.replicate k 0) := by
  show Lib.byteCells (Array.replicate k (0 : UInt8)).toList = _
  simp

theorem zeros_same (k : Nat) : ((zeroText k).extract 0 k).data.map (fun b => Value.int .u8 (b.toNat : Int)) = Builtin.zeroCells #[.int .u8 0] k := by
  have h : (zeroText k).extract 0 k = zeroText k := by
    have := ByteArray.extract_zero_size (b := zeroText k)
    rwa [zeroText_size] at this
  rw [h]
  apply Array.ext
  · simp [zeroText, Builtin.zeroCells]
  · intro i h1 h2
    simp [zeroText, Builtin.zeroCells, Nat.mod_one]

theorem zeros_same2 (k : Nat) : ((zeroText k).data.map (fun b => Value.int .u8 (b.toNat : Int))).extract 0 k = Builtin.zeroCells #[.int .u8 0] k := by
  apply Array.ext
  · simp [zeroText, Builtin.zeroCells]
  · intro i h1 h2
    simp [zeroText, Builtin.zeroCells, Nat.mod_one]

theorem zeros_same3 (k : Nat) : List.take k ((zeroText k).data.toList.map (fun b => Value.int .u8 (b.toNat : Int))) = (Builtin.zeroCells #[.int .u8 0] k).toList := by
  rw [← zeros_same2]
  simp

theorem append_zeros_eq (w : World) (t u tn ty e : TypeId) (i : TypeInfo) (kn kq : IntKind) (ht : P.underlying t = some (.slice e)) (hu : P.underlying u = some .string) (htn : P.underlying tn = some (.int kn)) (hi : P.info? e = some i) (hz : i.zero = some (.int .u8 0)) (hsize : i.size = 1) (hby : i.bytes = 1)
    (base : Option Addr) (sLen sCap k : Nat) (hk0 : 0 < k) (hbig : sLen + k ≤ 140737488355328) (hfit : Builtin.nextslicecap (sLen + k) sCap ≤ 281474976710656 ∨ sLen + k ≤ sCap) :
    (Builtin.append_ #[t, tn] ty #[.slice base sLen sCap, .int kq k]).run P w = (Builtin.append_ #[t, u] ty #[.slice base sLen sCap, .string (zeroText k)]).run P w := by
  have hw : IntKind.i64.wrap (k : Int) = k := by rw [IntKind.wrap_i64]; omega
  have hneg : ¬ ((k : Int) < 0) := by omega
  have h48 : ¬ (281474976710656 < (k : Int)) := by omega
  have h63 : ¬ (9223372036854775807 < ((sLen : Int) + (k : Int))) := by omega
  have hk : k ≠ 0 := by omega
  have hsz := zeroText_size k
  by_cases hroom : sLen + k ≤ sCap
  · simp [Builtin.append_, run_underlying ht, run_underlying htn, run_underlying hu, sizeOf, typeInfo, zeroValue, hi, hz, hsize, hby, asInt, asIntOf, hw, hneg, h48, h63, hk, hroom, hsz, Builtin.lenOf, Builtin.firstCells, Value.cells]
    simp only [zeros_same3]
  · have hfit' : ¬ (281474976710656 < Builtin.nextslicecap (sLen + k) sCap) := by
      rcases hfit with h | h
      · omega
      · exact absurd h hroom
    simp [Builtin.append_, run_underlying ht, run_underlying htn, run_underlying hu, sizeOf, typeInfo, zeroValue, hi, hz, hsize, hby, asInt, asIntOf, hw, hneg, h48, h63, hk, hroom, hfit', hsz, Builtin.lenOf, Builtin.firstCells, Value.cells]
    simp only [zeros_same2]

theorem wpList_append_zeros2 {w : World} {ops : Array Oper} {rest : List Oper} {o : Oper} {a : Act} {Q : Exit → Act → World → Prop} (hgd : o.guard = none) (sl x : Operand) (t tn u : TypeId)
    (ho : o.op = .call { callee := .builtin .append, args := #[sl, x], argTypes := #[t, tn] })
    (base : Nat) (e : TypeId) (i : TypeInfo) (kn kq : IntKind) (ht : P.underlying t = some (.slice e)) (hu : P.underlying u = some .string) (htn : P.underlying tn = some (.int kn)) (hi : P.info? e = some i) (hz : i.zero = some (.int .u8 0))
    (hsize : i.size = 1) (hby : i.bytes = 1)
    (ad : Option Addr) (cap n : Nat) (xs : List Value) (hs : a.eval sl = .slice ad n cap) (hown : w.ownsRow base e 1 (.slice ad n cap) n xs) (k : Nat) (hk0 : 0 < k) (hx : a.eval x = .int kq k)
    (hbig : n + k ≤ 1000000000) (hbase : base ≤ w.heap.size)
    (h : ∀ v' w', w'.ownsRow base e 1 v' (n + k) (xs ++ Lib.byteCells (List.replicate k 0)) → w.grownBy w' (Value.slice ad n cap).ownBlock → (v'.ownBlock = (Value.slice ad n cap).ownBlock ∨ ∃ g, v'.ownBlock = some g ∧ w.heap.size ≤ g) → wpList P ops Q rest (a.put o.dst v') w') : wpList P ops Q (o :: rest) a w := by
  refine wpList_plain hgd fun K hK => ?_
  have h63 : n + (zeroText k).size ≤ maxLen := by rw [zeroText_size]; unfold maxLen; omega
  have hbytes : n + (zeroText k).size ≤ 140737488355328 := by rw [zeroText_size]; omega
  obtain ⟨v', w', hr, h2, h3, h4⟩ := run_append_string2 (P := P) w base t u o.type e i ht hu hi hz hsize hby _ n xs hown (zeroText k) h63 hbytes hbase
  rw [zeroText_size, zeroText_cells] at h2
  have heq := append_zeros_eq (P := P) w t u tn o.type e i kn kq ht hu htn hi hz hsize hby ad n cap k hk0 (by omega) (by
    by_cases hroom : n + k ≤ cap
    · exact .inr hroom
    · left
      have := growslice_fits (need := n + k) (old := cap) (bytes := 1) (by omega) (by omega)
      omega)
  unfold Oper.wp execOp
  simp only [ho, resolve, invoke, builtin, Sem.run_bind, Sem.run_pure, Result.andThen_ok, List.map_toArray, List.map_cons, List.map_nil, hs, hx, heq, hr]
  exact hK _ _ (h v' w' h2 h3 h4)
end

end Go.Proofs.YtdillheepidncaaGreatDoor
