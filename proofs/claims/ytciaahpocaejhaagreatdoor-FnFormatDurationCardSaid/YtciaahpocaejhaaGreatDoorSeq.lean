/- Arguments that are slices of numbers and of texts; laws.zzFits3. -/
import Derived.Test.YtciaahpocaejhaaGreatDoorPlain
import Derived.ProofKit
import Derived.OpenShut
import Derived.SliceStrings
import Derived.ChangeSlices
namespace Go.Proofs.YtciaahpocaejhaaGreatDoor
open Go Go.RowKit Go.ChangeShapes Go.WideShapes Go.ChangeAt
set_option linter.unusedVariables false
set_option linter.unusedSimpArgs false

/-- A slice in memory that reads as a list. -/
def SeqAt {α : Type} (f : α → Value) (w : World) (v : Value) (l : List α) : Prop :=
  ∃ a c, v = .slice a l.length c ∧ l.length ≤ maxLen ∧ (l = [] ∨ ∃ b o, a = some ⟨b, o, none⟩ ∧ b < w.heap.size ∧ ∀ j (hj : j < l.length), w.cell? ⟨b, o + j, none⟩ = some (f l[j]))

theorem SeqAt.below {α : Type} {f : α → Value} {w w' : World} {v : Value} {l : List α} (h : SeqAt f w v l) (hb : Below w.heap.size w w') : SeqAt f w' v l := by
  obtain ⟨a, c, h1, h2, h3⟩ := h
  refine ⟨a, c, h1, h2, ?_⟩
  rcases h3 with h3 | ⟨b, o, h3, h4, h5⟩
  · exact .inl h3
  · exact .inr ⟨b, o, h3, Nat.lt_of_lt_of_le h4 hb.size, fun j hj => (hb.cell (p := ⟨b, o + j, none⟩) h4).trans (h5 j hj)⟩

theorem plain_add {w : World} {x : Addr} {v : Value} (h : w.cell? x = some v) (i : Nat) : x.add i = ⟨x.block, x.off + i, none⟩ := by
  have e := addr_none h
  rw [e]
  exact add_at _ _ _

set_option maxRecDepth 100000 in
theorem ints_arg {H : Type} {enc : TypeId × Value → H} {W : World} {v : Value} {d : DataW H} {p : List MemPlace} (hv : Value.okWide Tryz.prog W .any 0 35 v) (h : DataW.Trod enc Tryz.prog W 0 (fun _ => true) true 35 v d p) :
    ∃ l : List Int, SeqAt (Value.int .i64) W v l ∧ ∀ x ∈ l, -9223372036854775808 ≤ x ∧ x ≤ 9223372036854775807 := by
  obtain ⟨A, len, cap, rfl⟩ := okWide_slice Tryz.underlying35 hv
  obtain ⟨fuel, hf⟩ := h
  rcases open_ints Tryz.underlying35 Tryz.underlying2 (by kernel_rfl) hf with ⟨hcs, _⟩ | ⟨x, l, c, zs, hcs, _, hl, hm, hz, _, hcell, hwz⟩
  · simp [Value.cells] at hcs
    obtain ⟨rfl, rfl, rfl⟩ := hcs
    exact ⟨[], ⟨none, 0, rfl, by simp, .inl rfl⟩, by simp⟩
  · simp [Value.cells] at hcs
    obtain ⟨rfl, rfl, rfl⟩ := hcs
    have hz' : zs.length = cap := by simpa using hz
    have hlt : (zs.take len).length = len := by rw [List.length_take, Nat.min_eq_left (by omega)]
    refine ⟨zs.take len, ⟨some x, cap, by rw [hlt], by omega, ?_⟩, fun y hy => ?_⟩
    · rcases Nat.eq_zero_or_pos len with h0 | h0
      · left; rw [h0]; rfl
      · right
        have h00 := hcell 0 (by omega)
        have hx : x = ⟨x.block, x.off, none⟩ := by
          have h1 := addr_none h00
          obtain ⟨b, o, s⟩ := x
          simpa [Addr.add] using h1
        have hc0 : W.cell? x = some (.int .i64 (zs.getD 0 0)) := by
          rw [hx] at h00 ⊢
          rwa [add_at, Nat.add_zero] at h00
        refine ⟨x.block, x.off, congrArg some hx, World.block_lt_of_cell? W _ hc0, fun j hj => ?_⟩
        rw [hlt] at hj
        have := hcell j (by omega)
        rw [hx, add_at] at this
        rw [this]
        simp [List.getD_eq_getElem?_getD, show j < zs.length by omega]
    · exact bounds_i64 (hwz y (List.mem_of_mem_take hy))

set_option maxRecDepth 100000 in
theorem strs_arg {H : Type} {enc : TypeId × Value → H} {W : World} {v : Value} {d : DataW H} {p : List MemPlace} (hv : Value.okWide Tryz.prog W .any 0 36 v) (h : DataW.Trod enc Tryz.prog W 0 (fun _ => true) true 36 v d p) :
    ∃ l : List ByteArray, SeqAt Value.string W v l ∧ ∀ x ∈ l, x.size ≤ maxLen := by
  obtain ⟨A, len, cap, rfl⟩ := okWide_slice Tryz.underlying36 hv
  obtain ⟨fuel, hf⟩ := h
  rcases open_strings Tryz.underlying36 Tryz.underlying9 (by kernel_rfl) hf with ⟨hcs, _⟩ | ⟨x, l, c, zs, hcs, _, hl, hm, hz, _, hcell, hwz⟩
  · simp [Value.cells] at hcs
    obtain ⟨rfl, rfl, rfl⟩ := hcs
    exact ⟨[], ⟨none, 0, rfl, by simp, .inl rfl⟩, by simp⟩
  · simp [Value.cells] at hcs
    obtain ⟨rfl, rfl, rfl⟩ := hcs
    have hz' : zs.length = cap := by simpa using hz
    have hlt : (zs.take len).length = len := by rw [List.length_take, Nat.min_eq_left (by omega)]
    refine ⟨zs.take len, ⟨some x, cap, by rw [hlt], by omega, ?_⟩, fun y hy => hwz y (List.mem_of_mem_take hy)⟩
    rcases Nat.eq_zero_or_pos len with h0 | h0
    · left; rw [h0]; rfl
    · right
      have h00 := hcell 0 (by omega)
      have hx : x = ⟨x.block, x.off, none⟩ := by
        have h1 := addr_none h00
        obtain ⟨b, o, s⟩ := x
        simpa [Addr.add] using h1
      have hc0 : W.cell? x = some (.string (zs.getD 0 ByteArray.empty)) := by
        rw [hx] at h00 ⊢
        rwa [add_at, Nat.add_zero] at h00
      refine ⟨x.block, x.off, congrArg some hx, World.block_lt_of_cell? W _ hc0, fun j hj => ?_⟩
      rw [hlt] at hj
      have := hcell j (by omega)
      rw [hx, add_at] at this
      rw [this]
      simp [List.getD_eq_getElem?_getD, show j < zs.length by omega]

set_option maxHeartbeats 2000000 in
set_option maxRecDepth 100000 in
theorem zzFits3_any (v : Value) (l : List ByteArray) (w : World) (h : SeqAt Value.string w v l) (hs : ∀ x ∈ l, x.size ≤ maxLen) :
    Calls Tryz.prog 13 #[v] w (HasB (l.length ≤ 2147483647) w) := by
  obtain ⟨a, c, rfl, hlen, hcells⟩ := h
  have HS := Lib.hid hs
  unfold maxLen at hlen
  clear hs
  by_cases hbig : 2147483647 < l.length
  · have hb1 : (2147483647 : Int) < l.length := by omega
    go_enter Tryz.func13, Tryz.ntmps13
    go_wp2
    go_ret
    exact ⟨false, rfl, (fun h => by cases h), rfl⟩
  · have hb1 : ¬ (2147483647 : Int) < l.length := by omega
    have HF : Hid (HasB (l.length ≤ 2147483647) w (.returned (.bool false)) w) := Lib.hid ⟨false, rfl, (fun h => by cases h), rfl⟩
    have HT : Hid (HasB (l.length ≤ 2147483647) w (.returned (.bool true)) w) := Lib.hid ⟨true, rfl, (fun h => by omega), rfl⟩
    go_enter Tryz.func13, Tryz.ntmps13
    go_wp2
    go_loop [10] (fun i => ∃ j : Nat, j ≤ l.length ∧ i = .int .i64 j) (fun i => l.length - (intOf i).toNat)
    case atStart => exact ⟨0, Nat.zero_le _, rfl⟩
    case round =>
      obtain ⟨j, hj, rfl⟩ := hrel
      by_cases hlt : j < l.length
      · obtain ⟨b, o, rfl, hbl, hcl⟩ : ∃ b o, a = some ⟨b, o, none⟩ ∧ b < w.heap.size ∧ ∀ j (hj : j < l.length), w.cell? ⟨b, o + j, none⟩ = some (.string l[j]) := by
          rcases hcells with rfl | h
          · simp at hlt
          · exact h
        have hc := hcl j hlt
        have hsj := HS.out l[j] (List.getElem_mem hlt)
        unfold maxLen at hsj
        clear hcl hcells
        generalize l[j] = q at *
        by_cases hq : 2147483647 < q.size
        · have hq1 : (2147483647 : Int) < q.size := by omega
          go_wp2
          go_ret
          exact HF.out
        · have hq1 : ¬ (2147483647 : Int) < q.size := by omega
          go_wp2
          go_round
          case rel => exact ⟨j + 1, by omega, by go_num⟩
          case measure => simp [intOf]; omega
      · clear hcells
        go_wp2
        go_ret
        exact HT.out

end Go.Proofs.YtciaahpocaejhaaGreatDoor
