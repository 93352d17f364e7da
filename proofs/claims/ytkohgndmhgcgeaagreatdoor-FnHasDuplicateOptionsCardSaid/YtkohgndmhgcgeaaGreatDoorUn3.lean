/- impl.unnode over leaves. -/
import Derived.Test.YtkohgndmhgcgeaaGreatDoorUnL
namespace Go.Proofs.YtkohgndmhgcgeaaGreatDoor
open Go Go.RowKit
set_option linter.unusedVariables false
set_option linter.unusedSimpArgs false

theorem secs_of (z : Int) : (if z.tmod 1000000000 < 0 then z.tdiv 1000000000 - 1 else z.tdiv 1000000000) = z / 1000000000 ∧ (if z.tmod 1000000000 < 0 then z.tmod 1000000000 + 1000000000 else z.tmod 1000000000) = z % 1000000000 := by
  have h1 := Int.mul_tdiv_add_tmod z 1000000000
  have h2 := Int.mul_ediv_add_emod z 1000000000
  have h3 := Int.emod_nonneg z (show (1000000000 : Int) ≠ 0 by decide)
  have h4 := Int.emod_lt_of_pos z (show (0 : Int) < 1000000000 by decide)
  by_cases h0 : 0 ≤ z
  · have h5 := Int.tmod_nonneg (1000000000 : Int) h0
    have h6 := Int.tmod_lt_of_pos z (show (0 : Int) < 1000000000 by decide)
    rw [if_neg (by omega), if_neg (by omega)]
    omega
  · have h5 : (-z).tmod 1000000000 = -(z.tmod 1000000000) := Int.neg_tmod ..
    have h6 := Int.tmod_nonneg (1000000000 : Int) (show 0 ≤ -z by omega)
    have h7 := Int.tmod_lt_of_pos (-z) (show (0 : Int) < 1000000000 by decide)
    split <;> omega

set_option maxHeartbeats 2000000 in
theorem unix_any (z : Int) (hz : -9223372036854775808 ≤ z ∧ z ≤ 9223372036854775807) (w : World) :
    Calls Tryz.prog 55 #[.int .i64 0, .int .i64 z] w fun e w' => e = .returned (.agg #[.int .i64 (z / 1000000000), .int .i64 (z % 1000000000), .int .i64 0]) ∧ Below w.heap.size w w' := by
  have HB := Lib.hid (Below.refl w.heap.size w)
  obtain ⟨e1, e2⟩ := secs_of z
  have hd : -9223372037 ≤ z.tdiv 1000000000 ∧ z.tdiv 1000000000 ≤ 9223372037 := by
    have h1 := Int.mul_tdiv_add_tmod z 1000000000
    have h5 : (-z).tmod 1000000000 = -(z.tmod 1000000000) := Int.neg_tmod ..
    have h6 := Int.tmod_lt_of_pos z (show (0 : Int) < 1000000000 by decide)
    have h7 := Int.tmod_lt_of_pos (-z) (show (0 : Int) < 1000000000 by decide)
    omega
  have hm : -1000000000 < z.tmod 1000000000 ∧ z.tmod 1000000000 < 1000000000 := by
    have h5 : (-z).tmod 1000000000 = -(z.tmod 1000000000) := Int.neg_tmod ..
    have h6 := Int.tmod_lt_of_pos z (show (0 : Int) < 1000000000 by decide)
    have h7 := Int.tmod_lt_of_pos (-z) (show (0 : Int) < 1000000000 by decide)
    omega
  have w1 : IntKind.i64.wrap (z.tdiv 1000000000) = z.tdiv 1000000000 := by rw [IntKind.wrap_i64]; omega
  have w2 : IntKind.i64.wrap (z.tmod 1000000000) = z.tmod 1000000000 := by rw [IntKind.wrap_i64]; omega
  have w3 : IntKind.i64.wrap (z.tmod 1000000000 + 1000000000) = z.tmod 1000000000 + 1000000000 := by rw [IntKind.wrap_i64]; omega
  have w4 : IntKind.i64.wrap (z.tdiv 1000000000 - 1) = z.tdiv 1000000000 - 1 := by rw [IntKind.wrap_i64]; omega
  by_cases hn : z.tmod 1000000000 < 0
  · rw [if_pos hn] at e1 e2
    go_enter Tryz.func55, Tryz.ntmps55
    go_wp2
    refine bodyPost_ret (v := .agg #[.int .i64 (z / 1000000000), .int .i64 (z % 1000000000), .int .i64 0]) (by simp [results, Tryz.results55, go_sem]) rfl ⟨rfl, ?_⟩
    exact (Below.refl _ w).alloc (Nat.le_refl _) _
  · rw [if_neg hn] at e1 e2
    go_enter Tryz.func55, Tryz.ntmps55
    go_wp2
    refine bodyPost_ret (v := .agg #[.int .i64 (z / 1000000000), .int .i64 (z % 1000000000), .int .i64 0]) (by simp [results, Tryz.results55, go_sem]) rfl ⟨rfl, ?_⟩
    exact (Below.refl _ w).alloc (Nat.le_refl _) _

set_option maxHeartbeats 2000000 in
theorem newRegexp_any (t : ByteArray) (w : World) :
    Calls Tryz.prog 56 #[.string t] w fun e w' => ∃ r, e = .returned (pp r) ∧ w.heap.size ≤ r ∧ r < w'.heap.size ∧ w'.heap[r]? = some (.cells #[.string t] 262 (0, 0)) ∧ Below w.heap.size w w' := by
  have HB := Lib.hid ((Below.refl w.heap.size w).alloc (Nat.le_refl _) (.cells #[.string t] 262))
  have HR := Lib.hid (heap_alloc_new w (.cells #[.string t] 262))
  have HS := Lib.hid (alloc_size w (.cells #[.string t] 262))
  go_enter Tryz.func56, Tryz.ntmps56
  go_wp2
  go_ret
  exact ⟨w.heap.size, rfl, Nat.le_refl _, by rw [HS.out]; exact Nat.lt_succ_self _, HR.out, HB.out⟩


set_option maxHeartbeats 4000000 in
set_option maxRecDepth 100000 in
theorem un_k7 {N : Nat} (t : ByteArray) : UnH N (.mk 7 t ⟨#[]⟩ 0 []) := by
  intro v w hv hN
  obtain ⟨k', t', m', n', ks', a, c, he, rfl⟩ := hv.form
  injection he with e1 e2 e3 e4 e5
  subst e1 e2 e3 e4 e5
  have hb0 := (Below.refl w.heap.size w).alloc (Nat.le_refl _) (.cells #[.int .i64 7, .string t, .string ⟨#[]⟩, .int .u64 0, .slice a 0 c] 25)
  have HB := Lib.hid (hb0.alloc hb0.size (.cells #[.pointer none, .slice none 0 0, .slice none 0 0, .string t] 106))
  have HR : Hid (((w.alloc (.cells #[.int .i64 7, .string t, .string ⟨#[]⟩, .int .u64 0, .slice a 0 c] 25)).alloc (.cells #[.pointer none, .slice none 0 0, .slice none 0 0, .string t] 106)).heap[w.heap.size + 1]? = some (.cells #[.pointer none, .slice none 0 0, .slice none 0 0, .string t] 106 (0, 0))) := Lib.hid (by
    have := heap_alloc_new (w.alloc (.cells #[.int .i64 7, .string t, .string ⟨#[]⟩, .int .u64 0, .slice a 0 c] 25)) (.cells #[.pointer none, .slice none 0 0, .slice none 0 0, .string t] 106)
    rwa [alloc_size] at this)
  have HS : Hid (((w.alloc (.cells #[.int .i64 7, .string t, .string ⟨#[]⟩, .int .u64 0, .slice a 0 c] 25)).alloc (.cells #[.pointer none, .slice none 0 0, .slice none 0 0, .string t] 106)).heap.size = w.heap.size + 1 + 1) := Lib.hid (by rw [alloc_size, alloc_size])
  unfold nodeU
  clear hv hb0
  go_enter Tryz.func23, Tryz.ntmps23
  go_wp2
  go_ret
  exact ⟨_, rfl, .k7 t _ ⟨Nat.le_succ _, by rw [HS.out]; exact Nat.lt_succ_self _⟩ HR.out, HB.out⟩


set_option maxHeartbeats 4000000 in
set_option maxRecDepth 100000 in
theorem un_k31 {N : Nat} (t : ByteArray) : UnH N (.mk 31 t ⟨#[]⟩ 0 []) := by
  intro v w hv hN
  obtain ⟨k', t', m', n', ks', a, c, he, rfl⟩ := hv.form
  injection he with e1 e2 e3 e4 e5
  subst e1 e2 e3 e4 e5
  have hb0 := (Below.refl w.heap.size w).alloc (Nat.le_refl _) (.cells #[.int .i64 31, .string t, .string ⟨#[]⟩, .int .u64 0, .slice a 0 c] 25)
  have HB := Lib.hid (hb0.alloc hb0.size (.cells #[.pointer none, .slice none 0 0, .slice none 0 0, .string t] 205))
  have HR : Hid (((w.alloc (.cells #[.int .i64 31, .string t, .string ⟨#[]⟩, .int .u64 0, .slice a 0 c] 25)).alloc (.cells #[.pointer none, .slice none 0 0, .slice none 0 0, .string t] 205)).heap[w.heap.size + 1]? = some (.cells #[.pointer none, .slice none 0 0, .slice none 0 0, .string t] 205 (0, 0))) := Lib.hid (by
    have := heap_alloc_new (w.alloc (.cells #[.int .i64 31, .string t, .string ⟨#[]⟩, .int .u64 0, .slice a 0 c] 25)) (.cells #[.pointer none, .slice none 0 0, .slice none 0 0, .string t] 205)
    rwa [alloc_size] at this)
  have HS : Hid (((w.alloc (.cells #[.int .i64 31, .string t, .string ⟨#[]⟩, .int .u64 0, .slice a 0 c] 25)).alloc (.cells #[.pointer none, .slice none 0 0, .slice none 0 0, .string t] 205)).heap.size = w.heap.size + 1 + 1) := Lib.hid (by rw [alloc_size, alloc_size])
  unfold nodeU
  clear hv hb0
  go_enter Tryz.func23, Tryz.ntmps23
  go_wp2
  go_ret
  exact ⟨_, rfl, .k31 t _ ⟨Nat.le_succ _, by rw [HS.out]; exact Nat.lt_succ_self _⟩ HR.out, HB.out⟩


set_option maxHeartbeats 4000000 in
set_option maxRecDepth 100000 in
theorem un_k33 {N : Nat} (t : ByteArray) : UnH N (.mk 33 t ⟨#[]⟩ 0 []) := by
  intro v w hv hN
  obtain ⟨k', t', m', n', ks', a, c, he, rfl⟩ := hv.form
  injection he with e1 e2 e3 e4 e5
  subst e1 e2 e3 e4 e5
  have hb0 := (Below.refl w.heap.size w).alloc (Nat.le_refl _) (.cells #[.int .i64 33, .string t, .string ⟨#[]⟩, .int .u64 0, .slice a 0 c] 25)
  have HB := Lib.hid (hb0.alloc hb0.size (.cells #[.pointer none, .slice none 0 0, .slice none 0 0, .string t] 65))
  have HR : Hid (((w.alloc (.cells #[.int .i64 33, .string t, .string ⟨#[]⟩, .int .u64 0, .slice a 0 c] 25)).alloc (.cells #[.pointer none, .slice none 0 0, .slice none 0 0, .string t] 65)).heap[w.heap.size + 1]? = some (.cells #[.pointer none, .slice none 0 0, .slice none 0 0, .string t] 65 (0, 0))) := Lib.hid (by
    have := heap_alloc_new (w.alloc (.cells #[.int .i64 33, .string t, .string ⟨#[]⟩, .int .u64 0, .slice a 0 c] 25)) (.cells #[.pointer none, .slice none 0 0, .slice none 0 0, .string t] 65)
    rwa [alloc_size] at this)
  have HS : Hid (((w.alloc (.cells #[.int .i64 33, .string t, .string ⟨#[]⟩, .int .u64 0, .slice a 0 c] 25)).alloc (.cells #[.pointer none, .slice none 0 0, .slice none 0 0, .string t] 65)).heap.size = w.heap.size + 1 + 1) := Lib.hid (by rw [alloc_size, alloc_size])
  unfold nodeU
  clear hv hb0
  go_enter Tryz.func23, Tryz.ntmps23
  go_wp2
  go_ret
  exact ⟨_, rfl, .k33 t _ ⟨Nat.le_succ _, by rw [HS.out]; exact Nat.lt_succ_self _⟩ HR.out, HB.out⟩


set_option maxHeartbeats 4000000 in
set_option maxRecDepth 100000 in
theorem un_k34 {N : Nat} (t : ByteArray) : UnH N (.mk 34 t ⟨#[]⟩ 0 []) := by
  intro v w hv hN
  obtain ⟨k', t', m', n', ks', a, c, he, rfl⟩ := hv.form
  injection he with e1 e2 e3 e4 e5
  subst e1 e2 e3 e4 e5
  have hb0 := (Below.refl w.heap.size w).alloc (Nat.le_refl _) (.cells #[.int .i64 34, .string t, .string ⟨#[]⟩, .int .u64 0, .slice a 0 c] 25)
  have HB := Lib.hid (hb0.alloc hb0.size (.cells #[.pointer none, .slice none 0 0, .slice none 0 0, .string t] 208))
  have HR : Hid (((w.alloc (.cells #[.int .i64 34, .string t, .string ⟨#[]⟩, .int .u64 0, .slice a 0 c] 25)).alloc (.cells #[.pointer none, .slice none 0 0, .slice none 0 0, .string t] 208)).heap[w.heap.size + 1]? = some (.cells #[.pointer none, .slice none 0 0, .slice none 0 0, .string t] 208 (0, 0))) := Lib.hid (by
    have := heap_alloc_new (w.alloc (.cells #[.int .i64 34, .string t, .string ⟨#[]⟩, .int .u64 0, .slice a 0 c] 25)) (.cells #[.pointer none, .slice none 0 0, .slice none 0 0, .string t] 208)
    rwa [alloc_size] at this)
  have HS : Hid (((w.alloc (.cells #[.int .i64 34, .string t, .string ⟨#[]⟩, .int .u64 0, .slice a 0 c] 25)).alloc (.cells #[.pointer none, .slice none 0 0, .slice none 0 0, .string t] 208)).heap.size = w.heap.size + 1 + 1) := Lib.hid (by rw [alloc_size, alloc_size])
  unfold nodeU
  clear hv hb0
  go_enter Tryz.func23, Tryz.ntmps23
  go_wp2
  go_ret
  exact ⟨_, rfl, .k34 t _ ⟨Nat.le_succ _, by rw [HS.out]; exact Nat.lt_succ_self _⟩ HR.out, HB.out⟩


set_option maxHeartbeats 4000000 in
set_option maxRecDepth 100000 in
theorem un_k35 {N : Nat} (n : Int) : UnH N (.mk 35 ⟨#[]⟩ ⟨#[]⟩ n []) := by
  intro v w hv hN
  obtain ⟨k', t', m', n', ks', a, c, he, rfl⟩ := hv.form
  injection he with e1 e2 e3 e4 e5
  subst e1 e2 e3 e4 e5
  have hb0 := (Below.refl w.heap.size w).alloc (Nat.le_refl _) (.cells #[.int .i64 35, .string ⟨#[]⟩, .string ⟨#[]⟩, .int .u64 n, .slice a 0 c] 25)
  have HB := Lib.hid (hb0.alloc hb0.size (.cells #[.pointer none, .slice none 0 0, .slice none 0 0, .bool (n != 0)] 211))
  have HR : Hid (((w.alloc (.cells #[.int .i64 35, .string ⟨#[]⟩, .string ⟨#[]⟩, .int .u64 n, .slice a 0 c] 25)).alloc (.cells #[.pointer none, .slice none 0 0, .slice none 0 0, .bool (n != 0)] 211)).heap[w.heap.size + 1]? = some (.cells #[.pointer none, .slice none 0 0, .slice none 0 0, .bool (n != 0)] 211 (0, 0))) := Lib.hid (by
    have := heap_alloc_new (w.alloc (.cells #[.int .i64 35, .string ⟨#[]⟩, .string ⟨#[]⟩, .int .u64 n, .slice a 0 c] 25)) (.cells #[.pointer none, .slice none 0 0, .slice none 0 0, .bool (n != 0)] 211)
    rwa [alloc_size] at this)
  have HS : Hid (((w.alloc (.cells #[.int .i64 35, .string ⟨#[]⟩, .string ⟨#[]⟩, .int .u64 n, .slice a 0 c] 25)).alloc (.cells #[.pointer none, .slice none 0 0, .slice none 0 0, .bool (n != 0)] 211)).heap.size = w.heap.size + 1 + 1) := Lib.hid (by rw [alloc_size, alloc_size])
  unfold nodeU
  clear hv hb0
  go_enter Tryz.func23, Tryz.ntmps23
  go_wp2
  go_ret
  exact ⟨_, rfl, .k35 n _ ⟨Nat.le_succ _, by rw [HS.out]; exact Nat.lt_succ_self _⟩ HR.out, HB.out⟩


set_option maxHeartbeats 4000000 in
set_option maxRecDepth 100000 in
theorem un_k36 {N : Nat} (n : Int) : UnH N (.mk 36 ⟨#[]⟩ ⟨#[]⟩ n []) := by
  intro v w hv hN
  obtain ⟨k', t', m', n', ks', a, c, he, rfl⟩ := hv.form
  injection he with e1 e2 e3 e4 e5
  subst e1 e2 e3 e4 e5
  have hb0 := (Below.refl w.heap.size w).alloc (Nat.le_refl _) (.cells #[.int .i64 36, .string ⟨#[]⟩, .string ⟨#[]⟩, .int .u64 n, .slice a 0 c] 25)
  have HB := Lib.hid (hb0.alloc hb0.size (.cells #[.pointer none, .slice none 0 0, .slice none 0 0, .int .i64 (wrap64 n)] 214))
  have HR : Hid (((w.alloc (.cells #[.int .i64 36, .string ⟨#[]⟩, .string ⟨#[]⟩, .int .u64 n, .slice a 0 c] 25)).alloc (.cells #[.pointer none, .slice none 0 0, .slice none 0 0, .int .i64 (wrap64 n)] 214)).heap[w.heap.size + 1]? = some (.cells #[.pointer none, .slice none 0 0, .slice none 0 0, .int .i64 (wrap64 n)] 214 (0, 0))) := Lib.hid (by
    have := heap_alloc_new (w.alloc (.cells #[.int .i64 36, .string ⟨#[]⟩, .string ⟨#[]⟩, .int .u64 n, .slice a 0 c] 25)) (.cells #[.pointer none, .slice none 0 0, .slice none 0 0, .int .i64 (wrap64 n)] 214)
    rwa [alloc_size] at this)
  have HS : Hid (((w.alloc (.cells #[.int .i64 36, .string ⟨#[]⟩, .string ⟨#[]⟩, .int .u64 n, .slice a 0 c] 25)).alloc (.cells #[.pointer none, .slice none 0 0, .slice none 0 0, .int .i64 (wrap64 n)] 214)).heap.size = w.heap.size + 1 + 1) := Lib.hid (by rw [alloc_size, alloc_size])
  unfold nodeU
  clear hv hb0
  go_enter Tryz.func23, Tryz.ntmps23
  go_wp2
  go_ret
  exact ⟨_, rfl, .k36 n _ ⟨Nat.le_succ _, by rw [HS.out]; exact Nat.lt_succ_self _⟩ HR.out, HB.out⟩


set_option maxHeartbeats 4000000 in
set_option maxRecDepth 100000 in
theorem un_k37 {N : Nat} (n : Int) : UnH N (.mk 37 ⟨#[]⟩ ⟨#[]⟩ n []) := by
  intro v w hv hN
  obtain ⟨k', t', m', n', ks', a, c, he, rfl⟩ := hv.form
  injection he with e1 e2 e3 e4 e5
  subst e1 e2 e3 e4 e5
  have hb0 := (Below.refl w.heap.size w).alloc (Nat.le_refl _) (.cells #[.int .i64 37, .string ⟨#[]⟩, .string ⟨#[]⟩, .int .u64 n, .slice a 0 c] 25)
  have HB := Lib.hid (hb0.alloc hb0.size (.cells #[.pointer none, .slice none 0 0, .slice none 0 0, .int .u64 n] 217))
  have HR : Hid (((w.alloc (.cells #[.int .i64 37, .string ⟨#[]⟩, .string ⟨#[]⟩, .int .u64 n, .slice a 0 c] 25)).alloc (.cells #[.pointer none, .slice none 0 0, .slice none 0 0, .int .u64 n] 217)).heap[w.heap.size + 1]? = some (.cells #[.pointer none, .slice none 0 0, .slice none 0 0, .int .u64 n] 217 (0, 0))) := Lib.hid (by
    have := heap_alloc_new (w.alloc (.cells #[.int .i64 37, .string ⟨#[]⟩, .string ⟨#[]⟩, .int .u64 n, .slice a 0 c] 25)) (.cells #[.pointer none, .slice none 0 0, .slice none 0 0, .int .u64 n] 217)
    rwa [alloc_size] at this)
  have HS : Hid (((w.alloc (.cells #[.int .i64 37, .string ⟨#[]⟩, .string ⟨#[]⟩, .int .u64 n, .slice a 0 c] 25)).alloc (.cells #[.pointer none, .slice none 0 0, .slice none 0 0, .int .u64 n] 217)).heap.size = w.heap.size + 1 + 1) := Lib.hid (by rw [alloc_size, alloc_size])
  unfold nodeU
  clear hv hb0
  go_enter Tryz.func23, Tryz.ntmps23
  go_wp2
  go_ret
  exact ⟨_, rfl, .k37 n _ ⟨Nat.le_succ _, by rw [HS.out]; exact Nat.lt_succ_self _⟩ HR.out, HB.out⟩


set_option maxHeartbeats 4000000 in
set_option maxRecDepth 100000 in
theorem un_k38 {N : Nat} (n : Int) : UnH N (.mk 38 ⟨#[]⟩ ⟨#[]⟩ n []) := by
  intro v w hv hN
  obtain ⟨u, rfl⟩ : ∃ u : Nat, n = u := ⟨n.toNat, by have := (Lies.num ⟨w, _, _, hv⟩).1; omega⟩
  obtain ⟨k', t', m', n', ks', a, c, he, rfl⟩ := hv.form
  injection he with e1 e2 e3 e4 e5
  subst e1 e2 e3 e4 e5
  have hb0 := (Below.refl w.heap.size w).alloc (Nat.le_refl _) (.cells #[.int .i64 38, .string ⟨#[]⟩, .string ⟨#[]⟩, .int .u64 (u : Int), .slice a 0 c] 25)
  have HB := Lib.hid (hb0.alloc hb0.size (.cells #[.pointer none, .slice none 0 0, .slice none 0 0, .float .f64 u] 222))
  have HR : Hid (((w.alloc (.cells #[.int .i64 38, .string ⟨#[]⟩, .string ⟨#[]⟩, .int .u64 (u : Int), .slice a 0 c] 25)).alloc (.cells #[.pointer none, .slice none 0 0, .slice none 0 0, .float .f64 u] 222)).heap[w.heap.size + 1]? = some (.cells #[.pointer none, .slice none 0 0, .slice none 0 0, .float .f64 u] 222 (0, 0))) := Lib.hid (by
    have := heap_alloc_new (w.alloc (.cells #[.int .i64 38, .string ⟨#[]⟩, .string ⟨#[]⟩, .int .u64 (u : Int), .slice a 0 c] 25)) (.cells #[.pointer none, .slice none 0 0, .slice none 0 0, .float .f64 u] 222)
    rwa [alloc_size] at this)
  have HS : Hid (((w.alloc (.cells #[.int .i64 38, .string ⟨#[]⟩, .string ⟨#[]⟩, .int .u64 (u : Int), .slice a 0 c] 25)).alloc (.cells #[.pointer none, .slice none 0 0, .slice none 0 0, .float .f64 u] 222)).heap.size = w.heap.size + 1 + 1) := Lib.hid (by rw [alloc_size, alloc_size])
  have hx : ∀ W, (callFunc 53 #[.int .u64 (u : Int)]).run Tryz.prog W = .ok (.value (.float .f64 u)) W := fun W =>
    run_callFunc_extern (e := Extern.MathFloatBits.float64frombits) Tryz.func53 (by kernel_rfl) (by kernel_rfl) (by kernel_rfl) (by kernel_rfl) _ W
  unfold nodeU
  clear hv hb0
  go_enter Tryz.func23, Tryz.ntmps23
  go_wp2
  go_ret
  exact ⟨_, rfl, .k38 (u : Int) _ ⟨Nat.le_succ _, by rw [HS.out]; exact Nat.lt_succ_self _⟩ HR.out, HB.out⟩


set_option maxHeartbeats 4000000 in
set_option maxRecDepth 100000 in
theorem un_k43 {N : Nat}  : UnH N (.mk 43 ⟨#[]⟩ ⟨#[]⟩ 0 []) := by
  intro v w hv hN
  obtain ⟨k', t', m', n', ks', a, c, he, rfl⟩ := hv.form
  injection he with e1 e2 e3 e4 e5
  subst e1 e2 e3 e4 e5
  have hb0 := (Below.refl w.heap.size w).alloc (Nat.le_refl _) (.cells #[.int .i64 43, .string ⟨#[]⟩, .string ⟨#[]⟩, .int .u64 0, .slice a 0 c] 25)
  have HB := Lib.hid (hb0.alloc hb0.size (.cells #[.pointer none, .slice none 0 0, .slice none 0 0] 241))
  have HR : Hid (((w.alloc (.cells #[.int .i64 43, .string ⟨#[]⟩, .string ⟨#[]⟩, .int .u64 0, .slice a 0 c] 25)).alloc (.cells #[.pointer none, .slice none 0 0, .slice none 0 0] 241)).heap[w.heap.size + 1]? = some (.cells #[.pointer none, .slice none 0 0, .slice none 0 0] 241 (0, 0))) := Lib.hid (by
    have := heap_alloc_new (w.alloc (.cells #[.int .i64 43, .string ⟨#[]⟩, .string ⟨#[]⟩, .int .u64 0, .slice a 0 c] 25)) (.cells #[.pointer none, .slice none 0 0, .slice none 0 0] 241)
    rwa [alloc_size] at this)
  have HS : Hid (((w.alloc (.cells #[.int .i64 43, .string ⟨#[]⟩, .string ⟨#[]⟩, .int .u64 0, .slice a 0 c] 25)).alloc (.cells #[.pointer none, .slice none 0 0, .slice none 0 0] 241)).heap.size = w.heap.size + 1 + 1) := Lib.hid (by rw [alloc_size, alloc_size])
  unfold nodeU
  clear hv hb0
  go_enter Tryz.func23, Tryz.ntmps23
  go_wp2
  go_ret
  exact ⟨_, rfl, .k43  _ ⟨Nat.le_succ _, by rw [HS.out]; exact Nat.lt_succ_self _⟩ HR.out, HB.out⟩


set_option maxHeartbeats 4000000 in
set_option maxRecDepth 100000 in
theorem un_k41 {N : Nat} (n : Int) : UnH N (.mk 41 ⟨#[]⟩ ⟨#[]⟩ n []) := by
  intro v w hv hN
  obtain ⟨k', t', m', n', ks', a, c, he, rfl⟩ := hv.form
  injection he with e1 e2 e3 e4 e5
  subst e1 e2 e3 e4 e5
  have HU := Lib.hid (fun W => unix_any (wrap64 n) (by unfold wrap64; omega) W)
  have HB0 := Lib.hid ((Below.refl w.heap.size w).alloc (Nat.le_refl _) (.cells #[.int .i64 41, .string ⟨#[]⟩, .string ⟨#[]⟩, .int .u64 n, .slice a 0 c] 25))
  have hsec : wrap64 n / 1000000000 = secOf n := rfl
  have hnsec : wrap64 n % 1000000000 = nsecOf n := rfl
  rw [hsec, hnsec] at HU
  unfold nodeU
  clear hv hsec hnsec
  go_enter Tryz.func23, Tryz.ntmps23
  go_wp2_with fail
  ((with_reducible refine (HU.out _).mono ?_))
  rintro e w1 ⟨rfl, hb1⟩
  have HB1 := Lib.hid (HB0.out.trans (hb1.mono HB0.out.size))
  clear hb1
  have HAL := Lib.hid ((Below.refl w1.heap.size w1).alloc (Nat.le_refl _) (.cells #[.pointer none, .slice none 0 0, .slice none 0 0, .int .i64 (secOf n), .int .i64 (nsecOf n), .int .i64 0] 233))
  have HROWN := Lib.hid (heap_alloc_new w1 (.cells #[.pointer none, .slice none 0 0, .slice none 0 0, .int .i64 (secOf n), .int .i64 (nsecOf n), .int .i64 0] 233))
  have HSZ := Lib.hid (alloc_size w1 (.cells #[.pointer none, .slice none 0 0, .slice none 0 0, .int .i64 (secOf n), .int .i64 (nsecOf n), .int .i64 0] 233))
  go_wp2
  go_ret
  exact ⟨w1.heap.size, rfl, .k41 n _ ⟨HB1.out.size, by rw [HSZ.out]; exact Nat.lt_succ_self _⟩ HROWN.out, HB1.out.trans (HAL.out.mono HB1.out.size)⟩


set_option maxHeartbeats 4000000 in
set_option maxRecDepth 100000 in
theorem un_k42 {N : Nat} (t : ByteArray) : UnH N (.mk 42 t ⟨#[]⟩ 0 []) := by
  intro v w hv hN
  obtain ⟨k', t', m', n', ks', a, c, he, rfl⟩ := hv.form
  injection he with e1 e2 e3 e4 e5
  subst e1 e2 e3 e4 e5
  have HU := Lib.hid (fun W => newRegexp_any t W)
  have HB0 := Lib.hid ((Below.refl w.heap.size w).alloc (Nat.le_refl _) (.cells #[.int .i64 42, .string t, .string ⟨#[]⟩, .int .u64 0, .slice a 0 c] 25))
  unfold nodeU
  clear hv
  go_enter Tryz.func23, Tryz.ntmps23
  go_wp2_with fail
  ((with_reducible refine (HU.out _).mono ?_))
  rintro e w1 ⟨rx, rfl, hx1, hx2, hx3, hb1⟩
  have HB1 := Lib.hid (HB0.out.trans (hb1.mono HB0.out.size))
  have HX := Lib.hid (⟨Nat.le_trans HB0.out.size hx1, hx2⟩ : w.heap.size ≤ rx ∧ rx < w1.heap.size)
  have HX3 := Lib.hid hx3
  clear hb1 hx1 hx2 hx3
  have HAL := Lib.hid ((Below.refl w1.heap.size w1).alloc (Nat.le_refl _) (.cells #[.pointer none, .slice none 0 0, .slice none 0 0, pp rx] 238))
  have HROWN := Lib.hid (heap_alloc_new w1 (.cells #[.pointer none, .slice none 0 0, .slice none 0 0, pp rx] 238))
  have HSZ := Lib.hid (alloc_size w1 (.cells #[.pointer none, .slice none 0 0, .slice none 0 0, pp rx] 238))
  go_wp2
  go_ret
  exact ⟨w1.heap.size, rfl, .k42 t rx ⟨HX.out.1, Nat.lt_of_lt_of_le HX.out.2 HAL.out.size⟩ ((HAL.out.block _ HX.out.2).trans HX3.out) _ ⟨HB1.out.size, by rw [HSZ.out]; exact Nat.lt_succ_self _⟩ HROWN.out, HB1.out.trans (HAL.out.mono HB1.out.size)⟩


theorem durL_take (l : List (Int × ByteArray)) (j : Nat) (h : j < l.length) : durL (l.take (j + 1)) = durL (l.take j) ++ [.int .i64 (wrap64 l[j].1), .string l[j].2] := by
  unfold durL
  rw [List.take_succ_eq_append_getElem h, List.flatMap_append]
  simp

set_option maxHeartbeats 4000000 in
set_option maxRecDepth 100000 in
theorem durations_any {N : Nat} {l : List (Int × ByteArray)} (hlen : l.length ≤ 1000) (a : Option Addr) (c : Nat) (w : World) (hN : N ≤ w.heap.size) (hrow : RowN w N a (l.map magT)) :
    Calls Tryz.prog 54 #[.agg #[.int .i64 39, .string ⟨#[]⟩, .string ⟨#[]⟩, .int .u64 0, .slice a l.length c]] w fun e w' => ∃ a5 c5, e = .returned (.slice a5 l.length c5) ∧ RowD w' (fun b => w.heap.size ≤ b ∧ b < w'.heap.size) (durL l) l.length (.slice a5 l.length c5) ∧ Below w.heap.size w w' := by
  obtain ⟨i0, hi, hz0, hz1, hz2⟩ := info_parts (show (Tryz.prog.info? 260).map (fun i => (i.zero, i.size, i.bytes)) = some (some (.agg #[.int .i64 0, .string ⟨#[]⟩]), 2, 24) by kernel_rfl)
  have HROW := Lib.hid hrow
  have HN := Lib.hid hN
  have HB0 := Lib.hid ((Below.refl w.heap.size w).alloc (Nat.le_refl _) (.cells #[.int .i64 39, .string ⟨#[]⟩, .string ⟨#[]⟩, .int .u64 0, .slice a l.length c] 25))
  have hx0 := heap_alloc_new w (.cells #[.int .i64 39, .string ⟨#[]⟩, .string ⟨#[]⟩, .int .u64 0, .slice a l.length c] 25)
  have HX0 := Lib.hid hx0
  have HP : Hid (∀ a5 c5 w', w'.ownsRow w.heap.size 260 2 (.slice a5 l.length c5) l.length (durL (l.take l.length)) → RowD w' (fun b => w.heap.size ≤ b ∧ b < w'.heap.size) (durL l) l.length (.slice a5 l.length c5)) := Lib.hid fun a5 c5 w' h1 => by
    rw [List.take_length] at h1
    exact ⟨_, h1, fun r e => h1.lt r e⟩
  clear hrow hN hx0
  go_enter Tryz.func54, Tryz.ntmps54
  go_wp2
  go_loopw [3, 9] (fun vv i wr => ∃ j : Nat, j ≤ l.length ∧ i = .int .i64 j ∧ Hid (wr.ownsRow w.heap.size 260 2 vv j (durL (l.take j))) ∧ Hid (Below w.heap.size w wr)) (fun _ i _ => l.length - (intOf i).toNat)
  case atStart => exact ⟨0, Nat.zero_le _, rfl, Lib.hid (World.ownsRow_nil _ _ _ _), HB0⟩
  case round =>
    obtain ⟨j, hj, rfl, HR3, HB⟩ := hrel
    obtain ⟨a2, c2, rfl⟩ := slice_form HR3.out
    by_cases hlt : j < l.length
    · obtain ⟨b, o, rfl, hbN, hkid⟩ := HROW.out (by rw [List.length_map]; omega)
      obtain ⟨x1, y1, hin, d0, d1, d2, d3, d4⟩ := hkid wr (Keep.of_below HB.out HN.out) j (by rw [List.length_map]; exact hlt)
      simp only [List.getElem_map, magT, Tr.kind, Tr.text, Tr.more, Tr.num, Tr.kids, List.length_nil] at d0 d1 d2 d3 d4
      have HTK := Lib.hid (durL_take l j hlt)
      clear hkid hin HROW
      generalize l[j] = p at *
      have hi1 : (j : Int) < l.length := by omega
      have hi0 : (0 : Int) ≤ j := by omega
      have HBQ := Lib.hid (HB.out.alloc HB.out.size (.cells #[.int .i64 40, .string p.2, .string ⟨#[]⟩, .int .u64 p.1, .slice x1 0 y1] 25))
      have HO4 := Lib.hid (World.ownsRow.kept HR3.out (grownBy_below ((Below.refl wr.heap.size wr).alloc (Nat.le_refl _) (.cells #[.int .i64 40, .string p.2, .string ⟨#[]⟩, .int .u64 p.1, .slice x1 0 y1] 25))) (hown_or HR3.out))
      have hmx : j + 1 ≤ maxLen := by unfold maxLen; omega
      have hbl : (j + 1) * 24 ≤ 140737488355328 := by omega
      have HO5 := Lib.hid (World.ownsRow.kept HO4.out (grownBy_below ((Below.refl _ (wr.alloc (.cells #[.int .i64 40, .string p.2, .string ⟨#[]⟩, .int .u64 p.1, .slice x1 0 y1] 25))).alloc (Nat.le_refl _) (.cells #[.int .i64 (wrap64 p.1), .string p.2] 260))) (hown_or HO4.out))
      have hbx := HB.out.alloc HB.out.size (.cells #[.int .i64 40, .string p.2, .string ⟨#[]⟩, .int .u64 p.1, .slice x1 0 y1] 25)
      have hby := hbx.alloc hbx.size (.cells #[.int .i64 (wrap64 p.1), .string p.2] 260)
      have HBY := Lib.hid hby
      clear hbx hby
      go_wp2_with (at_builtin; refine wpList_append_own2 rfl _ _ 224 rfl w.heap.size 260 i0 _ 2 24 Tryz.underlying224 hi hz0 hz1 hz2 rfl (by decide) _ _ _ rfl HO5.out _ 1 1 [.int .i64 (wrap64 p.1), .string p.2] rfl rfl ?c1 ?c2 hmx hbl ?c3 ?_)
      case c1 =>
        have hx := heap_alloc_new (wr.alloc (.cells #[.int .i64 40, .string p.2, .string ⟨#[]⟩, .int .u64 p.1, .slice x1 0 y1] 25)) (.cells #[.int .i64 (wrap64 p.1), .string p.2] 260)
        rw [alloc_size] at hx
        exact World.news_of_block (cs := #[.int .i64 (wrap64 p.1), .string p.2]) (t := 260) (fr := (0, 0)) hx
      case c2 => simp [Value.oneCell']
      case c3 => exact HBY.out.size
      intro v' w5 hown' hgrow hgb
      obtain ⟨a', c', rfl⟩ := slice_form hown'
      have hb5 := HBY.out.grown hgrow HBY.out.size (fun k e => (HO5.out.lt k e).1)
      have HR5 : Hid (w5.ownsRow w.heap.size 260 2 (.slice a' (j + 1) c') (j + 1) (durL (l.take (j + 1)))) := Lib.hid (by rw [HTK.out]; exact hown')
      have HB5 := Lib.hid hb5
      clear hown' hgrow hgb hb5
      go_wp2
      go_roundw
      case rel => exact ⟨j + 1, by omega, by go_num, HR5, HB5⟩
      case measure => simp [intOf]; omega
    · have hje : j = l.length := by omega
      subst hje
      go_wp2
      go_ret
      exact ⟨_, _, rfl, HP.out _ _ _ HR3.out, HB.out⟩


set_option maxHeartbeats 4000000 in
set_option maxRecDepth 100000 in
theorem un_k39 {N : Nat} {l : List (Int × ByteArray)} (hlen : l.length ≤ 1000) : UnH N (.mk 39 ⟨#[]⟩ ⟨#[]⟩ 0 (l.map magT)) := by
  intro v w hv hN
  obtain ⟨k', t', m', n', ks', a, c, he, rfl⟩ := hv.form
  injection he with e1 e2 e3 e4 e5
  subst e1 e2 e3 e4 e5
  have hb0 := (Below.refl w.heap.size w).alloc (Nat.le_refl _) (.cells #[.int .i64 39, .string ⟨#[]⟩, .string ⟨#[]⟩, .int .u64 0, .slice a l.length c] 25)
  have HL := Lib.hid (durations_any hlen a c (w.alloc (.cells #[.int .i64 39, .string ⟨#[]⟩, .string ⟨#[]⟩, .int .u64 0, .slice a l.length c] 25)) (Nat.le_trans hN hb0.size) ((RowN.of hv).keep (Keep.of_below hb0 hN)))
  have HB0 := Lib.hid hb0
  unfold nodeU
  rw [List.length_map]
  clear hv hb0
  go_enter Tryz.func23, Tryz.ntmps23
  go_wp2_with fail
  ((with_reducible refine HL.out.mono ?_))
  rintro e w1 ⟨a5, c5, rfl, hq, hb1⟩
  have HQ := Lib.hid hq
  have HB1 := Lib.hid (HB0.out.trans (hb1.mono HB0.out.size))
  clear hq hb1
  have HAL := Lib.hid ((Below.refl w1.heap.size w1).alloc (Nat.le_refl _) (.cells #[.pointer none, .slice none 0 0, .slice none 0 0, .slice a5 l.length c5] 227))
  have HROWN := Lib.hid (heap_alloc_new w1 (.cells #[.pointer none, .slice none 0 0, .slice none 0 0, .slice a5 l.length c5] 227))
  have HSZ := Lib.hid (alloc_size w1 (.cells #[.pointer none, .slice none 0 0, .slice none 0 0, .slice a5 l.length c5] 227))
  go_wp2
  go_ret
  have HU : RowD (w1.alloc (.cells #[.pointer none, .slice none 0 0, .slice none 0 0, .slice a5 l.length c5] 227)) (fun b => w.heap.size ≤ b ∧ b < (w1.alloc (.cells #[.pointer none, .slice none 0 0, .slice none 0 0, .slice a5 l.length c5] 227)).heap.size) (durL l) l.length (.slice a5 l.length c5) := RowD.mono (B := fun b => (w.alloc (.cells #[.int .i64 39, .string ⟨#[]⟩, .string ⟨#[]⟩, .int .u64 0, .slice a l.length c] 25)).heap.size ≤ b ∧ b < w1.heap.size) (fun b h => ⟨Nat.le_trans HB0.out.size h.1, Nat.lt_of_lt_of_le h.2 HAL.out.size⟩) (RowD.keep (w := w1) (fun b h => HAL.out.block b h.2) HQ.out)
  exact ⟨w1.heap.size, rfl, .k39 l _ HU _ ⟨HB1.out.size, by rw [HSZ.out]; exact Nat.lt_succ_self _⟩ HROWN.out, HB1.out.trans (HAL.out.mono HB1.out.size)⟩


end Go.Proofs.YtkohgndmhgcgeaaGreatDoor
