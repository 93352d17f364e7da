/- The whole flatbuffer. -/
import Derived.Test.YtdillheepidncaaGreatDoorMakerTwo
import Derived.Deep.RegionHeld3
namespace Go.Proofs.YtdillheepidncaaGreatDoor
open Go Go.RowKit
set_option linter.unusedVariables false
set_option linter.unusedSimpArgs false

/-- What a buffer that is made is: its bytes stand in new blocks. -/
def BufPost (bs : List UInt8) (w : World) (e : Ending) (w' : World) : Prop :=
  ∃ g c, e = .returned (.slice (some ⟨g, 0, none⟩) bs.length c) ∧ BytesIn w' ⟨g, 0, none⟩ bs ∧ Below w.heap.size w w' ∧ bs.length ≤ c ∧ g < w'.heap.size

theorem buf_start (w : World) (ob : Obj) (base : Bool) :
    Mk (w.heap.size + 1 + 1) base (List.replicate 4 0) (((w.alloc ob).alloc (.cells #[.int .u8 0, .int .u8 0, .int .u8 0, .int .u8 0] 5)).alloc (.cells #[.slice (some ⟨w.heap.size + 1, 0, none⟩) 4 4, .bool base] 54)) ∧
    Below w.heap.size w (((w.alloc ob).alloc (.cells #[.int .u8 0, .int .u8 0, .int .u8 0, .int .u8 0] 5)).alloc (.cells #[.slice (some ⟨w.heap.size + 1, 0, none⟩) 4 4, .bool base] 54)) ∧
    ∀ r, r < w.heap.size → MkOther (w.heap.size + 1 + 1) r (((w.alloc ob).alloc (.cells #[.int .u8 0, .int .u8 0, .int .u8 0, .int .u8 0] 5)).alloc (.cells #[.slice (some ⟨w.heap.size + 1, 0, none⟩) 4 4, .bool base] 54)) := by
  have b0 := (Below.refl w.heap.size w).alloc (Nat.le_refl _) ob
  have b1 := b0.alloc b0.size (.cells #[.int .u8 0, .int .u8 0, .int .u8 0, .int .u8 0] 5)
  have b2 := b1.alloc b1.size (.cells #[.slice (some ⟨w.heap.size + 1, 0, none⟩) 4 4, .bool base] 54)
  have e0 : (w.alloc ob).heap.size = w.heap.size + 1 := alloc_size _ _
  have e1 : ((w.alloc ob).alloc (.cells #[.int .u8 0, .int .u8 0, .int .u8 0, .int .u8 0] 5)).heap.size = w.heap.size + 1 + 1 := by rw [alloc_size, e0]
  have r1 := heap_alloc_new (w.alloc ob) (.cells #[.int .u8 0, .int .u8 0, .int .u8 0, .int .u8 0] 5)
  have r2 := heap_alloc_new ((w.alloc ob).alloc (.cells #[.int .u8 0, .int .u8 0, .int .u8 0, .int .u8 0] 5)) (.cells #[.slice (some ⟨w.heap.size + 1, 0, none⟩) 4 4, .bool base] 54)
  have r3 := (Below.heap_alloc _ (.cells #[.slice (some ⟨w.heap.size + 1, 0, none⟩) 4 4, .bool base] 54) _ (Array.getElem?_eq_some_iff.1 r1).1).trans r1
  rw [e1] at r2
  rw [e0] at r3
  refine ⟨⟨_, r2, ⟨by simp [Lib.byteCells], .inr ⟨w.heap.size + 1, 4, _, rfl, Nat.zero_le _, r3, by decide, by decide, rfl, rfl⟩⟩, ?_⟩, b2, fun r hr => ⟨by omega, fun v hv => ?_⟩⟩
  · show some (w.heap.size + 1) ≠ some (w.heap.size + 1 + 1)
    intro e
    injection e with e
    omega
  · rw [Lib.cell_of_heap r2] at hv
    obtain rfl : Value.slice (some ⟨w.heap.size + 1, 0, none⟩) 4 4 = v := by simpa using hv
    show some (w.heap.size + 1) ≠ some r
    intro e
    injection e with e
    omega

theorem below_moves {M : Nat} {w W w' : World} (hb : Below w.heap.size w W) (ho : ∀ r, r < w.heap.size → MkOther M r W) (hm : Moves M W w') : Below w.heap.size w w' :=
  ⟨hm.os.trans hb.os, hm.tape.trans hb.tape, hm.output.trans hb.output, Nat.le_trans hb.size hm.size, fun r hr => (hm.keep r (Nat.lt_of_lt_of_le hr hb.size) (ho r hr)).1.trans (hb.block r hr)⟩

set_option maxHeartbeats 4000000 in
set_option maxRecDepth 100000 in
theorem buffer_any (base : Bool) (P : List UInt8 → List UInt8 × Nat) (sz : Nat) (Q : List UInt8 → Nat → Prop) (hP : PartOk P sz Q) (hsz : sz < 800000000) (k : Int) (t m : ByteArray) (u : Int) (kids : Value) (hkids : ∃ a n c, kids = .slice a n c) (w : World)
    (hn : ∀ M W, Mk M base (List.replicate 4 0) W → Below w.heap.size w W → (∀ r, r < w.heap.size → MkOther M r W) → Calls Tryz.prog 20 #[.pointer (some ⟨M, 0, none⟩), .agg #[.int .i64 k, .string t, .string m, .int .u64 u, kids]] W (AtPost M base (P (List.replicate 4 0)).1 (P (List.replicate 4 0)).2 W)) :
    Calls Tryz.prog 9 #[.agg #[.int .i64 k, .string t, .string m, .int .u64 u, kids], .bool base] w (BufPost (wholeB P) w) := by
  obtain ⟨a, n, c, rfl⟩ := hkids
  obtain ⟨h1, h2, h3, h4, h5, -⟩ := hP (List.replicate 4 0) (by simp; omega)
  simp only [List.length_replicate] at h1 h2 h4
  have hmc : madeCells #[.int .u8 0] 4 = #[.int .u8 0, .int .u8 0, .int .u8 0, .int .u8 0] := by
    apply Array.ext
    · simp [size_madeCells]
    · intro i h1 h2
      simp [madeCells, Nat.mod_one]
      rw [size_madeCells] at h1
      match i, h1 with
      | 0, _ => rfl
      | 1, _ => rfl
      | 2, _ => rfl
      | 3, _ => rfl
  have hmk : ∀ W : World, (Instr.makeSlice 30 (.int .i64 4) (.int .i64 4)).run Tryz.prog W = .ok (.slice (some ⟨W.heap.size, 0, none⟩) 4 4) (W.alloc (.cells #[.int .u8 0, .int .u8 0, .int .u8 0, .int .u8 0] 5)) := by
    intro W
    obtain ⟨i0, hi, hz0, hz1, hz2⟩ := byte_info
    have := run_make W 30 5 i0 _ Tryz.underlying30 hi hz0 .i64 .i64 4 4 (by omega) (by omega) (by rw [hz2]; omega) (by omega)
    rw [this, hz1, show (Value.int .u8 0).cells = #[.int .u8 0] from rfl, show Int.toNat 4 = 4 from rfl, Nat.mul_one, hmc]
  have HWB : Hid (wholeB P = padTo 8 0 (patch (P (List.replicate 4 0)).1 0 (leB (P (List.replicate 4 0)).2 4))) := Lib.hid rfl
  generalize (P (List.replicate 4 0)).1 = O1 at *
  generalize (P (List.replicate 4 0)).2 = AT at *
  generalize wholeB P = WB at *
  go_enter Tryz.func9, Tryz.ntmps9
  obtain ⟨s0, s1, s2⟩ := buf_start w (.cells #[.int .i64 k, .string t, .string m, .int .u64 u, .slice a n c] 25) base
  have HN := Lib.hid (hn _ _ s0 s1 s2)
  have S1 := Lib.hid s1
  have S2 := Lib.hid s2
  clear s0 s1 s2 hn hP
  go_wp2_with (go_at_call 20; with_reducible refine HN.out.mono ?_)
  rintro e w2 ⟨rfl, hm2, hmv2⟩
  have HB2 := Lib.hid (below_moves S1.out S2.out hmv2)
  have HS2 := Lib.hid (fun r (hr : r < w.heap.size) => (hmv2.keep r (Nat.lt_of_lt_of_le hr S1.out.size) (S2.out r hr)).2)
  clear hmv2 S1 S2 HN hmk hmc
  obtain ⟨L1, hL1⟩ : ∃ L1, L1 = O1.length := ⟨_, rfl⟩
  rw [← hL1] at h5 h1 h2
  have HL1 : Hid (O1.length = L1) := Lib.hid hL1.symm
  clear hL1
  generalize hMd : w.heap.size + 1 + 1 = M at *
  have HMd := Lib.hid hMd
  clear hMd
  obtain ⟨ad, cp, hr2⟩ := Mk.row hm2
  rw [HL1.out] at hr2
  obtain ⟨g, rfl, hc1, hc2⟩ := hr2.ptr HL1.out (by omega)
  have hwr1 := wrap_nat AT (AT : Int) rfl (by omega)
  have HLI : Hid (∀ W, Calls Tryz.prog 21 #[.int .u64 (AT : Int), .int .i64 4] W (LitPost2 AT 4 W)) := little_u AT 4 (AT : Int) rfl (by decide) (by decide) (by omega)
  have c0 := hr2.c0
  have c0d : w2.drew.cell? ⟨M, 0, none⟩ = _ := c0
  have f0 := hr2.f0 0
  have hM2 := hr2.lt
  have HR2 := Lib.hid hr2
  clear hr2 hm2
  go_upto_region 3 with fail
  go_region_held3 (fun w' => w'.cell? ⟨M, 0, none⟩ = some (.slice (some ⟨g, 0, none⟩) L1 cp)) (first | go_keep | exact c05 | exact hr6.c0) (first
    | (refine step_mk_copy (by rfl) _ _ (by rfl) M base O1 L1 HL1.out g cp HR5.out 0 L1 cp (by rfl) (leB AT 4) 4 (leB_length 4 _) (by omega) (by omega) ⟨g5, 0, none⟩ c5 (by rfl) HN5.out 4 (by rfl) ?_; intro w6 hr6 hmv6)
    | (go_at_call 21; ((with_reducible refine (HLI.out _).mono ?_)); rintro e w5 ⟨g5, c5, rfl, hn5, hb5⟩; have HN5 := Lib.hid hn5; have HR5 := Lib.hid (HR2.out.drew.below hb5); have c05 := HR5.out.c0; have f05 := HR5.out.f0 0))
  all_goals
    have HMV6 := Lib.hid (hmv6 w2.drew ((Moves.refl M w2.drew).below hb5 hM2))
    have HM6 := Lib.hid hr6.mk
    have HPD : Hid (Calls Tryz.prog 22 #[.pointer (some ⟨M, 0, none⟩), .int .i64 8, .int .i64 0] w6 (PadPost M base 8 0 (patch O1 0 (leB AT 4)) w6)) := Lib.hid (pad_any M base 8 0 (patch O1 0 (leB AT 4)) (by decide) (by decide) (by decide) (by rw [patch_length _ _ _ (by rw [leB_length, HL1.out]; omega), HL1.out]; omega) w6 HM6.out)
    clear hr6 hmv6 HN5 HR5 hn5 hb5 c05 f05
    go_wp2_with fail
    ((with_reducible refine HPD.out.mono ?_))
    rintro e w7 ⟨rfl, hm7, hmv7⟩
    rw [← HWB.out] at hm7
    obtain ⟨ad7, cp7, hr7⟩ := Mk.row hm7
    have hwl : 0 < WB.length := by
      rw [HWB.out]
      have h9 := (padTo_spec 8 0 (by decide) (patch O1 0 (leB AT 4))).1
      rw [patch_length _ _ _ (by rw [leB_length, HL1.out]; omega), HL1.out] at h9
      omega
    obtain ⟨g7, rfl, hd1, hd2⟩ := hr7.ptr rfl hwl
    have d0 := hr7.c0
    have HB7 := Lib.hid (below_moves (W := w2.drew) HB2.out.drew HS2.out (HMV6.out.trans hmv7))
    have HBY := Lib.hid (hr7.2.1.cells (g := g7) rfl)
    have hg7 : g7 < w7.heap.size := (hr7.2.1.lt g7 rfl).2
    clear hmv7 hr7 hm7
    go_wp2
    go_ret
    exact ⟨g7, cp7, rfl, HBY.out, HB7.out, hd1, hg7⟩

end Go.Proofs.YtdillheepidncaaGreatDoor
