/- spec's maker of flatbuffers: vectors of references to what functions write. The maker's slots of lists of nodes. The maker's slot of a list, in a row. -/
import Derived.Test.YtgceklahjdbipaaGreatDoorMakerTable
import Derived.Test.YtgceklahjdbipaaGreatDoorMakerAll
import Derived.Test.YtgceklahjdbipaaGreatDoorMagRow
import Derived.Deep.RegionWith
namespace Go.Proofs.YtgceklahjdbipaaGreatDoor
open Go Go.RowKit
set_option linter.unusedVariables false
set_option linter.unusedSimpArgs false

/-- A function that writes parts by their numbers, in whatever world the maker moves to. -/
def FnVec (M : Nat) (base : Bool) (w : World) (f : Value) (ps : List PartQ) : Prop :=
  ∃ fid caps, f = .func (.func fid) #[] caps ∧ (∀ args W, (callFunc fid args).run Tryz.prog W = .ok (.enter fid args) W) ∧
    ∀ i (h : i < ps.length) W out, Moves M w W → Mk M base out W → out.length + ps[i].sz < 900000000 → Calls Tryz.prog fid (#[.int .i64 i] ++ caps) W (AtPost M base (ps[i].P out).1 (ps[i].P out).2 W)

theorem putVec_append (at_ : Nat) : ∀ (a b : List (List UInt8 → List UInt8 × Nat)) (k : Nat) (l : List UInt8), putVec at_ (a ++ b) k l = putVec at_ b (k + a.length) (putVec at_ a k l)
  | [], b, k, l => by simp [putVec]
  | P :: a, b, k, l => by
    rw [List.cons_append, putVec, putVec_append at_ a b, putVec, List.length_cons, show k + 1 + a.length = k + (a.length + 1) by omega]

theorem putVec_take (at_ : Nat) (ps : List (List UInt8 → List UInt8 × Nat)) (k : Nat) (h : k < ps.length) (L : List UInt8) : putVec at_ (ps.take (k + 1)) 0 L = patch (ps[k] (putVec at_ (ps.take k) 0 L)).1 (at_ + 4 + 4 * k) (leB ((ps[k] (putVec at_ (ps.take k) 0 L)).2 - (at_ + 4 + 4 * k)) 4) := by
  rw [take_snoc ps k h, putVec_append]
  have : (ps.take k).length = k := by simp; omega
  rw [this, Nat.zero_add]
  rfl

theorem szParts_append : ∀ (a b : List PartQ), szParts (a ++ b) = szParts a + szParts b
  | [], b => by simp [szParts]
  | f :: a, b => by
    rw [List.cons_append, szParts, szParts, szParts_append a b]
    omega

theorem szParts_take (ps : List PartQ) (k : Nat) (h : k < ps.length) : szParts (ps.take k) + ps[k].sz ≤ szParts ps := by
  have h1 : szParts ps = szParts (ps.take k) + szParts (ps.drop k) := by rw [← szParts_append, List.take_append_drop]
  rw [List.drop_eq_getElem_cons h, szParts] at h1
  rw [h1]
  exact Nat.add_le_add_left (Nat.le_add_right _ _) _

theorem szParts_take_le (ps : List PartQ) (k : Nat) : szParts (ps.take k) ≤ szParts ps := by
  have h1 : szParts ps = szParts (ps.take k) + szParts (ps.drop k) := by rw [← szParts_append, List.take_append_drop]
  omega

section
variable {P : Program}
/-- .. of no zeros: the row as it was. -/
theorem append_zeros_nil (w : World) (t tn ty e : TypeId) (i : TypeInfo) (kn kq : IntKind) (ht : P.underlying t = some (.slice e)) (htn : P.underlying tn = some (.int kn)) (hi : P.info? e = some i) (hsize : i.size = 1) (hby : i.bytes = 1)
    (base : Option Addr) (sLen sCap : Nat) (hc : sLen ≤ sCap) :
    (Builtin.append_ #[t, tn] ty #[.slice base sLen sCap, .int kq 0]).run P w = .ok (.slice base sLen sCap) w := by
  have hw : IntKind.i64.wrap (0 : Int) = 0 := by rw [IntKind.wrap_i64]; rfl
  cases base with
  | none => simp [Builtin.append_, run_underlying ht, run_underlying htn, sizeOf, typeInfo, zeroValue, hi, hsize, hby, asInt, asIntOf, hw, hc]
  | some a => simp [Builtin.append_, run_underlying ht, run_underlying htn, sizeOf, typeInfo, zeroValue, hi, hsize, hby, asInt, asIntOf, hw, hc, storeCells]

theorem wpList_append_zeros3 {w : World} {ops : Array Oper} {rest : List Oper} {o : Oper} {a : Act} {Q : Exit → Act → World → Prop} (hgd : o.guard = none) (sl x : Operand) (t tn u : TypeId)
    (ho : o.op = .call { callee := .builtin .append, args := #[sl, x], argTypes := #[t, tn] })
    (base : Nat) (e : TypeId) (i : TypeInfo) (kn kq : IntKind) (ht : P.underlying t = some (.slice e)) (hu : P.underlying u = some .string) (htn : P.underlying tn = some (.int kn)) (hi : P.info? e = some i) (hz : i.zero = some (.int .u8 0))
    (hsize : i.size = 1) (hby : i.bytes = 1)
    (ad : Option Addr) (cap n : Nat) (xs : List Value) (hs : a.eval sl = .slice ad n cap) (hown : w.ownsRow base e 1 (.slice ad n cap) n xs) (k : Nat) (z : Int) (hx : a.eval x = .int kq z) (hzk : z = (k : Int)) (hcap : n ≤ cap)
    (hbig : n + k ≤ 1000000000) (hbase : base ≤ w.heap.size)
    (h : ∀ v' w', w'.ownsRow base e 1 v' (n + k) (xs ++ Lib.byteCells (List.replicate k 0)) → w.grownBy w' (Value.slice ad n cap).ownBlock → (v'.ownBlock = (Value.slice ad n cap).ownBlock ∨ ∃ g, v'.ownBlock = some g ∧ w.heap.size ≤ g) → wpList P ops Q rest (a.put o.dst v') w') : wpList P ops Q (o :: rest) a w := by
  subst hzk
  rcases Nat.eq_zero_or_pos k with rfl | hk0
  · refine wpList_plain hgd fun K hK => ?_
    have heq := append_zeros_nil (P := P) w t tn o.type e i kn kq ht htn hi hsize hby ad n cap hcap
    unfold Oper.wp execOp
    have hx0 : a.eval x = .int kq 0 := hx
    simp only [ho, resolve, invoke, builtin, Sem.run_bind, Sem.run_pure, Result.andThen_ok, List.map_toArray, List.map_cons, List.map_nil, hs, hx0, heq]
    refine hK _ _ (h _ _ (by rw [List.replicate_zero, show Lib.byteCells ([] : List UInt8) = [] from rfl, List.append_nil]; exact hown) ⟨rfl, rfl, rfl, Nat.le_refl _, fun _ _ _ => rfl⟩ (.inl rfl))
  · exact wpList_append_zeros2 hgd sl x t tn u ho base e i kn kq ht hu htn hi hz hsize hby ad cap n xs hs hown k hk0 hx hbig hbase h
end

theorem vecB_unfold (parts : List (List UInt8 → List UInt8 × Nat)) (l : List UInt8) : vecB parts l = (putVec (padTo 4 0 l).length parts 0 (padTo 4 0 l ++ leB parts.length 4 ++ List.replicate (4 * parts.length) 0), (padTo 4 0 l).length) := rfl

set_option maxHeartbeats 8000000 in
set_option maxRecDepth 100000 in
theorem tables_any (ps : List PartQ) (hn : ps.length ≤ 1000) (hok : ∀ p ∈ ps, PartOk p.P p.sz p.Q) (M : Nat) (base : Bool) (out : List UInt8) (f : Value) (w : World) (h : Mk M base out w) (hf : FnVec M base w f ps) (hout : out.length + (8 + 4 * ps.length + szParts ps) < 900000000) :
    Calls Tryz.prog 219 #[.pointer (some ⟨M, 0, none⟩), .int .i64 ps.length, f] w (AtPost M base (vecB (ps.map PartQ.P) out).1 (vecB (ps.map PartQ.P) out).2 w) := by
  obtain ⟨fid, caps, rfl, hcf, hcall⟩ := hf
  obtain ⟨i0, hi0, hz0, hz1, hz2⟩ := byte_info
  have H := Lib.hid h
  have hM := h.lt
  obtain ⟨n, hnn⟩ : ∃ n, n = ps.length := ⟨_, rfl⟩
  rw [← hnn] at hn hout ⊢
  have HNN : Hid (ps.length = n) := Lib.hid hnn.symm
  have HPAD : Hid (Calls Tryz.prog 24 #[.pointer (some ⟨M, 0, none⟩), .int .i64 4, .int .i64 0] w fun e w' => e = .returned (.tuple #[]) ∧ Mk M base (padTo 4 0 out) w' ∧ Moves M w w') := Lib.hid (pad_any M base 4 0 out (by decide) (by decide) (by decide) (by omega) w h)
  have hpad := padTo_spec 4 0 (by decide) out
  have HT : Hid (vecB (ps.map PartQ.P) out = (putVec (padTo 4 0 out).length (ps.map PartQ.P) 0 (padTo 4 0 out ++ leB n 4 ++ List.replicate (4 * n) 0), (padTo 4 0 out).length)) := Lib.hid (by rw [vecB_unfold, List.length_map, HNN.out])
  have HOK := Lib.hid hok
  have HCALL := Lib.hid hcall
  have HOUT := Lib.hid hout
  generalize padTo 4 0 out = o1 at *
  have hl1 : o1.length ≤ out.length + 4 := hpad.2.1
  clear hnn h hok hcall hpad
  generalize hL1 : o1.length = L1 at *
  have HL1 : Hid (o1.length = L1) := Lib.hid hL1
  clear hL1
  go_enter Tryz.func219, Tryz.ntmps219
  go_wp2_with (go_at_call 24; with_reducible refine HPAD.out.mono ?_)
  rintro e w1 ⟨rfl, hm1, hmv1⟩
  obtain ⟨ad, c, hr1⟩ := hm1.row
  rw [HL1.out] at hr1
  have c0 := hr1.c0
  have c0d : w1.drew.cell? ⟨M, 0, none⟩ = _ := c0
  have f0 := hr1.f0 0
  have hM1 := hr1.lt
  have HR1 := Lib.hid hr1
  have HMV1 := Lib.hid hmv1
  clear hm1 hr1 hmv1
  have hwr1 := wrap_nat n (n : Int) rfl (by omega)
  have HLI : Hid (∀ W, Calls Tryz.prog 23 #[.int .u64 (n : Int), .int .i64 4] W (LitPost2 n 4 W)) := little_u n 4 (n : Int) rfl (by decide) (by decide) (by omega)
  go_upto_region 3 with fail
  go_cut [] (fun wx => Hid (Mk M base (o1 ++ leB n 4) wx) ∧ Hid (Moves M w wx))
  case first =>
    go_region_law (first
      | (refine step_mk_append (by rfl) _ _ (by rfl) M base o1 L1 HL1.out ad c HR5.out (by rfl) (leB n 4) ⟨g5, 0, none⟩ 4 c5 (leB_length 4 _) (by decide) (by rfl) HN5.out (by omega) ?_; intro g6 cap6 w6 c06 f06 hap6)
      | (go_simp; go_wp2_with (go_at_call 23; ((with_reducible refine (HLI.out _).mono ?_)); rintro e w5 ⟨g5, c5, rfl, hn5, hb5⟩; have HN5 := Lib.hid hn5; have HR5 := Lib.hid (HR1.out.drew.below hb5); have c05 := HR5.out.c0; have f05 := HR5.out.f0 0)))
    all_goals
      have HMZ := Lib.hid hap6.1
      have HVZ := Lib.hid (hap6.2 w ((HMV1.out.drew).below hb5 hM1))
      clear hap6
      go_wp2_with fail
      go_meet
      exact ⟨HMZ, HVZ⟩
  case rest =>
  obtain ⟨HM5, HV5⟩ := hcut
  clear HR1 HMV1 c0 c0d f0 hM1 HLI hwr1
  have hl2 : (o1 ++ leB n 4).length = L1 + 4 := by rw [List.length_append, leB_length, HL1.out]
  have HL2 : Hid ((o1 ++ leB n 4).length = L1 + 4) := Lib.hid hl2
  clear hl2
  generalize o1 ++ leB n 4 = o2 at *
  obtain ⟨ad4, cp4, hr4⟩ := HM5.out.row
  rw [HL2.out] at hr4
  obtain ⟨g4, rfl, hc1, hc2⟩ := hr4.ptr HL2.out (by omega)
  have c0 := hr4.c0
  have f0 := hr4.f0 0
  have hM4 := hr4.lt
  have HR4 := Lib.hid hr4
  clear hr4
  obtain ⟨k4, hk4⟩ : ∃ k4, k4 = 4 * n := ⟨_, rfl⟩
  rw [← hk4] at HT
  have HK4 := Lib.hid hk4
  have hk4b : k4 ≤ 4000 := by omega
  clear hk4
  go_wp2_with (at_builtin; refine wpList_append_zeros3 rfl _ _ 30 3 9 rfl 0 5 i0 .i64 .i64 Tryz.underlying30 Tryz.underlying9 Tryz.underlying3 hi0 hz0 hz1 hz2 (some ⟨g4, 0, none⟩) cp4 (L1 + 4) (Lib.byteCells o2) rfl ?d1 k4 _ rfl (by rw [HK4.out]; go_num) hc1 (by omega) (Nat.zero_le _) ?_)
  case d1 =>
    have := HR4.out.2.1
    rw [HL2.out] at this
    exact this
  intro v5 w5 hown5 hg5 hb5
  have hlz : (o2 ++ List.replicate k4 (0 : UInt8)).length = L1 + 4 + k4 := by rw [List.length_append, HL2.out, List.length_replicate]
  have hown6 : w5.ownsRow 0 5 1 v5 (o2 ++ List.replicate k4 (0 : UInt8)).length (Lib.byteCells (o2 ++ List.replicate k4 (0 : UInt8))) := by
    rw [hlz, Lib.byteCells_append]
    exact hown5
  obtain ⟨a5, cp5, rfl⟩ := slice_of_own hown5
  have hr4 := HR4.out
  rw [← HL2.out] at hr4
  have hg6 : wc.grownBy w5 (Value.slice (some ⟨g4, 0, none⟩) o2.length cp4).ownBlock := by rw [HL2.out]; exact hg5
  have hb6 : (Value.slice a5 (L1 + 4 + k4) cp5).ownBlock = (Value.slice (some ⟨g4, 0, none⟩) o2.length cp4).ownBlock ∨ ∃ g, (Value.slice a5 (L1 + 4 + k4) cp5).ownBlock = some g ∧ wc.heap.size ≤ g := by rw [HL2.out]; exact hb5
  obtain ⟨hh7, hmk7, hmv7⟩ := mk_app HV5.out hr4.1 hr4.2.2 hg6 hb6 hown6
  rw [HL2.out] at hh7
  have e0 : w5.cell? ⟨M, 0, none⟩ = some (.slice (some ⟨g4, 0, none⟩) (L1 + 4) cp4) := by rw [Lib.cell_of_heap hh7]; rfl
  have e1 := Lib.frozen_of_heap hh7 0
  have HM7 := Lib.hid hmk7
  have HV7 := Lib.hid hmv7
  have HLZ : Hid ((o2 ++ List.replicate k4 (0 : UInt8)).length = L1 + 4 + k4) := Lib.hid hlz
  clear hg6 hb6 hmk7 hmv7 hr4 hg5 hb5 hown5 hown6 hh7 hlz hi0 hz0 hz1 hz2 HR4 c0 f0 hM4
  generalize o2 ++ List.replicate k4 (0 : UInt8) = oc at *
  go_wp2
  clear e0 e1
  generalize w5.setCell ⟨M, 0, none⟩ (.slice a5 (L1 + 4 + k4) cp5) = w7 at *
  go_loopw [40] (fun i wx => ∃ k : Nat, k ≤ n ∧ i = .int .i64 k ∧ Hid (Mk M base (putVec L1 ((ps.map PartQ.P).take k) 0 oc) wx) ∧ Hid (Moves M w wx)) (fun i _ => n - (intOf i).toNat)
  case atStart => exact ⟨0, Nat.zero_le _, rfl, Lib.hid (by simpa [putVec] using HM7.out), HV7⟩
  case round =>
    clear HM7 HV7
    obtain ⟨k, hk, rfl, HMk, HVk⟩ := hrel
    have hspec := putVec_spec L1 (L1 + 4 + k4) (ps.take k) 0 oc (fun p hp => HOK.out p (List.mem_of_mem_take hp)) (by have h1 := HK4.out; have h2 := HNN.out; simp; omega) (by rw [HLZ.out]; omega) (by
      have h1 := szParts_take_le ps k
      have h2 := HOUT.out
      rw [HLZ.out]
      omega)
    rw [List.map_take, HLZ.out] at hspec
    obtain ⟨hx1, hx2, -, -⟩ := hspec
    by_cases hlt : k < n
    · have hkl : k < ps.length := by rw [HNN.out]; exact hlt
      have hkm : k < (ps.map PartQ.P).length := by rw [List.length_map]; exact hkl
      have HTK := Lib.hid (putVec_take L1 (ps.map PartQ.P) k hkm oc)
      rw [List.getElem_map] at HTK
      have hsz := szParts_take ps k hkl
      have hokf := HOK.out ps[k] (List.getElem_mem hkl)
      have hcall := HCALL.out k hkl
      generalize ps[k].Q = pQ at *
      generalize ps[k].P = P at *
      generalize ps[k].sz = szk at *
      generalize putVec L1 ((ps.map PartQ.P).take k) 0 oc = oX at *
      have h2 := HOUT.out
      obtain ⟨hP1, hP2, -, hP4, hP5, -⟩ := hokf oX (by omega)
      have HCF : Hid (Calls Tryz.prog fid (#[.int .i64 k] ++ caps) wr fun e w' => e = .returned (.int .i64 (P oX).2) ∧ Mk M base (P oX).1 w' ∧ Moves M wr w') := Lib.hid (hcall wr oX HVk.out HMk.out (by have h1 := HK4.out; omega))
      clear hcall hokf hkm hkl
      obtain ⟨FR, hFR⟩ : ∃ FR, FR = L1 + 4 + 4 * k := ⟨_, rfl⟩
      rw [← hFR] at HTK
      have HFR := Lib.hid hFR
      have hFi : (L1 : Int) + 4 + 4 * k = FR := by omega
      have hFL : FR + 4 ≤ L1 + 4 + k4 := by have h1 := HK4.out; omega
      clear hFR
      go_wp2_with fail
      ((with_reducible refine HCF.out.mono ?_))
      rintro e w5 ⟨rfl, hm5, hmv5⟩
      have HM5 := Lib.hid hm5
      have HV5 := Lib.hid (HVk.out.trans hmv5)
      clear hm5 hmv5 HCF HMk HVk
      generalize (P oX).1 = oP at *
      generalize (P oX).2 = TO at *
      obtain ⟨LP, hLP⟩ : ∃ LP, LP = oP.length := ⟨_, rfl⟩
      rw [← hLP] at hP1 hP2 hP5
      have HLP : Hid (oP.length = LP) := Lib.hid hLP.symm
      clear hLP
      obtain ⟨D, hD⟩ : ∃ D, D = TO - FR := ⟨_, rfl⟩
      rw [← hD] at HTK
      have hlpb : LP < 900000000 := by have h1 := HK4.out; omega
      have hsub1 : IntKind.i64.wrap ((TO : Int) - FR) = D := by rw [IntKind.wrap_i64]; omega
      have hdb : D < 18446744073709551616 := by omega
      have hwr1 := wrap_nat D (D : Int) rfl hdb
      have HLI : Hid (∀ W, Calls Tryz.prog 23 #[.int .u64 (D : Int), .int .i64 4] W (LitPost2 D 4 W)) := little_u D 4 (D : Int) rfl (by decide) (by decide) hdb
      obtain ⟨ad7, cp7, hr7⟩ := Mk.row HM5.out
      rw [HLP.out] at hr7
      obtain ⟨g7, rfl, hc1, hc2⟩ := hr7.ptr HLP.out (by omega)
      have hcc : (0 : Int) ≤ FR ∧ (FR : Int) ≤ LP ∧ (LP : Int) ≤ cp7 := by omega
      have c0 := hr7.c0
      have c0d : w5.drew.cell? ⟨M, 0, none⟩ = _ := c0
      have f0 := hr7.f0 0
      have hM7 := hr7.lt
      have HR7 := Lib.hid hr7
      have hfl4 : FR + 4 ≤ LP := by omega
      clear hr7 h2 hD
      go_upto_region 10 with fail
      go_region_held3 (fun w' => w'.cell? ⟨M, 0, none⟩ = some (.slice (some ⟨g7, 0, none⟩) LP cp7)) (first | exact c09 | exact hr6.c0 | go_keep) (first
        | (refine step_mk_copy (by rfl) _ _ (by rfl) M base oP LP HLP.out g7 cp7 HR9.out FR (LP - FR) (cp7 - FR) (by rfl) (leB D 4) 4 (leB_length 4 _) (by omega) (by omega) ⟨g9, 0, none⟩ c9 (by rfl) HN9.out 4 (by rfl) ?_; intro w6 hr6 hmv6)
        | (go_at_call 23; ((with_reducible refine (HLI.out _).mono ?_)); rintro e w9 ⟨g9, c9, rfl, hn9, hb9⟩; have HN9 := Lib.hid hn9; have HR9 := Lib.hid (HR7.out.drew.below hb9); have c09 := HR9.out.c0; have f09 := HR9.out.f0 0)
        | fail "none")
      all_goals
        have HMN := Lib.hid hr6.mk
        rw [← HTK.out] at HMN
        have HVN := Lib.hid (hmv6 w ((HV5.out.drew).below hb9 hM7))
        clear hr6 hmv6 hP1 hP2 hP4 hP5 hx1 hx2 hsz hlpb hsub1 hdb hwr1 hcc c0 c0d f0 hfl4 hFi hFL hc1 hc2 hb9 hn9 c09 f09 HR9 HN9 HR7 HLI hM7
        go_wp2
        go_roundw
        case rel => exact ⟨k + 1, Nat.succ_le_of_lt hlt, step_int k, HMN, HVN⟩
        case measure => exact step_measure n k hlt
    · have hkn : n = k := by omega
      subst hkn
      rw [show (ps.map PartQ.P).take n = ps.map PartQ.P by rw [← HNN.out, ← List.length_map (f := PartQ.P)]; exact List.take_length] at HMk
      go_wp2
      go_ret
      rw [HT.out]
      exact ⟨rfl, HMk.out, HVk.out⟩

/-- Nodes that stand side by side, below N. -/
def ListIn (w : World) (N : Nat) (kids : List Tr) (a : Option Addr) : Prop :=
  0 < kids.length → ∃ b o : Nat, a = some ⟨b, o, none⟩ ∧ b < N ∧ ∀ j (hj : j < kids.length), ∃ (a' : Option Addr) (c' : Nat), NodeIn w (· < N) kids[j] (nodeU kids[j].kind kids[j].text kids[j].more kids[j].num a' kids[j].kids.length c') ∧
    w.cell? ⟨b, o + j * 5, none⟩ = some (.int .i64 kids[j].kind) ∧ w.cell? ⟨b, o + j * 5 + 1, none⟩ = some (.string kids[j].text) ∧ w.cell? ⟨b, o + j * 5 + 2, none⟩ = some (.string kids[j].more) ∧ w.cell? ⟨b, o + j * 5 + 3, none⟩ = some (.int .u64 kids[j].num) ∧ w.cell? ⟨b, o + j * 5 + 4, none⟩ = some (.slice a' kids[j].kids.length c')

theorem ListIn.keep {w w' : World} {N : Nat} {kids : List Tr} {a : Option Addr} (h : ListIn w N kids a) (hk : Keep (· < N) w w') : ListIn w' N kids a := fun h0 => by
  obtain ⟨b, o, h1, h2, h3⟩ := h h0
  refine ⟨b, o, h1, h2, fun j hj => ?_⟩
  obtain ⟨a', c', n0, d0, d1, d2, d3, d4⟩ := h3 j hj
  have e := hk b h2
  exact ⟨a', c', n0.keep hk, (cell_keep e).trans d0, (cell_keep e).trans d1, (cell_keep e).trans d2, (cell_keep e).trans d3, (cell_keep e).trans d4⟩

/-- The nodes in a node. -/
theorem ListIn.of {w : World} {N : Nat} {t : Tr} {a : Option Addr} {l c : Nat} {k : Int} {x m : ByteArray} {n : Int} {ks : List Tr} (h : NodeIn w (· < N) (.mk k x m n ks) (nodeU k x m n a l c)) : ListIn w N ks a := fun h0 => by
  obtain ⟨b, o, h1, h2, h3⟩ := h.kidsAt h0
  exact ⟨b, o, h1, h2, fun j hj => h3 w (Keep.refl _ w) j hj⟩

/-- .. but the first ones. -/
theorem ListIn.drop {w : World} {N : Nat} {ks : List Tr} {b o : Nat} (h : ListIn w N ks (some ⟨b, o, none⟩)) (k : Nat) : ListIn w N (ks.drop k) (some ⟨b, o + k * 5, none⟩) := fun h0 => by
  rw [List.length_drop] at h0
  obtain ⟨b', o', h1, h2, h3⟩ := h (by omega)
  simp only [Option.some.injEq, Addr.mk.injEq, and_true] at h1
  obtain ⟨rfl, rfl⟩ := h1
  refine ⟨b, o + k * 5, rfl, h2, fun j hj => ?_⟩
  rw [List.length_drop] at hj
  obtain ⟨a', c', h4⟩ := h3 (k + j) (by omega)
  refine ⟨a', c', ?_⟩
  simp only [List.getElem_drop]
  rw [show o + k * 5 + j * 5 = o + (k + j) * 5 by omega]
  exact h4

/-- All nodes of a list are written. -/
structure KidWriter (M : Nat) (base : Bool) (N : Nat) (kids : List Tr) (ps : List PartQ) : Prop where
  len : ps.length = kids.length
  few : kids.length ≤ 1000
  ok : ∀ p ∈ ps, PartOk p.P p.sz p.Q
  wr : ∀ i (h : i < kids.length) (h2 : i < ps.length) v, NodeWrites M base N kids[i] v ps[i].P ps[i].sz

/-- A slot that refers to a list of nodes. -/
def listQ (i : Nat) (ps : List PartQ) : SlotQ := ⟨⟨i, 4, 0, some (vecB (ps.map PartQ.P))⟩, 8 + 4 * ps.length + szParts ps, VecQ ps⟩

set_option maxHeartbeats 1000000 in
set_option maxRecDepth 100000 in
theorem listAt_any (i : Int) (a : Option Addr) (n c : Nat) (w : World) :
    Calls Tryz.prog 193 #[.int .i64 i, .slice a n c] w fun e w' => e = .returned (.agg #[.int .i64 i, .int .i64 4, .int .u64 0, .func (.func 218) #[] #[.pointer (some ⟨w.heap.size, 0, none⟩)]]) ∧ w'.heap[w.heap.size]? = some (.cells #[.slice a n c] 23 (0, 0)) ∧ Below w.heap.size w w' := by
  have hmf : ∀ (fn : Fn) (first cap : Array Value) (w : World), (Instr.makeFunc fn first cap).run Tryz.prog w = .ok (.func fn first cap) w := fun _ _ _ _ => rfl
  go_enter Tryz.func193, Tryz.ntmps193
  go_wp2
  have hb := (Below.refl w.heap.size w).alloc (Nat.le_refl _) (.cells #[.slice a n c] 23)
  refine bodyPost_ret (v := .agg #[.int .i64 i, .int .i64 4, .int .u64 0, .func (.func 218) #[] #[.pointer (some ⟨w.heap.size, 0, none⟩)]]) (by simp [results, Tryz.results193, go_sem]) rfl ⟨rfl, ?_, hb.alloc hb.size _⟩
  exact (Below.heap_alloc _ _ _ (by rw [alloc_size]; omega)).trans (heap_alloc_new w _)

set_option maxHeartbeats 2000000 in
set_option maxRecDepth 100000 in
/-- One of a list's nodes is written. -/
theorem listElem_any (M : Nat) (base : Bool) (out : List UInt8) (j mb lb b o n c : Nat) (hj : j < n) (k : Int) (t m : ByteArray) (u : Int) (a' : Option Addr) (l' c' : Nat) (P : List UInt8 → List UInt8 × Nat) (w : World)
    (hm : w.heap[mb]? = some (.cells #[.pointer (some ⟨M, 0, none⟩)] 53 (0, 0))) (hl : w.heap[lb]? = some (.cells #[.slice (some ⟨b, o, none⟩) n c] 23 (0, 0)))
    (d0 : w.cell? ⟨b, o + j * 5, none⟩ = some (.int .i64 k)) (d1 : w.cell? ⟨b, o + j * 5 + 1, none⟩ = some (.string t)) (d2 : w.cell? ⟨b, o + j * 5 + 2, none⟩ = some (.string m)) (d3 : w.cell? ⟨b, o + j * 5 + 3, none⟩ = some (.int .u64 u)) (d4 : w.cell? ⟨b, o + j * 5 + 4, none⟩ = some (.slice a' l' c'))
    (hn : Calls Tryz.prog 22 #[.pointer (some ⟨M, 0, none⟩), .agg #[.int .i64 k, .string t, .string m, .int .u64 u, .slice a' l' c']] w.drew (AtPost M base (P out).1 (P out).2 w.drew)) :
    Calls Tryz.prog 220 #[.int .i64 j, .pointer (some ⟨mb, 0, none⟩), .pointer (some ⟨lb, 0, none⟩)] w (AtPost M base (P out).1 (P out).2 w) := by
  have c0 : w.cell? ⟨mb, 0, none⟩ = some (.pointer (some ⟨M, 0, none⟩)) := by rw [Lib.cell_of_heap hm]; rfl
  have c1 : w.cell? ⟨lb, 0, none⟩ = some (.slice (some ⟨b, o, none⟩) n c) := by rw [Lib.cell_of_heap hl]; rfl
  have HT : Hid (Calls Tryz.prog 22 #[.pointer (some ⟨M, 0, none⟩), .agg #[.int .i64 k, .string t, .string m, .int .u64 u, .slice a' l' c']] w.drew fun e w' => e = .returned (.int .i64 (P out).2) ∧ Mk M base (P out).1 w' ∧ Moves M w.drew w') := Lib.hid hn
  have hj1 : (j : Int) < n := by omega
  have hj0 : (0 : Int) ≤ j := by omega
  clear hn hm hl
  go_enter Tryz.func220, Tryz.ntmps220
  go_upto_region 1 with fail
  go_region_with ((go_at_call 22; with_reducible refine HT.out.mono ?_; rintro e w2 ⟨rfl, h1, h2⟩))
  all_goals
    go_wp2
    go_ret
    exact ⟨rfl, h1, (Moves.refl M w).drew.trans h2⟩

theorem le_of_all {N n : Nat} (h : ∀ r, r < N → r < n) : N ≤ n := by
  rcases Nat.eq_zero_or_pos N with h0 | h0
  · omega
  · have := h (N - 1) (by omega)
    omega

/-- What a list's function writes, while its blocks stand. -/
theorem list_vec {M : Nat} {base : Bool} {N mb lb : Nat} {kids : List Tr} {ps : List PartQ} {a : Option Addr} {c : Nat} {w : World} (hk : KidWriter M base N kids ps) (ht : ListIn w N kids a) (hNw : ∀ r, r < N → r < w.heap.size ∧ MkOther M r w)
    (hm : OtherAt M mb (.cells #[.pointer (some ⟨M, 0, none⟩)] 53 (0, 0)) w) (hl : OtherAt M lb (.cells #[.slice a kids.length c] 23 (0, 0)) w) :
    FnVec M base w (.func (.func 220) #[] #[.pointer (some ⟨mb, 0, none⟩), .pointer (some ⟨lb, 0, none⟩)]) ps := by
  refine ⟨_, _, rfl, fun args W => Tryz.call220 args W, fun i hi W out hmv hmk hsz => ?_⟩
  have hi2 : i < kids.length := by rw [← hk.len]; exact hi
  have hkeep : ∀ r, r < N → W.heap[r]? = w.heap[r]? ∧ MkOther M r W := fun r hr => hmv.keep r (hNw r hr).1 (hNw r hr).2
  obtain ⟨b, o, rfl, hbN, hkid⟩ := (ht.keep (fun r hr => (hkeep r hr).1)) (by omega)
  obtain ⟨a', c', n0, d0, d1, d2, d3, d4⟩ := hkid i hi2
  exact listElem_any M base out i mb lb b o kids.length c hi2 _ _ _ _ a' _ c' ps[i].P W (hm.go hmv).1 (hl.go hmv).1 d0 d1 d2 d3 d4 (hk.wr i hi2 hi _ W.drew out hmk (NodeIn.keep (w := W) (w' := W.drew) (B := (· < N)) (fun _ _ => rfl) n0) (fun r hr => (hkeep r hr).2) (Nat.le_trans (le_of_all fun r hr => (hNw r hr).1) hmv.size) hsz)

set_option maxHeartbeats 2000000 in
set_option maxRecDepth 100000 in
theorem list_ref {M : Nat} {base : Bool} {N lb : Nat} {kids : List Tr} {ps : List PartQ} {a : Option Addr} {c : Nat} {out : List UInt8} {w : World} (h : Mk M base out w) (hk : KidWriter M base N kids ps) (ht : ListIn w N kids a) (hNw : ∀ r, r < N → r < w.heap.size ∧ MkOther M r w)
    (hl : OtherAt M lb (.cells #[.slice a kids.length c] 23 (0, 0)) w) (hout : out.length + (8 + 4 * ps.length + szParts ps) < 900000000) :
    Calls Tryz.prog 218 #[.pointer (some ⟨M, 0, none⟩), .pointer (some ⟨lb, 0, none⟩)] w (AtPost M base (vecB (ps.map PartQ.P) out).1 (vecB (ps.map PartQ.P) out).2 w) := by
  have hM := h.lt
  have hal := (Below.refl w.heap.size w).alloc (Nat.le_refl _) (.cells #[.pointer (some ⟨M, 0, none⟩)] 53)
  have hmv := (Moves.refl M w).below hal hM
  have hl2 := hl.go hmv
  have hmb : OtherAt M w.heap.size (.cells #[.pointer (some ⟨M, 0, none⟩)] 53 (0, 0)) (w.alloc (.cells #[.pointer (some ⟨M, 0, none⟩)] 53)) := ⟨heap_alloc_new w _, MkAt.newer h (Nat.le_refl _) (hal.cell (p := ⟨M, 0, none⟩) hM)⟩
  have hvec := list_vec hk (ht.keep (fun r hr => (hal.block r (hNw r hr).1))) (fun r hr => ⟨Nat.lt_of_lt_of_le (hNw r hr).1 hal.size, (hmv.keep r (hNw r hr).1 (hNw r hr).2).2⟩) hmb hl2
  have HT := Lib.hid (tables_any ps (by rw [hk.len]; exact hk.few) hk.ok M base out _ _ (h.below hal) hvec hout)
  rw [hk.len] at HT
  have c1 : (w.alloc (.cells #[.pointer (some ⟨M, 0, none⟩)] 53)).cell? ⟨lb, 0, none⟩ = some (.slice a kids.length c) := by rw [Lib.cell_of_heap hl2.1]; rfl
  have hmf : ∀ (fn : Fn) (first cap : Array Value) (w : World), (Instr.makeFunc fn first cap).run Tryz.prog w = .ok (.func fn first cap) w := fun _ _ _ _ => rfl
  have HMV := Lib.hid hmv
  clear h hk ht hNw hl hl2 hmb hvec hal hmv hout
  go_enter Tryz.func218, Tryz.ntmps218
  go_wp2_with (go_at_call 219; with_reducible refine HT.out.mono ?_)
  rintro e w2 ⟨rfl, h1, h2⟩
  go_wp2
  go_ret
  exact ⟨rfl, h1, HMV.out.trans h2⟩

theorem list_FnD {M : Nat} {base : Bool} {N lb i : Nat} {kids : List Tr} {ps : List PartQ} {a : Option Addr} {c : Nat} {w : World} (hk : KidWriter M base N kids ps) (hN : N ≤ w.heap.size) (ht : ListIn w N kids a)
    (hb : w.heap[lb]? = some (.cells #[.slice a kids.length c] 23 (0, 0))) :
    FnD M base (fun r => r < N ∨ r = lb) w (.func (.func 218) #[] #[.pointer (some ⟨lb, 0, none⟩)]) (listQ i ps).s (listQ i ps).sz := by
  intro W hW
  have hbl := (Array.getElem?_eq_some_iff.1 hb).1
  refine ⟨_, _, rfl, fun args W => Tryz.call218 args W, fun W' out hm hmk hsz => ?_⟩
  have hlt : ∀ r, r < w.heap.size → W.heap[r]? = w.heap[r]? → r < W.heap.size := fun r hr e => by
    rw [Array.getElem?_eq_getElem hr] at e
    exact (Array.getElem?_eq_some_iff.1 e).1
  have h1 := hW lb (.inr rfl)
  have hl1 : OtherAt M lb (.cells #[.slice a kids.length c] 23 (0, 0)) W := ⟨h1.1.trans hb, h1.2⟩
  have hkeep : ∀ r, r < N → W'.heap[r]? = w.heap[r]? ∧ r < W'.heap.size ∧ MkOther M r W' := fun r hr => by
    have h3 := hW r (.inl hr)
    have h5 := hlt r (Nat.lt_of_lt_of_le hr hN) h3.1
    have h4 := hm.keep r h5 h3.2
    exact ⟨h4.1.trans h3.1, Nat.lt_of_lt_of_le h5 hm.size, h4.2⟩
  exact list_ref hmk hk (ht.keep fun r hr => (hkeep r hr).1) (fun r hr => (hkeep r hr).2) (hl1.go hm) hsz

/-- One slot of a list, in a new row. -/
theorem list_slots {M : Nat} {base : Bool} {N i B : Nat} {out : List UInt8} {kids : List Tr} {ps : List PartQ} {a : Option Addr} {c : Nat} {w w1 w2 : World}
    (h : Mk M base out w) (hN : N ≤ w.heap.size) (ho : ∀ r, r < N → MkOther M r w) (hk : KidWriter M base N kids ps) (ht : ListIn w N kids a) (hb1 : Below w.heap.size w w1) (hb2 : Below w1.heap.size w1 w2) (hB : B = w1.heap.size)
    (hb : w2.heap[B]? = some (.cells #[.slice a kids.length c] 23 (0, 0))) :
    SlotsPost M base [listQ i ps] w (.returned (.slice (some ⟨w2.heap.size, 0, none⟩) 1 1)) (w2.alloc (.cells #[.int .i64 i, .int .i64 4, .int .u64 0, .func (.func 218) #[] #[.pointer (some ⟨B, 0, none⟩)]] 267)) := by
  subst hB
  have hM := h.lt
  have hb12 : Below w.heap.size w w2 := hb1.trans (hb2.mono hb1.size)
  have hb3 := hb12.alloc hb12.size (.cells #[.int .i64 i, .int .i64 4, .int .u64 0, .func (.func 218) #[] #[.pointer (some ⟨w1.heap.size, 0, none⟩)]] 267)
  have hrow := heap_alloc_new w2 (.cells #[.int .i64 i, .int .i64 4, .int .u64 0, .func (.func 218) #[] #[.pointer (some ⟨w1.heap.size, 0, none⟩)]] 267)
  have hbl := (Array.getElem?_eq_some_iff.1 hb).1
  have hbox := (Below.heap_alloc w2 (.cells #[.int .i64 i, .int .i64 4, .int .u64 0, .func (.func 218) #[] #[.pointer (some ⟨w1.heap.size, 0, none⟩)]] 267) _ hbl).trans hb
  have hsz3 : (w2.alloc (.cells #[.int .i64 i, .int .i64 4, .int .u64 0, .func (.func 218) #[] #[.pointer (some ⟨w1.heap.size, 0, none⟩)]] 267)).heap.size = w2.heap.size + 1 := alloc_size _ _
  refine ⟨_, [(listQ i ps, .func (.func 218) #[] #[.pointer (some ⟨w1.heap.size, 0, none⟩)])], fun r => r < N ∨ r = w1.heap.size, rfl, rfl, ⟨rfl, .inr ⟨w2.heap.size, 1, _, rfl, hb12.size, hrow, Nat.le_refl _, by decide, rfl, rfl⟩⟩, hb3, fun r hr => ?_, fun p hp => ?_⟩
  · rcases hr with hr | rfl
    · refine ⟨by have := hb12.size; omega, (ho r hr).below hM hb3, ?_⟩
      show some w2.heap.size ≠ some r
      intro e
      have e2 := Option.some.inj e
      have := hb12.size
      omega
    · refine ⟨by omega, MkAt.newer (h.below hb1) (Nat.le_refl _) ?_, ?_⟩
      · exact ((hb2.alloc hb2.size _).cell (p := ⟨M, 0, none⟩) (Nat.lt_of_lt_of_le hM hb1.size))
      · show some w2.heap.size ≠ some w1.heap.size
        intro e
        have e2 := Option.some.inj e
        omega
  · rw [List.mem_singleton] at hp
    rw [hp]
    exact list_FnD hk (Nat.le_trans hN hb3.size) (ht.keep (Keep.of_below hb3 hN)) hbox

theorem list_part {i : Nat} {ps : List PartQ} (hn : ps.length < 100000) (hp : ∀ p ∈ ps, PartOk p.P p.sz p.Q) (P' : List UInt8 → List UInt8 × Nat) (hP : (listQ i ps).s.ref = some P') : (listQ i ps).s.width = 4 ∧ PartOk P' (listQ i ps).sz (listQ i ps).Q := by
  obtain rfl : vecB (ps.map PartQ.P) = P' := by
    unfold listQ at hP
    exact Option.some.inj hP
  exact ⟨rfl, vec_ok ps hn hp⟩

/-- .. but the first one, as the slice says it. -/
theorem ListIn.tail {w : World} {N : Nat} {x : Tr} {ks : List Tr} {b o c : Nat} (h : ListIn w N (x :: ks) (some ⟨b, o, none⟩)) : ListIn w N ks (if c = 1 then some ⟨b, o, none⟩ else some ⟨b, o + 5, none⟩) ∨ (c = 1 ∧ 0 < ks.length) := by
  by_cases hc : c = 1
  · by_cases h0 : 0 < ks.length
    · exact .inr ⟨hc, h0⟩
    · exact .inl fun h1 => absurd h1 h0
  · rw [if_neg hc]
    exact .inl (by simpa using h.drop 1)

/-- What comes behind the first node: how the slice of it is made. -/
theorem tail_slice {w : World} {N : Nat} {x : Tr} {ks : List Tr} {b o c : Nat} (h : ListIn w N (x :: ks) (some ⟨b, o, none⟩)) (hc : ks.length + 1 ≤ c) : ∃ a2 : Option Addr, ListIn w N ks a2 ∧ ∀ W, (Instr.slice 23 (.slice (some ⟨b, o, none⟩) (ks.length + 1) c) (some (.int .i64 1)) none none).run Tryz.prog W = .ok (.slice a2 ks.length (c - 1)) W := by
  refine ⟨if c = 1 then some ⟨b, o, none⟩ else some ⟨b, o + 5, none⟩, ?_, fun W => ?_⟩
  · rcases h.tail (c := c) with h1 | ⟨h1, h2⟩
    · exact h1
    · omega
  · obtain ⟨i0, hi, hz0, hz1, hz2⟩ := info_parts node_info
    have hz : ∀ W, (Go.sizeOf 25).run Tryz.prog W = .ok 5 W := fun W => by
      rw [run_sizeOf W hi]
      show Result.ok (((Tryz.prog.info? 25).map (·.size)).getD 0) W = _
      rw [hi]
      show Result.ok i0.size W = _
      rw [hz1]
    have he : Tryz.prog.elem 23 = 25 := by simp [Program.elem, Tryz.underlying23]
    rw [run_slice_l W 23 (some ⟨b, o, none⟩) (ks.length + 1) c (by rw [he]; exact Tryz.underlying23) .i64 1 (by omega) (by omega), he, hz]
    show Result.ok (Value.slice (if c = 1 then some ⟨b, o, none⟩ else Option.map _ _) _ _) W = _
    by_cases hc1 : c = 1
    · rw [if_pos hc1, if_pos hc1]; rfl
    · rw [if_neg hc1, if_neg hc1]; rfl

end Go.Proofs.YtgceklahjdbipaaGreatDoor
