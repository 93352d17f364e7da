/- ast: types with lists, out of buffers. -/
import Derived.Test.YtgceklahjdbipaaGreatDoorTyField
namespace Go.Proofs.YtgceklahjdbipaaGreatDoor
open Go Go.RowKit
set_option linter.unusedVariables false
set_option linter.unusedSimpArgs false


set_option maxHeartbeats 8000000 in
set_option maxRecDepth 100000 in
theorem fromRecordType_q (b g L c p size : Nat) (bs : List UInt8) (q : List Nat) (hq : TypeQ bs p size q) (t1 : Tr) {Q1 : List UInt8 → Nat → Prop} (hx1 : OptF t1 Q1 bs p q 2) (kids : List Tr) (ps : List PartQ) (hps : ps.length = kids.length) (hlen : kids.length ≤ 400) (hkd : ∀ x ∈ kids, x.kind = 50) (hrd : ∀ j (h : j < kids.length) (h2 : j < ps.length), ReadsAs kids[j] ps[j].Q) (hv : VecF ps bs p q 1) (w : World) (h : TabAt b g L c p bs w) :
    Calls Tryz.prog 120 #[.agg #[.pointer none, .slice none 0 0, .slice none 0 0, .slice none 0 0, .pointer none], .pointer (some ⟨b, 0, none⟩)] w (MadeP 311 (.mk 49 ⟨#[]⟩ ⟨#[]⟩ 0 (t1 :: kids)) w) := by
  have HX1 := Lib.hid (fun W (hW : TabAt b g L c p bs W) => tvarRecordType_q b g L c p size bs q hq hx1 W hW)
  obtain ⟨⟨v1, v2, v3⟩, tv, t1v, t2v, t3v, t4v, t5v⟩ := hv
  rw [hps] at t3v t4v
  have HLN := Lib.hid (fun W (hW : TabAt b g L c p bs W) => propertiesLengthRecordType_there b g L c p bs size q hq.vt hq.s4 hq.few v1 _ rfl v2 v3 tv kids.length t1v t2v t3v t4v W hW)
  have HV := Lib.hid (fun (j z : Nat) (hj : j < kids.length) (h1 : tv + 4 + 4 * j ≤ z) (h2 : rd bs (tv + 4 + 4 * j) 4 = z - (tv + 4 + 4 * j)) (h3 : z + 4 ≤ bs.length) (r : Nat) (x0 x1 : Value) W (hW : TabAt b g L c p bs W) hr0 => propertiesRecordType_there b g L c p bs size q hq.vt hq.s4 hq.few v1 _ rfl v2 v3 tv kids.length t1v t2v t3v t4v j z hj h1 h2 h3 r x0 x1 W hW hr0)
  have HVK : Hid (∀ j (hj : j < kids.length), ∃ z, rd bs (tv + 4 + 4 * j) 4 = z - (tv + 4 + 4 * j) ∧ tv + 4 + 4 * j ≤ z ∧ z + 4 ≤ bs.length ∧ ∀ r W, TabAt r g L c z bs W → Calls Tryz.prog 27 #[.agg #[.pointer none, .slice none 0 0, .slice none 0 0, .pointer none, .nilIface], .pointer (some ⟨r, 0, none⟩)] W (MadeP 67 kids[j] W)) := Lib.hid fun j hj => by
    obtain ⟨z, e1, e2, e3, e4⟩ := t5v j (by omega)
    exact ⟨z, e1, e2, e3, fun r W hW => reads50 (hrd j hj (by omega)) (hkd _ (List.getElem_mem hj)) e4 hW⟩
  have hmf : ∀ (fn : Fn) (first cap : Array Value) (w : World), (Instr.makeFunc fn first cap).run Tryz.prog w = .ok (.func fn first cap) w := fun _ _ _ _ => rfl
  have HBN := Lib.hid (fun W (hW : TabAt b g L c p bs W) => baseNodeRecordType_q b g L c p size bs q hq W hW)
  have hb0 := (Below.refl _ w).alloc (Nat.le_refl _) (.cells #[.pointer none, .slice none 0 0, .slice none 0 0, .slice none 0 0, .pointer none] 314)
  have HS0 : Hid (FromIn w b g L c p bs #[.pointer none, .slice none 0 0, .slice none 0 0, .slice none 0 0, .pointer none] 314 (w.alloc (.cells #[.pointer none, .slice none 0 0, .slice none 0 0, .slice none 0 0, .pointer none] 314))) := Lib.hid ⟨h.below hb0, heap_alloc_new w _, hb0, h.bl, h.gl⟩
  have hsz0 : (w.alloc (.cells #[.pointer none, .slice none 0 0, .slice none 0 0, .slice none 0 0, .pointer none] 314)).heap.size = w.heap.size + 1 := by simp
  have HZ0 := Lib.hid hsz0
  clear h hq hb0 hsz0 hx1 v1 v2 v3 t1v t2v t3v t4v t5v hkd hrd hps
  go_enter Tryz.func120, Tryz.ntmps120
  go_wp2_with fail
  ((with_reducible refine (HBN.out _ HS0.out.tab).mono ?_))
  rintro e w1 ⟨ad, rfl, hb1, had⟩
  have HS1 := Lib.hid (HS0.out.below hb1)
  have HA := Lib.hid (base_any w.heap.size _ _ g L c bs ad w1 (had.imp id fun ⟨r, q', h1, h2, h3, h4⟩ => ⟨r, q', h1, by have := HZ0.out; omega, h3, h4⟩) HS1.out.row rfl (by have := HS1.out.ng; omega))
  clear hb1 had
  go_wp2_with fail
  ((with_reducible refine HA.out.mono ?_))
  rintro e w3 ⟨rfl, hb3⟩
  have HS3 := Lib.hid (HS1.out.below hb3)
  clear hb3
  go_wp2_with fail
  ((with_reducible refine (HX1.out _ HS3.out.tab).mono ?_))
  rintro e wa1 ⟨aa1, rfl, hba1, hopt1⟩
  have HSa1 := Lib.hid (HS3.out.below hba1)
  have HNM1 := Lib.hid (fromName_any hopt1)
  clear hba1 hopt1
  go_wp2_with fail
  ((with_reducible refine HNM1.out.mono ?_))
  rintro e wb1 ⟨ad1, rfl, hbb1, hopt1⟩
  have HSb1 := Lib.hid (HSa1.out.below hbb1)
  have HGb1 := Lib.hid (OptK.of hopt1 HSa1.out.lt)
  have k4 : wb1.cell? ⟨w.heap.size, 4, none⟩ = some (.pointer none) := HSb1.out.cell 4
  have f4 := HSb1.out.frozen 4
  have HZ1 : Hid (FromIn w b g L c p bs #[.pointer none, .slice none 0 0, .slice none 0 0, .slice none 0 0, .pointer ad1] 314 (wb1.setCell ⟨w.heap.size, 4, none⟩ (.pointer ad1))) := Lib.hid (HSb1.out.set 4 (.pointer ad1))
  have HGb1z1 := Lib.hid (HGb1.out.set 4 (.pointer ad1))
  clear hbb1 hopt1
  go_wp2_with fail
  have hszS : wb1.heap.size = (wb1.setCell ⟨w.heap.size, 4, none⟩ (.pointer ad1)).heap.size := by simp [World.setCell]
  generalize (wb1.setCell ⟨w.heap.size, 4, none⟩ (.pointer ad1)) = wS at *
  obtain ⟨top, htop⟩ : ∃ top, top = wS.heap.size := ⟨_, rfl⟩
  have HTOP : Hid (w.heap.size < top) := Lib.hid (by rw [htop]; exact HZ1.out.lt)
  have HKS := Lib.hid (HGb1z1.out.top (by omega) (Nat.le_of_eq htop))
  have HST : Hid (Stood top w.heap.size wS wS) := Lib.hid (Stood.refl _ _ _)
  have HTW := Lib.hid htop
  clear htop hszS
  go_loopw [5] (fun i wr => ∃ k : Nat, k ≤ kids.length ∧ i = .int .i64 k ∧ ∃ al cc, Hid (FromIn w b g L c p bs #[.pointer none, .slice none 0 0, .slice none 0 0, .slice al k cc, .pointer ad1] 314 wr) ∧ Hid (RowG 67 67 top wr (.slice al k cc) (kids.take k)) ∧ Hid (Stood top w.heap.size wS wr)) (fun i _ => kids.length - (intOf i).toNat)
  case atStart => exact ⟨0, Nat.zero_le _, rfl, none, 0, HZ1, Lib.hid (RowG.nil _ _ _ _), HST⟩
  case round =>
    obtain ⟨k, hk, rfl, al, cc, HS, HRG, HSD⟩ := hrel
    go_wp2_with fail
    ((with_reducible refine (HLN.out _ HS.out.tab).mono ?_))
    rintro e w6 ⟨rfl, hm6⟩
    have hb6 := reads_below hm6
    have htw : top ≤ _ := Nat.le_trans (Nat.le_of_eq HTW.out) HSD.out.1
    have HS6 := Lib.hid (HS.out.below hb6)
    have HR6 := Lib.hid (HRG.out.below hb6)
    have HD6 := Lib.hid (HSD.out.below htw hb6)
    clear hm6 hb6 htw
    by_cases hlt : k < kids.length
    · obtain ⟨z, e1, e2, e3, e4⟩ := HVK.out k hlt
      have hba := (Below.refl w6.heap.size w6).alloc (Nat.le_refl _) (.cells #[.slice none 0 0, .int .u32 0] 277)
      have HVA := Lib.hid (HV.out k z hlt e2 e1 e3 w6.heap.size _ _ (w6.alloc (.cells #[.slice none 0 0, .int .u32 0] 277)) (HS6.out.tab.below hba) (heap_alloc_new w6 (.cells #[.slice none 0 0, .int .u32 0] 277)))
      have HTM := Lib.hid (fun m => tab_made_drew HS6.out.tab.rowAt m z (.slice none 0 0) (.int .u32 0) 277)
      have HTK : Hid (kids.take (k + 1) = kids.take k ++ [kids[k]]) := Lib.hid (List.take_succ_eq_append_getElem hlt)
      have HLT : Hid ((kids.take k).length = k) := Lib.hid (by rw [List.length_take]; omega)
      have HE4 := Lib.hid (e4 w6.heap.size)
      clear e1 e2 e3 e4 hba
      generalize kids[k] = tr at *
      go_wp2_with fail
      ((with_reducible refine HVA.out.mono ?_))
      rintro e w7 ⟨rfl, m7, rfl⟩
      obtain ⟨ht7, hb7⟩ := HTM.out m7
      clear HVA HTM
      generalize initW ((w6.alloc (.cells #[.slice none 0 0, .int .u32 0] 277)).drewN m7) w6.heap.size (.slice (some ⟨g, 0, none⟩) L c) z = w7 at *
      have HS7 := Lib.hid (HS6.out.below hb7)
      have HR7 := Lib.hid (HR6.out.below hb7)
      have HD7 := Lib.hid (HD6.out.below (Nat.le_trans (Nat.le_of_eq HTW.out) HD6.out.1) hb7)
      have HFD := Lib.hid (HE4.out _ ht7)
      have HFDd : Hid (Calls Tryz.prog 27 #[.agg #[.pointer none, .slice none 0 0, .slice none 0 0, .pointer none, .nilIface], .pointer (some ⟨w6.heap.size, 0, none⟩)] w7.drew (MadeP 67 tr w7.drew)) := Lib.hid (HE4.out _ (ht7.drewN 1))
      have HS7d : Hid (FromIn w b g L c p bs #[.pointer none, .slice none 0 0, .slice none 0 0, .slice al k cc, .pointer ad1] 314 w7.drew) := Lib.hid HS7.out.drew
      have c7 : w7.cell? ⟨w.heap.size, 3, none⟩ = some (.slice al k cc) := HS7.out.cell 3
      have f7 := HS7.out.frozen 3
      clear ht7 hb7 HS6 HS HE4
      go_wp2_with fail
      have HR7d := Lib.hid (HR7.out.below (Below.refl _ w7).drew)
      have HTS : Hid (top ≤ w7.drew.heap.size) := Lib.hid (Nat.le_trans (Nat.le_of_eq HTW.out) HD7.out.1)
      have HA4 : Hid (∀ r, (Value.slice al k cc).ownBlock = some r → r < w7.drew.heap.size) := Lib.hid (by obtain ⟨rs, _, _, h3, _⟩ := HR7d.out; exact fun r e => (h3.lt r e).2)
      have c7d : w7.drew.cell? ⟨w.heap.size, 3, none⟩ = some (.slice al k cc) := HS7d.out.cell 3
      have HLK : Hid (k = (kids.take k).length ∧ (kids.take k).length ≤ 1000) := Lib.hid ⟨HLT.out.symm, by rw [HLT.out]; omega⟩
      go_region_law (first
        | (refine step_append_kid Tryz.underlying312 (by kernel_rfl) (by rfl) _ _ (by rfl) HS9.out HTOP.out HLW9.out HLK.out.1 HLK.out.2 (by rfl) HR9.out (by rfl) HTS.out HLE9.out HA4.out HN9.out (by rfl) HX9.out ?_; intro g' cap w8 hf8 hr8 hlow8 hsz8; have c8 := hf8.cell 3; have f8 := hf8.frozen 3)
        | (go_simp; go_wp2_with (go_at_call 27; ((with_reducible refine HFDd.out.mono ?_)); rintro e w9 ⟨r9, rfl, hr9, hg9, hb9⟩; have HS9 := Lib.hid ((HS7d.out.below hb9).below ((Below.refl _ w9).alloc (Nat.le_refl _) (.cells #[.pointer (some ⟨r9, 0, none⟩)] 67))); have HR9 := Lib.hid ((HR7d.out.below hb9).below ((Below.refl _ w9).alloc (Nat.le_refl _) (.cells #[.pointer (some ⟨r9, 0, none⟩)] 67))); have HN9 := Lib.hid (hg9.stands.keep (w' := w9.alloc (.cells #[.pointer (some ⟨r9, 0, none⟩)] 67)) (fun r _ hr => Below.heap_alloc _ _ _ hr)); have HLE9 : Hid (w9.heap.size ≤ (w9.alloc (.cells #[.pointer (some ⟨r9, 0, none⟩)] 67)).heap.size) := Lib.hid (by rw [alloc_size]; exact Nat.le_succ _); have HLW9 : Hid (top ≤ (w9.alloc (.cells #[.pointer (some ⟨r9, 0, none⟩)] 67)).heap.size) := Lib.hid (Nat.le_trans HTS.out (Nat.le_trans hb9.size HLE9.out)); have HX9 := Lib.hid (heap_alloc_new w9 (.cells #[.pointer (some ⟨r9, 0, none⟩)] 67)); have c9 := (HS7d.out.below hb9).cell 3; have c9a := HS9.out.cell 3)))
      all_goals
        have HS8 := Lib.hid (hf8.set 3 (.slice (some ⟨g', 0, none⟩) (k + 1) cap))
        have HR8 : Hid (RowG 67 67 top (w8.setCell ⟨w.heap.size, 3, none⟩ (.slice (some ⟨g', 0, none⟩) (k + 1) cap)) (.slice (some ⟨g', 0, none⟩) (k + 1) cap) (kids.take (k + 1))) := Lib.hid (by rw [HTK.out]; exact hr8.set HTOP.out 3 _)
        have HD8 : Hid (Stood top w.heap.size wS (w8.setCell ⟨w.heap.size, 3, none⟩ (.slice (some ⟨g', 0, none⟩) (k + 1) cap))) := Lib.hid (Stood.set ⟨Nat.le_trans HD7.out.1 (Nat.le_trans hb9.size (Nat.le_trans HLE9.out hsz8)), fun r h1 h2 => ((hlow8 r h1).trans ((Below.heap_alloc _ _ _ (Nat.lt_of_lt_of_le h1 (Nat.le_trans HTS.out hb9.size))).trans (hb9.block r (Nat.lt_of_lt_of_le h1 HTS.out)))).trans (HD7.out.2 r h1 h2)⟩ 3 _)
        clear hf8 hr8 hlow8 hsz8 hb9 hg9 hr9 c9 c9a c7d c7 f7 c8 f8
        go_wp2
        go_roundw
        case rel => exact ⟨k + 1, by omega, by go_num, some ⟨g', 0, none⟩, cap, HS8, HR8, HD8⟩
        case measure => simp [intOf]; omega
    · have hke : k = kids.length := by omega
      subst hke
      have HRN : Hid (RowG 67 67 top w6 (.slice al kids.length cc) kids) := Lib.hid (by have := HR6.out; rwa [List.take_length] at this)
      have HKN := Lib.hid (HKS.out.stood (Nat.le_refl _) HD6.out)
      have hl1000 : kids.length ≤ 1000 := by omega
      go_wp2
      go_ret
      exact ⟨_, rfl, Nat.le_refl _, giveRecordType HS6.out.row (Nat.le_refl _) hl1000 HKN.out.gives (HRN.out.low (Nat.le_of_lt HTOP.out)), HS6.out.bel⟩


set_option maxHeartbeats 8000000 in
set_option maxRecDepth 100000 in
theorem fromFunctionType_q (b g L c p size : Nat) (bs : List UInt8) (q : List Nat) (hq : TypeQ bs p size q) (t1 : Tr) {Q1 : List UInt8 → Nat → Prop} (hk1 : typeB t1.kind) (hR1 : ReadsAs t1 Q1) (u1 : Nat) (hu1 : u1 = (choiceOf t1.kind).toNat) (hc1 : ByteF u1 bs p q 2) (hx1 : KidF Q1 bs p q 3) (kids : List Tr) (ps : List PartQ) (hps : ps.length = kids.length) (hlen : kids.length ≤ 400) (hkd : ∀ x ∈ kids, x.kind = 52) (hrd : ∀ j (h : j < kids.length) (h2 : j < ps.length), ReadsAs kids[j] ps[j].Q) (hv : VecF ps bs p q 1) (w : World) (h : TabAt b g L c p bs w) :
    Calls Tryz.prog 122 #[.agg #[.pointer none, .slice none 0 0, .slice none 0 0, .slice none 0 0, .nilIface], .pointer (some ⟨b, 0, none⟩)] w (MadeP 316 (.mk 51 ⟨#[]⟩ ⟨#[]⟩ 0 (t1 :: kids)) w) := by
  have HX1 := Lib.hid (fun base W (hW : TabAt b g L c p bs W) => tableMonotypeFunctionType_q b g L c p size bs q hq hx1 base W hW)
  have HC1 := Lib.hid (fun W (hW : TabAt b g L c p bs W) => monotypeTypeFunctionType_q b g L c p size bs q hq hc1 W hW)
  have HD1 := Lib.hid (fun r z (hz : Q1 bs z) W (hW : TabAt r g L c z bs W) => decode_any hR1 hk1 hz hW hu1)
  obtain ⟨⟨v1, v2, v3⟩, tv, t1v, t2v, t3v, t4v, t5v⟩ := hv
  rw [hps] at t3v t4v
  have HLN := Lib.hid (fun W (hW : TabAt b g L c p bs W) => parametersLengthFunctionType_there b g L c p bs size q hq.vt hq.s4 hq.few v1 _ rfl v2 v3 tv kids.length t1v t2v t3v t4v W hW)
  have HV := Lib.hid (fun (j z : Nat) (hj : j < kids.length) (h1 : tv + 4 + 4 * j ≤ z) (h2 : rd bs (tv + 4 + 4 * j) 4 = z - (tv + 4 + 4 * j)) (h3 : z + 4 ≤ bs.length) (r : Nat) (x0 x1 : Value) W (hW : TabAt b g L c p bs W) hr0 => parametersFunctionType_there b g L c p bs size q hq.vt hq.s4 hq.few v1 _ rfl v2 v3 tv kids.length t1v t2v t3v t4v j z hj h1 h2 h3 r x0 x1 W hW hr0)
  have HVK : Hid (∀ j (hj : j < kids.length), ∃ z, rd bs (tv + 4 + 4 * j) 4 = z - (tv + 4 + 4 * j) ∧ tv + 4 + 4 * j ≤ z ∧ z + 4 ≤ bs.length ∧ ∀ r W, TabAt r g L c z bs W → Calls Tryz.prog 25 #[.agg #[.pointer none, .slice none 0 0, .slice none 0 0, .pointer none, .nilIface, .string ⟨#[]⟩], .pointer (some ⟨r, 0, none⟩)] W (MadeP 59 kids[j] W)) := Lib.hid fun j hj => by
    obtain ⟨z, e1, e2, e3, e4⟩ := t5v j (by omega)
    exact ⟨z, e1, e2, e3, fun r W hW => reads52 (hrd j hj (by omega)) (hkd _ (List.getElem_mem hj)) e4 hW⟩
  have hmf : ∀ (fn : Fn) (first cap : Array Value) (w : World), (Instr.makeFunc fn first cap).run Tryz.prog w = .ok (.func fn first cap) w := fun _ _ _ _ => rfl
  have HBN := Lib.hid (fun W (hW : TabAt b g L c p bs W) => baseNodeFunctionType_q b g L c p size bs q hq W hW)
  have hb0 := (Below.refl _ w).alloc (Nat.le_refl _) (.cells #[.pointer none, .slice none 0 0, .slice none 0 0, .slice none 0 0, .nilIface] 319)
  have HS0 : Hid (FromIn w b g L c p bs #[.pointer none, .slice none 0 0, .slice none 0 0, .slice none 0 0, .nilIface] 319 (w.alloc (.cells #[.pointer none, .slice none 0 0, .slice none 0 0, .slice none 0 0, .nilIface] 319))) := Lib.hid ⟨h.below hb0, heap_alloc_new w _, hb0, h.bl, h.gl⟩
  have hsz0 : (w.alloc (.cells #[.pointer none, .slice none 0 0, .slice none 0 0, .slice none 0 0, .nilIface] 319)).heap.size = w.heap.size + 1 := by simp
  have HZ0 := Lib.hid hsz0
  clear h hq hb0 hsz0 hx1 hc1 hR1 hk1 hu1 v1 v2 v3 t1v t2v t3v t4v t5v hkd hrd hps
  go_enter Tryz.func122, Tryz.ntmps122
  go_wp2_with fail
  ((with_reducible refine (HBN.out _ HS0.out.tab).mono ?_))
  rintro e w1 ⟨ad, rfl, hb1, had⟩
  have HS1 := Lib.hid (HS0.out.below hb1)
  have HA := Lib.hid (base_any w.heap.size _ _ g L c bs ad w1 (had.imp id fun ⟨r, q', h1, h2, h3, h4⟩ => ⟨r, q', h1, by have := HZ0.out; omega, h3, h4⟩) HS1.out.row rfl (by have := HS1.out.ng; omega))
  clear hb1 had
  go_wp2_with fail
  ((with_reducible refine HA.out.mono ?_))
  rintro e w3 ⟨rfl, hb3⟩
  have HS3 := Lib.hid (HS1.out.below hb3)
  clear hb3
  go_wp2_with fail
  ((with_reducible refine (HX1.out _ _ HS3.out.tab).mono ?_))
  rintro e wa1 ⟨ra1, za1, rfl, hta1, hqa1, hba1⟩
  have HSa1 := Lib.hid (HS3.out.below hba1)
  have HTa1 := Lib.hid hta1
  have HQa1 := Lib.hid hqa1
  clear hba1 hta1 hqa1
  go_wp2_with fail
  ((with_reducible refine (HC1.out _ HSa1.out.tab).mono ?_))
  rintro e wb1 ⟨rfl, hmb1⟩
  have hbb1 := reads_below hmb1
  have HSb1 := Lib.hid (HSa1.out.below hbb1)
  have HDb1 := Lib.hid (HD1.out _ _ HQa1.out _ (HTa1.out.below hbb1))
  clear hmb1 hbb1
  go_wp2_with fail
  ((with_reducible refine HDb1.out.mono ?_))
  rintro e wc1 ⟨rc1, rfl, hgc1, hbc1⟩
  have HSc1 := Lib.hid (HSb1.out.below hbc1)
  have HGb1 := Lib.hid (KidG.of hgc1 HSb1.out.lt)
  have k4 : wc1.cell? ⟨w.heap.size, 4, none⟩ = some (.nilIface) := HSc1.out.cell 4
  have f4 := HSc1.out.frozen 4
  have HZ1 : Hid (FromIn w b g L c p bs #[.pointer none, .slice none 0 0, .slice none 0 0, .slice none 0 0, .iface (readT t1.kind) (.pointer (some ⟨rc1, 0, none⟩))] 319 (wc1.setCell ⟨w.heap.size, 4, none⟩ (.iface (readT t1.kind) (.pointer (some ⟨rc1, 0, none⟩))))) := Lib.hid (HSc1.out.set 4 (.iface (readT t1.kind) (.pointer (some ⟨rc1, 0, none⟩))))
  have HGb1z1 := Lib.hid (HGb1.out.set 4 (.iface (readT t1.kind) (.pointer (some ⟨rc1, 0, none⟩))))
  clear hgc1 hbc1
  go_wp2_with fail
  have hszS : wc1.heap.size = (wc1.setCell ⟨w.heap.size, 4, none⟩ (.iface (readT t1.kind) (.pointer (some ⟨rc1, 0, none⟩)))).heap.size := by simp [World.setCell]
  generalize (wc1.setCell ⟨w.heap.size, 4, none⟩ (.iface (readT t1.kind) (.pointer (some ⟨rc1, 0, none⟩)))) = wS at *
  obtain ⟨top, htop⟩ : ∃ top, top = wS.heap.size := ⟨_, rfl⟩
  have HTOP : Hid (w.heap.size < top) := Lib.hid (by rw [htop]; exact HZ1.out.lt)
  have HKS := Lib.hid (HGb1z1.out.top (by omega) (Nat.le_of_eq htop))
  have HST : Hid (Stood top w.heap.size wS wS) := Lib.hid (Stood.refl _ _ _)
  have HTW := Lib.hid htop
  clear htop hszS
  go_loopw [5] (fun i wr => ∃ k : Nat, k ≤ kids.length ∧ i = .int .i64 k ∧ ∃ al cc, Hid (FromIn w b g L c p bs #[.pointer none, .slice none 0 0, .slice none 0 0, .slice al k cc, .iface (readT t1.kind) (.pointer (some ⟨rc1, 0, none⟩))] 319 wr) ∧ Hid (RowG 59 59 top wr (.slice al k cc) (kids.take k)) ∧ Hid (Stood top w.heap.size wS wr)) (fun i _ => kids.length - (intOf i).toNat)
  case atStart => exact ⟨0, Nat.zero_le _, rfl, none, 0, HZ1, Lib.hid (RowG.nil _ _ _ _), HST⟩
  case round =>
    obtain ⟨k, hk, rfl, al, cc, HS, HRG, HSD⟩ := hrel
    go_wp2_with fail
    ((with_reducible refine (HLN.out _ HS.out.tab).mono ?_))
    rintro e w6 ⟨rfl, hm6⟩
    have hb6 := reads_below hm6
    have htw : top ≤ _ := Nat.le_trans (Nat.le_of_eq HTW.out) HSD.out.1
    have HS6 := Lib.hid (HS.out.below hb6)
    have HR6 := Lib.hid (HRG.out.below hb6)
    have HD6 := Lib.hid (HSD.out.below htw hb6)
    clear hm6 hb6 htw
    by_cases hlt : k < kids.length
    · obtain ⟨z, e1, e2, e3, e4⟩ := HVK.out k hlt
      have hba := (Below.refl w6.heap.size w6).alloc (Nat.le_refl _) (.cells #[.slice none 0 0, .int .u32 0] 276)
      have HVA := Lib.hid (HV.out k z hlt e2 e1 e3 w6.heap.size _ _ (w6.alloc (.cells #[.slice none 0 0, .int .u32 0] 276)) (HS6.out.tab.below hba) (heap_alloc_new w6 (.cells #[.slice none 0 0, .int .u32 0] 276)))
      have HTM := Lib.hid (fun m => tab_made_drew HS6.out.tab.rowAt m z (.slice none 0 0) (.int .u32 0) 276)
      have HTK : Hid (kids.take (k + 1) = kids.take k ++ [kids[k]]) := Lib.hid (List.take_succ_eq_append_getElem hlt)
      have HLT : Hid ((kids.take k).length = k) := Lib.hid (by rw [List.length_take]; omega)
      have HE4 := Lib.hid (e4 w6.heap.size)
      clear e1 e2 e3 e4 hba
      generalize kids[k] = tr at *
      go_wp2_with fail
      ((with_reducible refine HVA.out.mono ?_))
      rintro e w7 ⟨rfl, m7, rfl⟩
      obtain ⟨ht7, hb7⟩ := HTM.out m7
      clear HVA HTM
      generalize initW ((w6.alloc (.cells #[.slice none 0 0, .int .u32 0] 276)).drewN m7) w6.heap.size (.slice (some ⟨g, 0, none⟩) L c) z = w7 at *
      have HS7 := Lib.hid (HS6.out.below hb7)
      have HR7 := Lib.hid (HR6.out.below hb7)
      have HD7 := Lib.hid (HD6.out.below (Nat.le_trans (Nat.le_of_eq HTW.out) HD6.out.1) hb7)
      have HFD := Lib.hid (HE4.out _ ht7)
      have HFDd : Hid (Calls Tryz.prog 25 #[.agg #[.pointer none, .slice none 0 0, .slice none 0 0, .pointer none, .nilIface, .string ⟨#[]⟩], .pointer (some ⟨w6.heap.size, 0, none⟩)] w7.drew (MadeP 59 tr w7.drew)) := Lib.hid (HE4.out _ (ht7.drewN 1))
      have HS7d : Hid (FromIn w b g L c p bs #[.pointer none, .slice none 0 0, .slice none 0 0, .slice al k cc, .iface (readT t1.kind) (.pointer (some ⟨rc1, 0, none⟩))] 319 w7.drew) := Lib.hid HS7.out.drew
      have c7 : w7.cell? ⟨w.heap.size, 3, none⟩ = some (.slice al k cc) := HS7.out.cell 3
      have f7 := HS7.out.frozen 3
      clear ht7 hb7 HS6 HS HE4
      go_wp2_with fail
      have HR7d := Lib.hid (HR7.out.below (Below.refl _ w7).drew)
      have HTS : Hid (top ≤ w7.drew.heap.size) := Lib.hid (Nat.le_trans (Nat.le_of_eq HTW.out) HD7.out.1)
      have HA4 : Hid (∀ r, (Value.slice al k cc).ownBlock = some r → r < w7.drew.heap.size) := Lib.hid (by obtain ⟨rs, _, _, h3, _⟩ := HR7d.out; exact fun r e => (h3.lt r e).2)
      have c7d : w7.drew.cell? ⟨w.heap.size, 3, none⟩ = some (.slice al k cc) := HS7d.out.cell 3
      have HLK : Hid (k = (kids.take k).length ∧ (kids.take k).length ≤ 1000) := Lib.hid ⟨HLT.out.symm, by rw [HLT.out]; omega⟩
      go_region_law (first
        | (refine step_append_kid Tryz.underlying317 (by kernel_rfl) (by rfl) _ _ (by rfl) HS9.out HTOP.out HLW9.out HLK.out.1 HLK.out.2 (by rfl) HR9.out (by rfl) HTS.out HLE9.out HA4.out HN9.out (by rfl) HX9.out ?_; intro g' cap w8 hf8 hr8 hlow8 hsz8; have c8 := hf8.cell 3; have f8 := hf8.frozen 3)
        | (go_simp; go_wp2_with (go_at_call 25; ((with_reducible refine HFDd.out.mono ?_)); rintro e w9 ⟨r9, rfl, hr9, hg9, hb9⟩; have HS9 := Lib.hid ((HS7d.out.below hb9).below ((Below.refl _ w9).alloc (Nat.le_refl _) (.cells #[.pointer (some ⟨r9, 0, none⟩)] 59))); have HR9 := Lib.hid ((HR7d.out.below hb9).below ((Below.refl _ w9).alloc (Nat.le_refl _) (.cells #[.pointer (some ⟨r9, 0, none⟩)] 59))); have HN9 := Lib.hid (hg9.stands.keep (w' := w9.alloc (.cells #[.pointer (some ⟨r9, 0, none⟩)] 59)) (fun r _ hr => Below.heap_alloc _ _ _ hr)); have HLE9 : Hid (w9.heap.size ≤ (w9.alloc (.cells #[.pointer (some ⟨r9, 0, none⟩)] 59)).heap.size) := Lib.hid (by rw [alloc_size]; exact Nat.le_succ _); have HLW9 : Hid (top ≤ (w9.alloc (.cells #[.pointer (some ⟨r9, 0, none⟩)] 59)).heap.size) := Lib.hid (Nat.le_trans HTS.out (Nat.le_trans hb9.size HLE9.out)); have HX9 := Lib.hid (heap_alloc_new w9 (.cells #[.pointer (some ⟨r9, 0, none⟩)] 59)); have c9 := (HS7d.out.below hb9).cell 3; have c9a := HS9.out.cell 3)))
      all_goals
        have HS8 := Lib.hid (hf8.set 3 (.slice (some ⟨g', 0, none⟩) (k + 1) cap))
        have HR8 : Hid (RowG 59 59 top (w8.setCell ⟨w.heap.size, 3, none⟩ (.slice (some ⟨g', 0, none⟩) (k + 1) cap)) (.slice (some ⟨g', 0, none⟩) (k + 1) cap) (kids.take (k + 1))) := Lib.hid (by rw [HTK.out]; exact hr8.set HTOP.out 3 _)
        have HD8 : Hid (Stood top w.heap.size wS (w8.setCell ⟨w.heap.size, 3, none⟩ (.slice (some ⟨g', 0, none⟩) (k + 1) cap))) := Lib.hid (Stood.set ⟨Nat.le_trans HD7.out.1 (Nat.le_trans hb9.size (Nat.le_trans HLE9.out hsz8)), fun r h1 h2 => ((hlow8 r h1).trans ((Below.heap_alloc _ _ _ (Nat.lt_of_lt_of_le h1 (Nat.le_trans HTS.out hb9.size))).trans (hb9.block r (Nat.lt_of_lt_of_le h1 HTS.out)))).trans (HD7.out.2 r h1 h2)⟩ 3 _)
        clear hf8 hr8 hlow8 hsz8 hb9 hg9 hr9 c9 c9a c7d c7 f7 c8 f8
        go_wp2
        go_roundw
        case rel => exact ⟨k + 1, by omega, by go_num, some ⟨g', 0, none⟩, cap, HS8, HR8, HD8⟩
        case measure => simp [intOf]; omega
    · have hke : k = kids.length := by omega
      subst hke
      have HRN : Hid (RowG 59 59 top w6 (.slice al kids.length cc) kids) := Lib.hid (by have := HR6.out; rwa [List.take_length] at this)
      have HKN := Lib.hid (HKS.out.stood (Nat.le_refl _) HD6.out)
      have hl1000 : kids.length ≤ 1000 := by omega
      go_wp2
      go_ret
      exact ⟨_, rfl, Nat.le_refl _, giveFunctionType HS6.out.row (Nat.le_refl _) hl1000 HKN.out.gives (HRN.out.low (Nat.le_of_lt HTOP.out)), HS6.out.bel⟩


set_option maxHeartbeats 8000000 in
set_option maxRecDepth 100000 in
theorem fromTypeConstraint_q (b g L c p size : Nat) (bs : List UInt8) (q : List Nat) (hq : TypeQ bs p size q) (t1 : Tr) {Q1 : List UInt8 → Nat → Prop} (hx1 : OptF t1 Q1 bs p q 1) (kids : List Tr) (ps : List PartQ) (hps : ps.length = kids.length) (hlen : kids.length ≤ 400) (hkd : ∀ x ∈ kids, x.kind = 33) (hrd : ∀ j (h : j < kids.length) (h2 : j < ps.length), ReadsAs kids[j] ps[j].Q) (hv : VecF ps bs p q 2) (w : World) (h : TabAt b g L c p bs w) :
    Calls Tryz.prog 88 #[.agg #[.pointer none, .slice none 0 0, .slice none 0 0, .pointer none, .slice none 0 0], .pointer (some ⟨b, 0, none⟩)] w (MadeP 285 (.mk 53 ⟨#[]⟩ ⟨#[]⟩ 0 (t1 :: kids)) w) := by
  have HX1 := Lib.hid (fun W (hW : TabAt b g L c p bs W) => tvarTypeConstraint_q b g L c p size bs q hq hx1 W hW)
  obtain ⟨⟨v1, v2, v3⟩, tv, t1v, t2v, t3v, t4v, t5v⟩ := hv
  rw [hps] at t3v t4v
  have HLN := Lib.hid (fun W (hW : TabAt b g L c p bs W) => kindsLengthTypeConstraint_there b g L c p bs size q hq.vt hq.s4 hq.few v1 _ rfl v2 v3 tv kids.length t1v t2v t3v t4v W hW)
  have HV := Lib.hid (fun (j z : Nat) (hj : j < kids.length) (h1 : tv + 4 + 4 * j ≤ z) (h2 : rd bs (tv + 4 + 4 * j) 4 = z - (tv + 4 + 4 * j)) (h3 : z + 4 ≤ bs.length) (r : Nat) (x0 x1 : Value) W (hW : TabAt b g L c p bs W) hr0 => kindsTypeConstraint_there b g L c p bs size q hq.vt hq.s4 hq.few v1 _ rfl v2 v3 tv kids.length t1v t2v t3v t4v j z hj h1 h2 h3 r x0 x1 W hW hr0)
  have HVK : Hid (∀ j (hj : j < kids.length), ∃ z, rd bs (tv + 4 + 4 * j) 4 = z - (tv + 4 + 4 * j) ∧ tv + 4 + 4 * j ≤ z ∧ z + 4 ≤ bs.length ∧ ∀ r W, TabAt r g L c z bs W → Calls Tryz.prog 70 #[.agg #[.pointer none, .slice none 0 0, .slice none 0 0, .string ⟨#[]⟩], .pointer (some ⟨r, 0, none⟩)] W (MadeP 60 kids[j] W)) := Lib.hid fun j hj => by
    obtain ⟨z, e1, e2, e3, e4⟩ := t5v j (by omega)
    exact ⟨z, e1, e2, e3, fun r W hW => reads33 (hrd j hj (by omega)) (hkd _ (List.getElem_mem hj)) e4 hW⟩
  have hmf : ∀ (fn : Fn) (first cap : Array Value) (w : World), (Instr.makeFunc fn first cap).run Tryz.prog w = .ok (.func fn first cap) w := fun _ _ _ _ => rfl
  have HBN := Lib.hid (fun W (hW : TabAt b g L c p bs W) => baseNodeTypeConstraint_q b g L c p size bs q hq W hW)
  have hb0 := (Below.refl _ w).alloc (Nat.le_refl _) (.cells #[.pointer none, .slice none 0 0, .slice none 0 0, .pointer none, .slice none 0 0] 288)
  have HS0 : Hid (FromIn w b g L c p bs #[.pointer none, .slice none 0 0, .slice none 0 0, .pointer none, .slice none 0 0] 288 (w.alloc (.cells #[.pointer none, .slice none 0 0, .slice none 0 0, .pointer none, .slice none 0 0] 288))) := Lib.hid ⟨h.below hb0, heap_alloc_new w _, hb0, h.bl, h.gl⟩
  have hsz0 : (w.alloc (.cells #[.pointer none, .slice none 0 0, .slice none 0 0, .pointer none, .slice none 0 0] 288)).heap.size = w.heap.size + 1 := by simp
  have HZ0 := Lib.hid hsz0
  clear h hq hb0 hsz0 hx1 v1 v2 v3 t1v t2v t3v t4v t5v hkd hrd hps
  go_enter Tryz.func88, Tryz.ntmps88
  go_wp2_with fail
  ((with_reducible refine (HBN.out _ HS0.out.tab).mono ?_))
  rintro e w1 ⟨ad, rfl, hb1, had⟩
  have HS1 := Lib.hid (HS0.out.below hb1)
  have HA := Lib.hid (base_any w.heap.size _ _ g L c bs ad w1 (had.imp id fun ⟨r, q', h1, h2, h3, h4⟩ => ⟨r, q', h1, by have := HZ0.out; omega, h3, h4⟩) HS1.out.row rfl (by have := HS1.out.ng; omega))
  clear hb1 had
  go_wp2_with fail
  ((with_reducible refine HA.out.mono ?_))
  rintro e w3 ⟨rfl, hb3⟩
  have HS3 := Lib.hid (HS1.out.below hb3)
  clear hb3
  go_wp2_with fail
  ((with_reducible refine (HX1.out _ HS3.out.tab).mono ?_))
  rintro e wa1 ⟨aa1, rfl, hba1, hopt1⟩
  have HSa1 := Lib.hid (HS3.out.below hba1)
  have HNM1 := Lib.hid (fromName_any hopt1)
  clear hba1 hopt1
  go_wp2_with fail
  ((with_reducible refine HNM1.out.mono ?_))
  rintro e wb1 ⟨ad1, rfl, hbb1, hopt1⟩
  have HSb1 := Lib.hid (HSa1.out.below hbb1)
  have HGb1 := Lib.hid (OptK.of hopt1 HSa1.out.lt)
  have k3 : wb1.cell? ⟨w.heap.size, 3, none⟩ = some (.pointer none) := HSb1.out.cell 3
  have f3 := HSb1.out.frozen 3
  have HZ1 : Hid (FromIn w b g L c p bs #[.pointer none, .slice none 0 0, .slice none 0 0, .pointer ad1, .slice none 0 0] 288 (wb1.setCell ⟨w.heap.size, 3, none⟩ (.pointer ad1))) := Lib.hid (HSb1.out.set 3 (.pointer ad1))
  have HGb1z1 := Lib.hid (HGb1.out.set 3 (.pointer ad1))
  clear hbb1 hopt1
  go_wp2_with fail
  have hszS : wb1.heap.size = (wb1.setCell ⟨w.heap.size, 3, none⟩ (.pointer ad1)).heap.size := by simp [World.setCell]
  generalize (wb1.setCell ⟨w.heap.size, 3, none⟩ (.pointer ad1)) = wS at *
  obtain ⟨top, htop⟩ : ∃ top, top = wS.heap.size := ⟨_, rfl⟩
  have HTOP : Hid (w.heap.size < top) := Lib.hid (by rw [htop]; exact HZ1.out.lt)
  have HKS := Lib.hid (HGb1z1.out.top (by omega) (Nat.le_of_eq htop))
  have HST : Hid (Stood top w.heap.size wS wS) := Lib.hid (Stood.refl _ _ _)
  have HTW := Lib.hid htop
  clear htop hszS
  go_loopw [5] (fun i wr => ∃ k : Nat, k ≤ kids.length ∧ i = .int .i64 k ∧ ∃ al cc, Hid (FromIn w b g L c p bs #[.pointer none, .slice none 0 0, .slice none 0 0, .pointer ad1, .slice al k cc] 288 wr) ∧ Hid (RowG 60 60 top wr (.slice al k cc) (kids.take k)) ∧ Hid (Stood top w.heap.size wS wr)) (fun i _ => kids.length - (intOf i).toNat)
  case atStart => exact ⟨0, Nat.zero_le _, rfl, none, 0, HZ1, Lib.hid (RowG.nil _ _ _ _), HST⟩
  case round =>
    obtain ⟨k, hk, rfl, al, cc, HS, HRG, HSD⟩ := hrel
    go_wp2_with fail
    ((with_reducible refine (HLN.out _ HS.out.tab).mono ?_))
    rintro e w6 ⟨rfl, hm6⟩
    have hb6 := reads_below hm6
    have htw : top ≤ _ := Nat.le_trans (Nat.le_of_eq HTW.out) HSD.out.1
    have HS6 := Lib.hid (HS.out.below hb6)
    have HR6 := Lib.hid (HRG.out.below hb6)
    have HD6 := Lib.hid (HSD.out.below htw hb6)
    clear hm6 hb6 htw
    by_cases hlt : k < kids.length
    · obtain ⟨z, e1, e2, e3, e4⟩ := HVK.out k hlt
      have hba := (Below.refl w6.heap.size w6).alloc (Nat.le_refl _) (.cells #[.slice none 0 0, .int .u32 0] 364)
      have HVA := Lib.hid (HV.out k z hlt e2 e1 e3 w6.heap.size _ _ (w6.alloc (.cells #[.slice none 0 0, .int .u32 0] 364)) (HS6.out.tab.below hba) (heap_alloc_new w6 (.cells #[.slice none 0 0, .int .u32 0] 364)))
      have HTM := Lib.hid (fun m => tab_made_drew HS6.out.tab.rowAt m z (.slice none 0 0) (.int .u32 0) 364)
      have HTK : Hid (kids.take (k + 1) = kids.take k ++ [kids[k]]) := Lib.hid (List.take_succ_eq_append_getElem hlt)
      have HLT : Hid ((kids.take k).length = k) := Lib.hid (by rw [List.length_take]; omega)
      have HE4 := Lib.hid (e4 w6.heap.size)
      clear e1 e2 e3 e4 hba
      generalize kids[k] = tr at *
      go_wp2_with fail
      ((with_reducible refine HVA.out.mono ?_))
      rintro e w7 ⟨rfl, m7, rfl⟩
      obtain ⟨ht7, hb7⟩ := HTM.out m7
      clear HVA HTM
      generalize initW ((w6.alloc (.cells #[.slice none 0 0, .int .u32 0] 364)).drewN m7) w6.heap.size (.slice (some ⟨g, 0, none⟩) L c) z = w7 at *
      have HS7 := Lib.hid (HS6.out.below hb7)
      have HR7 := Lib.hid (HR6.out.below hb7)
      have HD7 := Lib.hid (HD6.out.below (Nat.le_trans (Nat.le_of_eq HTW.out) HD6.out.1) hb7)
      have HFD := Lib.hid (HE4.out _ ht7)
      have HFDd : Hid (Calls Tryz.prog 70 #[.agg #[.pointer none, .slice none 0 0, .slice none 0 0, .string ⟨#[]⟩], .pointer (some ⟨w6.heap.size, 0, none⟩)] w7.drew (MadeP 60 tr w7.drew)) := Lib.hid (HE4.out _ (ht7.drewN 1))
      have HS7d : Hid (FromIn w b g L c p bs #[.pointer none, .slice none 0 0, .slice none 0 0, .pointer ad1, .slice al k cc] 288 w7.drew) := Lib.hid HS7.out.drew
      have c7 : w7.cell? ⟨w.heap.size, 4, none⟩ = some (.slice al k cc) := HS7.out.cell 4
      have f7 := HS7.out.frozen 4
      clear ht7 hb7 HS6 HS HE4
      go_wp2_with fail
      have HR7d := Lib.hid (HR7.out.below (Below.refl _ w7).drew)
      have HTS : Hid (top ≤ w7.drew.heap.size) := Lib.hid (Nat.le_trans (Nat.le_of_eq HTW.out) HD7.out.1)
      have HA4 : Hid (∀ r, (Value.slice al k cc).ownBlock = some r → r < w7.drew.heap.size) := Lib.hid (by obtain ⟨rs, _, _, h3, _⟩ := HR7d.out; exact fun r e => (h3.lt r e).2)
      have c7d : w7.drew.cell? ⟨w.heap.size, 4, none⟩ = some (.slice al k cc) := HS7d.out.cell 4
      have HLK : Hid (k = (kids.take k).length ∧ (kids.take k).length ≤ 1000) := Lib.hid ⟨HLT.out.symm, by rw [HLT.out]; omega⟩
      go_region_law (first
        | (refine step_append_kid Tryz.underlying286 (by kernel_rfl) (by rfl) _ _ (by rfl) HS9.out HTOP.out HLW9.out HLK.out.1 HLK.out.2 (by rfl) HR9.out (by rfl) HTS.out HLE9.out HA4.out HN9.out (by rfl) HX9.out ?_; intro g' cap w8 hf8 hr8 hlow8 hsz8; have c8 := hf8.cell 4; have f8 := hf8.frozen 4)
        | (go_simp; go_wp2_with (go_at_call 70; ((with_reducible refine HFDd.out.mono ?_)); rintro e w9 ⟨r9, rfl, hr9, hg9, hb9⟩; have HS9 := Lib.hid ((HS7d.out.below hb9).below ((Below.refl _ w9).alloc (Nat.le_refl _) (.cells #[.pointer (some ⟨r9, 0, none⟩)] 60))); have HR9 := Lib.hid ((HR7d.out.below hb9).below ((Below.refl _ w9).alloc (Nat.le_refl _) (.cells #[.pointer (some ⟨r9, 0, none⟩)] 60))); have HN9 := Lib.hid (hg9.stands.keep (w' := w9.alloc (.cells #[.pointer (some ⟨r9, 0, none⟩)] 60)) (fun r _ hr => Below.heap_alloc _ _ _ hr)); have HLE9 : Hid (w9.heap.size ≤ (w9.alloc (.cells #[.pointer (some ⟨r9, 0, none⟩)] 60)).heap.size) := Lib.hid (by rw [alloc_size]; exact Nat.le_succ _); have HLW9 : Hid (top ≤ (w9.alloc (.cells #[.pointer (some ⟨r9, 0, none⟩)] 60)).heap.size) := Lib.hid (Nat.le_trans HTS.out (Nat.le_trans hb9.size HLE9.out)); have HX9 := Lib.hid (heap_alloc_new w9 (.cells #[.pointer (some ⟨r9, 0, none⟩)] 60)); have c9 := (HS7d.out.below hb9).cell 4; have c9a := HS9.out.cell 4)))
      all_goals
        have HS8 := Lib.hid (hf8.set 4 (.slice (some ⟨g', 0, none⟩) (k + 1) cap))
        have HR8 : Hid (RowG 60 60 top (w8.setCell ⟨w.heap.size, 4, none⟩ (.slice (some ⟨g', 0, none⟩) (k + 1) cap)) (.slice (some ⟨g', 0, none⟩) (k + 1) cap) (kids.take (k + 1))) := Lib.hid (by rw [HTK.out]; exact hr8.set HTOP.out 4 _)
        have HD8 : Hid (Stood top w.heap.size wS (w8.setCell ⟨w.heap.size, 4, none⟩ (.slice (some ⟨g', 0, none⟩) (k + 1) cap))) := Lib.hid (Stood.set ⟨Nat.le_trans HD7.out.1 (Nat.le_trans hb9.size (Nat.le_trans HLE9.out hsz8)), fun r h1 h2 => ((hlow8 r h1).trans ((Below.heap_alloc _ _ _ (Nat.lt_of_lt_of_le h1 (Nat.le_trans HTS.out hb9.size))).trans (hb9.block r (Nat.lt_of_lt_of_le h1 HTS.out)))).trans (HD7.out.2 r h1 h2)⟩ 4 _)
        clear hf8 hr8 hlow8 hsz8 hb9 hg9 hr9 c9 c9a c7d c7 f7 c8 f8
        go_wp2
        go_roundw
        case rel => exact ⟨k + 1, by omega, by go_num, some ⟨g', 0, none⟩, cap, HS8, HR8, HD8⟩
        case measure => simp [intOf]; omega
    · have hke : k = kids.length := by omega
      subst hke
      have HRN : Hid (RowG 60 60 top w6 (.slice al kids.length cc) kids) := Lib.hid (by have := HR6.out; rwa [List.take_length] at this)
      have HKN := Lib.hid (HKS.out.stood (Nat.le_refl _) HD6.out)
      have hl1000 : kids.length ≤ 1000 := by omega
      go_wp2
      go_ret
      exact ⟨_, rfl, Nat.le_refl _, giveTypeConstraint HS6.out.row (Nat.le_refl _) hl1000 HKN.out.gives (HRN.out.low (Nat.le_of_lt HTOP.out)), HS6.out.bel⟩


set_option maxHeartbeats 8000000 in
set_option maxRecDepth 100000 in
theorem fromTypeExpression_q (b g L c p size : Nat) (bs : List UInt8) (q : List Nat) (hq : TypeQ bs p size q) (t1 : Tr) {Q1 : List UInt8 → Nat → Prop} (hk1 : typeB t1.kind) (hR1 : ReadsAs t1 Q1) (u1 : Nat) (hu1 : u1 = (choiceOf t1.kind).toNat) (hc1 : ByteF u1 bs p q 1) (hx1 : KidF Q1 bs p q 2) (kids : List Tr) (ps : List PartQ) (hps : ps.length = kids.length) (hlen : kids.length ≤ 400) (hkd : ∀ x ∈ kids, x.kind = 53) (hrd : ∀ j (h : j < kids.length) (h2 : j < ps.length), ReadsAs kids[j] ps[j].Q) (hv : VecF ps bs p q 3) (w : World) (h : TabAt b g L c p bs w) :
    Calls Tryz.prog 29 #[.agg #[.pointer none, .slice none 0 0, .slice none 0 0, .nilIface, .slice none 0 0], .pointer (some ⟨b, 0, none⟩)] w (MadeP 73 (.mk 44 ⟨#[]⟩ ⟨#[]⟩ 0 (t1 :: kids)) w) := by
  have HX1 := Lib.hid (fun base W (hW : TabAt b g L c p bs W) => tableMonotypeTypeExpression_q b g L c p size bs q hq hx1 base W hW)
  have HC1 := Lib.hid (fun W (hW : TabAt b g L c p bs W) => monotypeTypeTypeExpression_q b g L c p size bs q hq hc1 W hW)
  have HD1 := Lib.hid (fun r z (hz : Q1 bs z) W (hW : TabAt r g L c z bs W) => decode_any hR1 hk1 hz hW hu1)
  obtain ⟨⟨v1, v2, v3⟩, tv, t1v, t2v, t3v, t4v, t5v⟩ := hv
  rw [hps] at t3v t4v
  have HLN := Lib.hid (fun W (hW : TabAt b g L c p bs W) => constraintsLengthTypeExpression_there b g L c p bs size q hq.vt hq.s4 hq.few v1 _ rfl v2 v3 tv kids.length t1v t2v t3v t4v W hW)
  have HV := Lib.hid (fun (j z : Nat) (hj : j < kids.length) (h1 : tv + 4 + 4 * j ≤ z) (h2 : rd bs (tv + 4 + 4 * j) 4 = z - (tv + 4 + 4 * j)) (h3 : z + 4 ≤ bs.length) (r : Nat) (x0 x1 : Value) W (hW : TabAt b g L c p bs W) hr0 => constraintsTypeExpression_there b g L c p bs size q hq.vt hq.s4 hq.few v1 _ rfl v2 v3 tv kids.length t1v t2v t3v t4v j z hj h1 h2 h3 r x0 x1 W hW hr0)
  have HVK : Hid (∀ j (hj : j < kids.length), ∃ z, rd bs (tv + 4 + 4 * j) 4 = z - (tv + 4 + 4 * j) ∧ tv + 4 + 4 * j ≤ z ∧ z + 4 ≤ bs.length ∧ ∀ r W, TabAt r g L c z bs W → Calls Tryz.prog 88 #[.agg #[.pointer none, .slice none 0 0, .slice none 0 0, .pointer none, .slice none 0 0], .pointer (some ⟨r, 0, none⟩)] W (MadeP 285 kids[j] W)) := Lib.hid fun j hj => by
    obtain ⟨z, e1, e2, e3, e4⟩ := t5v j (by omega)
    exact ⟨z, e1, e2, e3, fun r W hW => reads53 (hrd j hj (by omega)) (hkd _ (List.getElem_mem hj)) e4 hW⟩
  have hmf : ∀ (fn : Fn) (first cap : Array Value) (w : World), (Instr.makeFunc fn first cap).run Tryz.prog w = .ok (.func fn first cap) w := fun _ _ _ _ => rfl
  have HBN := Lib.hid (fun W (hW : TabAt b g L c p bs W) => baseNodeTypeExpression_q b g L c p size bs q hq W hW)
  have hb0 := (Below.refl _ w).alloc (Nat.le_refl _) (.cells #[.pointer none, .slice none 0 0, .slice none 0 0, .nilIface, .slice none 0 0] 76)
  have HS0 : Hid (FromIn w b g L c p bs #[.pointer none, .slice none 0 0, .slice none 0 0, .nilIface, .slice none 0 0] 76 (w.alloc (.cells #[.pointer none, .slice none 0 0, .slice none 0 0, .nilIface, .slice none 0 0] 76))) := Lib.hid ⟨h.below hb0, heap_alloc_new w _, hb0, h.bl, h.gl⟩
  have hsz0 : (w.alloc (.cells #[.pointer none, .slice none 0 0, .slice none 0 0, .nilIface, .slice none 0 0] 76)).heap.size = w.heap.size + 1 := by simp
  have HZ0 := Lib.hid hsz0
  clear h hq hb0 hsz0 hx1 hc1 hR1 hk1 hu1 v1 v2 v3 t1v t2v t3v t4v t5v hkd hrd hps
  go_enter Tryz.func29, Tryz.ntmps29
  go_wp2_with fail
  ((with_reducible refine (HBN.out _ HS0.out.tab).mono ?_))
  rintro e w1 ⟨ad, rfl, hb1, had⟩
  have HS1 := Lib.hid (HS0.out.below hb1)
  have HA := Lib.hid (base_any w.heap.size _ _ g L c bs ad w1 (had.imp id fun ⟨r, q', h1, h2, h3, h4⟩ => ⟨r, q', h1, by have := HZ0.out; omega, h3, h4⟩) HS1.out.row rfl (by have := HS1.out.ng; omega))
  clear hb1 had
  go_wp2_with fail
  ((with_reducible refine HA.out.mono ?_))
  rintro e w3 ⟨rfl, hb3⟩
  have HS3 := Lib.hid (HS1.out.below hb3)
  clear hb3
  go_wp2_with fail
  ((with_reducible refine (HX1.out _ _ HS3.out.tab).mono ?_))
  rintro e wa1 ⟨ra1, za1, rfl, hta1, hqa1, hba1⟩
  have HSa1 := Lib.hid (HS3.out.below hba1)
  have HTa1 := Lib.hid hta1
  have HQa1 := Lib.hid hqa1
  clear hba1 hta1 hqa1
  go_wp2_with fail
  ((with_reducible refine (HC1.out _ HSa1.out.tab).mono ?_))
  rintro e wb1 ⟨rfl, hmb1⟩
  have hbb1 := reads_below hmb1
  have HSb1 := Lib.hid (HSa1.out.below hbb1)
  have HDb1 := Lib.hid (HD1.out _ _ HQa1.out _ (HTa1.out.below hbb1))
  clear hmb1 hbb1
  go_wp2_with fail
  ((with_reducible refine HDb1.out.mono ?_))
  rintro e wc1 ⟨rc1, rfl, hgc1, hbc1⟩
  have HSc1 := Lib.hid (HSb1.out.below hbc1)
  have HGb1 := Lib.hid (KidG.of hgc1 HSb1.out.lt)
  have k3 : wc1.cell? ⟨w.heap.size, 3, none⟩ = some (.nilIface) := HSc1.out.cell 3
  have f3 := HSc1.out.frozen 3
  have HZ1 : Hid (FromIn w b g L c p bs #[.pointer none, .slice none 0 0, .slice none 0 0, .iface (readT t1.kind) (.pointer (some ⟨rc1, 0, none⟩)), .slice none 0 0] 76 (wc1.setCell ⟨w.heap.size, 3, none⟩ (.iface (readT t1.kind) (.pointer (some ⟨rc1, 0, none⟩))))) := Lib.hid (HSc1.out.set 3 (.iface (readT t1.kind) (.pointer (some ⟨rc1, 0, none⟩))))
  have HGb1z1 := Lib.hid (HGb1.out.set 3 (.iface (readT t1.kind) (.pointer (some ⟨rc1, 0, none⟩))))
  clear hgc1 hbc1
  go_wp2_with fail
  have hszS : wc1.heap.size = (wc1.setCell ⟨w.heap.size, 3, none⟩ (.iface (readT t1.kind) (.pointer (some ⟨rc1, 0, none⟩)))).heap.size := by simp [World.setCell]
  generalize (wc1.setCell ⟨w.heap.size, 3, none⟩ (.iface (readT t1.kind) (.pointer (some ⟨rc1, 0, none⟩)))) = wS at *
  obtain ⟨top, htop⟩ : ∃ top, top = wS.heap.size := ⟨_, rfl⟩
  have HTOP : Hid (w.heap.size < top) := Lib.hid (by rw [htop]; exact HZ1.out.lt)
  have HKS := Lib.hid (HGb1z1.out.top (by omega) (Nat.le_of_eq htop))
  have HST : Hid (Stood top w.heap.size wS wS) := Lib.hid (Stood.refl _ _ _)
  have HTW := Lib.hid htop
  clear htop hszS
  go_loopw [5] (fun i wr => ∃ k : Nat, k ≤ kids.length ∧ i = .int .i64 k ∧ ∃ al cc, Hid (FromIn w b g L c p bs #[.pointer none, .slice none 0 0, .slice none 0 0, .iface (readT t1.kind) (.pointer (some ⟨rc1, 0, none⟩)), .slice al k cc] 76 wr) ∧ Hid (RowG 285 285 top wr (.slice al k cc) (kids.take k)) ∧ Hid (Stood top w.heap.size wS wr)) (fun i _ => kids.length - (intOf i).toNat)
  case atStart => exact ⟨0, Nat.zero_le _, rfl, none, 0, HZ1, Lib.hid (RowG.nil _ _ _ _), HST⟩
  case round =>
    obtain ⟨k, hk, rfl, al, cc, HS, HRG, HSD⟩ := hrel
    go_wp2_with fail
    ((with_reducible refine (HLN.out _ HS.out.tab).mono ?_))
    rintro e w6 ⟨rfl, hm6⟩
    have hb6 := reads_below hm6
    have htw : top ≤ _ := Nat.le_trans (Nat.le_of_eq HTW.out) HSD.out.1
    have HS6 := Lib.hid (HS.out.below hb6)
    have HR6 := Lib.hid (HRG.out.below hb6)
    have HD6 := Lib.hid (HSD.out.below htw hb6)
    clear hm6 hb6 htw
    by_cases hlt : k < kids.length
    · obtain ⟨z, e1, e2, e3, e4⟩ := HVK.out k hlt
      have hba := (Below.refl w6.heap.size w6).alloc (Nat.le_refl _) (.cells #[.slice none 0 0, .int .u32 0] 280)
      have HVA := Lib.hid (HV.out k z hlt e2 e1 e3 w6.heap.size _ _ (w6.alloc (.cells #[.slice none 0 0, .int .u32 0] 280)) (HS6.out.tab.below hba) (heap_alloc_new w6 (.cells #[.slice none 0 0, .int .u32 0] 280)))
      have HTM := Lib.hid (fun m => tab_made_drew HS6.out.tab.rowAt m z (.slice none 0 0) (.int .u32 0) 280)
      have HTK : Hid (kids.take (k + 1) = kids.take k ++ [kids[k]]) := Lib.hid (List.take_succ_eq_append_getElem hlt)
      have HLT : Hid ((kids.take k).length = k) := Lib.hid (by rw [List.length_take]; omega)
      have HE4 := Lib.hid (e4 w6.heap.size)
      clear e1 e2 e3 e4 hba
      generalize kids[k] = tr at *
      go_wp2_with fail
      ((with_reducible refine HVA.out.mono ?_))
      rintro e w7 ⟨rfl, m7, rfl⟩
      obtain ⟨ht7, hb7⟩ := HTM.out m7
      clear HVA HTM
      generalize initW ((w6.alloc (.cells #[.slice none 0 0, .int .u32 0] 280)).drewN m7) w6.heap.size (.slice (some ⟨g, 0, none⟩) L c) z = w7 at *
      have HS7 := Lib.hid (HS6.out.below hb7)
      have HR7 := Lib.hid (HR6.out.below hb7)
      have HD7 := Lib.hid (HD6.out.below (Nat.le_trans (Nat.le_of_eq HTW.out) HD6.out.1) hb7)
      have HFD := Lib.hid (HE4.out _ ht7)
      have HFDd : Hid (Calls Tryz.prog 88 #[.agg #[.pointer none, .slice none 0 0, .slice none 0 0, .pointer none, .slice none 0 0], .pointer (some ⟨w6.heap.size, 0, none⟩)] w7.drew (MadeP 285 tr w7.drew)) := Lib.hid (HE4.out _ (ht7.drewN 1))
      have HS7d : Hid (FromIn w b g L c p bs #[.pointer none, .slice none 0 0, .slice none 0 0, .iface (readT t1.kind) (.pointer (some ⟨rc1, 0, none⟩)), .slice al k cc] 76 w7.drew) := Lib.hid HS7.out.drew
      have c7 : w7.cell? ⟨w.heap.size, 4, none⟩ = some (.slice al k cc) := HS7.out.cell 4
      have f7 := HS7.out.frozen 4
      clear ht7 hb7 HS6 HS HE4
      go_wp2_with fail
      have HR7d := Lib.hid (HR7.out.below (Below.refl _ w7).drew)
      have HTS : Hid (top ≤ w7.drew.heap.size) := Lib.hid (Nat.le_trans (Nat.le_of_eq HTW.out) HD7.out.1)
      have HA4 : Hid (∀ r, (Value.slice al k cc).ownBlock = some r → r < w7.drew.heap.size) := Lib.hid (by obtain ⟨rs, _, _, h3, _⟩ := HR7d.out; exact fun r e => (h3.lt r e).2)
      have c7d : w7.drew.cell? ⟨w.heap.size, 4, none⟩ = some (.slice al k cc) := HS7d.out.cell 4
      have HLK : Hid (k = (kids.take k).length ∧ (kids.take k).length ≤ 1000) := Lib.hid ⟨HLT.out.symm, by rw [HLT.out]; omega⟩
      go_region_law (first
        | (refine step_append_kid Tryz.underlying74 (by kernel_rfl) (by rfl) _ _ (by rfl) HS9.out HTOP.out HLW9.out HLK.out.1 HLK.out.2 (by rfl) HR9.out (by rfl) HTS.out HLE9.out HA4.out HN9.out (by rfl) HX9.out ?_; intro g' cap w8 hf8 hr8 hlow8 hsz8; have c8 := hf8.cell 4; have f8 := hf8.frozen 4)
        | (go_simp; go_wp2_with (go_at_call 88; ((with_reducible refine HFDd.out.mono ?_)); rintro e w9 ⟨r9, rfl, hr9, hg9, hb9⟩; have HS9 := Lib.hid ((HS7d.out.below hb9).below ((Below.refl _ w9).alloc (Nat.le_refl _) (.cells #[.pointer (some ⟨r9, 0, none⟩)] 285))); have HR9 := Lib.hid ((HR7d.out.below hb9).below ((Below.refl _ w9).alloc (Nat.le_refl _) (.cells #[.pointer (some ⟨r9, 0, none⟩)] 285))); have HN9 := Lib.hid (hg9.stands.keep (w' := w9.alloc (.cells #[.pointer (some ⟨r9, 0, none⟩)] 285)) (fun r _ hr => Below.heap_alloc _ _ _ hr)); have HLE9 : Hid (w9.heap.size ≤ (w9.alloc (.cells #[.pointer (some ⟨r9, 0, none⟩)] 285)).heap.size) := Lib.hid (by rw [alloc_size]; exact Nat.le_succ _); have HLW9 : Hid (top ≤ (w9.alloc (.cells #[.pointer (some ⟨r9, 0, none⟩)] 285)).heap.size) := Lib.hid (Nat.le_trans HTS.out (Nat.le_trans hb9.size HLE9.out)); have HX9 := Lib.hid (heap_alloc_new w9 (.cells #[.pointer (some ⟨r9, 0, none⟩)] 285)); have c9 := (HS7d.out.below hb9).cell 4; have c9a := HS9.out.cell 4)))
      all_goals
        have HS8 := Lib.hid (hf8.set 4 (.slice (some ⟨g', 0, none⟩) (k + 1) cap))
        have HR8 : Hid (RowG 285 285 top (w8.setCell ⟨w.heap.size, 4, none⟩ (.slice (some ⟨g', 0, none⟩) (k + 1) cap)) (.slice (some ⟨g', 0, none⟩) (k + 1) cap) (kids.take (k + 1))) := Lib.hid (by rw [HTK.out]; exact hr8.set HTOP.out 4 _)
        have HD8 : Hid (Stood top w.heap.size wS (w8.setCell ⟨w.heap.size, 4, none⟩ (.slice (some ⟨g', 0, none⟩) (k + 1) cap))) := Lib.hid (Stood.set ⟨Nat.le_trans HD7.out.1 (Nat.le_trans hb9.size (Nat.le_trans HLE9.out hsz8)), fun r h1 h2 => ((hlow8 r h1).trans ((Below.heap_alloc _ _ _ (Nat.lt_of_lt_of_le h1 (Nat.le_trans HTS.out hb9.size))).trans (hb9.block r (Nat.lt_of_lt_of_le h1 HTS.out)))).trans (HD7.out.2 r h1 h2)⟩ 4 _)
        clear hf8 hr8 hlow8 hsz8 hb9 hg9 hr9 c9 c9a c7d c7 f7 c8 f8
        go_wp2
        go_roundw
        case rel => exact ⟨k + 1, by omega, by go_num, some ⟨g', 0, none⟩, cap, HS8, HR8, HD8⟩
        case measure => simp [intOf]; omega
    · have hke : k = kids.length := by omega
      subst hke
      have HRN : Hid (RowG 285 285 top w6 (.slice al kids.length cc) kids) := Lib.hid (by have := HR6.out; rwa [List.take_length] at this)
      have HKN := Lib.hid (HKS.out.stood (Nat.le_refl _) HD6.out)
      have hl1000 : kids.length ≤ 1000 := by omega
      go_wp2
      go_ret
      exact ⟨_, rfl, Nat.le_refl _, giveTypeExpression HS6.out.row (Nat.le_refl _) hl1000 HKN.out.gives (HRN.out.low (Nat.le_of_lt HTOP.out)), HS6.out.bel⟩


end Go.Proofs.YtgceklahjdbipaaGreatDoor
