/- ast: types without lists, out of buffers. -/
import Derived.Test.YtgceklahjdbipaaGreatDoorTyField
namespace Go.Proofs.YtgceklahjdbipaaGreatDoor
open Go Go.RowKit
set_option linter.unusedVariables false
set_option linter.unusedSimpArgs false


set_option maxHeartbeats 8000000 in
set_option maxRecDepth 100000 in
theorem fromNamedType_q (b g L c p size : Nat) (bs : List UInt8) (q : List Nat) (hq : TypeQ bs p size q) (t1 : Tr) {Q1 : List UInt8 → Nat → Prop} (hx1 : OptF t1 Q1 bs p q 1) (w : World) (h : TabAt b g L c p bs w) :
    Calls Tryz.prog 114 #[.agg #[.pointer none, .slice none 0 0, .slice none 0 0, .pointer none], .pointer (some ⟨b, 0, none⟩)] w (MadeP 303 (.mk 45 ⟨#[]⟩ ⟨#[]⟩ 0 [t1]) w) := by
  have HX1 := Lib.hid (fun W (hW : TabAt b g L c p bs W) => idNamedType_q b g L c p size bs q hq hx1 W hW)
  have hmf : ∀ (fn : Fn) (first cap : Array Value) (w : World), (Instr.makeFunc fn first cap).run Tryz.prog w = .ok (.func fn first cap) w := fun _ _ _ _ => rfl
  have HBN := Lib.hid (fun W (hW : TabAt b g L c p bs W) => baseNodeNamedType_q b g L c p size bs q hq W hW)
  have hb0 := (Below.refl _ w).alloc (Nat.le_refl _) (.cells #[.pointer none, .slice none 0 0, .slice none 0 0, .pointer none] 305)
  have HS0 : Hid (FromIn w b g L c p bs #[.pointer none, .slice none 0 0, .slice none 0 0, .pointer none] 305 (w.alloc (.cells #[.pointer none, .slice none 0 0, .slice none 0 0, .pointer none] 305))) := Lib.hid ⟨h.below hb0, heap_alloc_new w _, hb0, h.bl, h.gl⟩
  have hsz0 : (w.alloc (.cells #[.pointer none, .slice none 0 0, .slice none 0 0, .pointer none] 305)).heap.size = w.heap.size + 1 := by simp
  have HZ0 := Lib.hid hsz0
  clear h hq hb0 hsz0 hx1
  go_enter Tryz.func114, Tryz.ntmps114
  go_wp2_with fail
  ((with_reducible refine (HBN.out _ HS0.out.tab).mono ?_))
  rintro e w1 ⟨ad, rfl, hb1, had⟩
  have HS1 := Lib.hid (HS0.out.below hb1)
  have HA := Lib.hid (base_any w.heap.size _ _ g L c bs ad w1 (had.imp id fun ⟨r, q', h1, h2, h3, h4⟩ => ⟨r, q', h1, by have := HZ0.out; omega, h3, h4⟩) HS1.out.row rfl (by have := HS1.out.ng; omega))
  clear hb1 had
  go_wp2_with fail
  ((with_reducible refine HA.out.mono ?_))
  rintro e w3 ⟨rfl, hb3⟩
  have HS3 := Lib.hid (HS1.out.below hb3)
  clear hb3
  go_wp2_with fail
  ((with_reducible refine (HX1.out _ HS3.out.tab).mono ?_))
  rintro e wa1 ⟨aa1, rfl, hba1, hopt1⟩
  have HSa1 := Lib.hid (HS3.out.below hba1)
  have HNM1 := Lib.hid (fromName_any hopt1)
  clear hba1 hopt1
  go_wp2_with fail
  ((with_reducible refine HNM1.out.mono ?_))
  rintro e wb1 ⟨ad1, rfl, hbb1, hopt1⟩
  have HSb1 := Lib.hid (HSa1.out.below hbb1)
  have HGb1 := Lib.hid (OptK.of hopt1 HSa1.out.lt)
  have k3 : wb1.cell? ⟨w.heap.size, 3, none⟩ = some (.pointer none) := HSb1.out.cell 3
  have f3 := HSb1.out.frozen 3
  have HZ1 : Hid (FromIn w b g L c p bs #[.pointer none, .slice none 0 0, .slice none 0 0, .pointer ad1] 305 (wb1.setCell ⟨w.heap.size, 3, none⟩ (.pointer ad1))) := Lib.hid (HSb1.out.set 3 (.pointer ad1))
  have HGb1z1 := Lib.hid (HGb1.out.set 3 (.pointer ad1))
  clear hbb1 hopt1
  go_wp2
  go_ret
  exact ⟨_, rfl, Nat.le_refl _, giveNamedType HZ1.out.row (Nat.le_refl _) HGb1z1.out.gives, HZ1.out.bel⟩


set_option maxHeartbeats 8000000 in
set_option maxRecDepth 100000 in
theorem fromTvarType_q (b g L c p size : Nat) (bs : List UInt8) (q : List Nat) (hq : TypeQ bs p size q) (t1 : Tr) {Q1 : List UInt8 → Nat → Prop} (hx1 : OptF t1 Q1 bs p q 1) (w : World) (h : TabAt b g L c p bs w) :
    Calls Tryz.prog 116 #[.agg #[.pointer none, .slice none 0 0, .slice none 0 0, .pointer none], .pointer (some ⟨b, 0, none⟩)] w (MadeP 306 (.mk 46 ⟨#[]⟩ ⟨#[]⟩ 0 [t1]) w) := by
  have HX1 := Lib.hid (fun W (hW : TabAt b g L c p bs W) => idTvarType_q b g L c p size bs q hq hx1 W hW)
  have hmf : ∀ (fn : Fn) (first cap : Array Value) (w : World), (Instr.makeFunc fn first cap).run Tryz.prog w = .ok (.func fn first cap) w := fun _ _ _ _ => rfl
  have HBN := Lib.hid (fun W (hW : TabAt b g L c p bs W) => baseNodeTvarType_q b g L c p size bs q hq W hW)
  have hb0 := (Below.refl _ w).alloc (Nat.le_refl _) (.cells #[.pointer none, .slice none 0 0, .slice none 0 0, .pointer none] 307)
  have HS0 : Hid (FromIn w b g L c p bs #[.pointer none, .slice none 0 0, .slice none 0 0, .pointer none] 307 (w.alloc (.cells #[.pointer none, .slice none 0 0, .slice none 0 0, .pointer none] 307))) := Lib.hid ⟨h.below hb0, heap_alloc_new w _, hb0, h.bl, h.gl⟩
  have hsz0 : (w.alloc (.cells #[.pointer none, .slice none 0 0, .slice none 0 0, .pointer none] 307)).heap.size = w.heap.size + 1 := by simp
  have HZ0 := Lib.hid hsz0
  clear h hq hb0 hsz0 hx1
  go_enter Tryz.func116, Tryz.ntmps116
  go_wp2_with fail
  ((with_reducible refine (HBN.out _ HS0.out.tab).mono ?_))
  rintro e w1 ⟨ad, rfl, hb1, had⟩
  have HS1 := Lib.hid (HS0.out.below hb1)
  have HA := Lib.hid (base_any w.heap.size _ _ g L c bs ad w1 (had.imp id fun ⟨r, q', h1, h2, h3, h4⟩ => ⟨r, q', h1, by have := HZ0.out; omega, h3, h4⟩) HS1.out.row rfl (by have := HS1.out.ng; omega))
  clear hb1 had
  go_wp2_with fail
  ((with_reducible refine HA.out.mono ?_))
  rintro e w3 ⟨rfl, hb3⟩
  have HS3 := Lib.hid (HS1.out.below hb3)
  clear hb3
  go_wp2_with fail
  ((with_reducible refine (HX1.out _ HS3.out.tab).mono ?_))
  rintro e wa1 ⟨aa1, rfl, hba1, hopt1⟩
  have HSa1 := Lib.hid (HS3.out.below hba1)
  have HNM1 := Lib.hid (fromName_any hopt1)
  clear hba1 hopt1
  go_wp2_with fail
  ((with_reducible refine HNM1.out.mono ?_))
  rintro e wb1 ⟨ad1, rfl, hbb1, hopt1⟩
  have HSb1 := Lib.hid (HSa1.out.below hbb1)
  have HGb1 := Lib.hid (OptK.of hopt1 HSa1.out.lt)
  have k3 : wb1.cell? ⟨w.heap.size, 3, none⟩ = some (.pointer none) := HSb1.out.cell 3
  have f3 := HSb1.out.frozen 3
  have HZ1 : Hid (FromIn w b g L c p bs #[.pointer none, .slice none 0 0, .slice none 0 0, .pointer ad1] 307 (wb1.setCell ⟨w.heap.size, 3, none⟩ (.pointer ad1))) := Lib.hid (HSb1.out.set 3 (.pointer ad1))
  have HGb1z1 := Lib.hid (HGb1.out.set 3 (.pointer ad1))
  clear hbb1 hopt1
  go_wp2
  go_ret
  exact ⟨_, rfl, Nat.le_refl _, giveTvarType HZ1.out.row (Nat.le_refl _) HGb1z1.out.gives, HZ1.out.bel⟩


set_option maxHeartbeats 8000000 in
set_option maxRecDepth 100000 in
theorem fromArrayType_q (b g L c p size : Nat) (bs : List UInt8) (q : List Nat) (hq : TypeQ bs p size q) (t1 : Tr) {Q1 : List UInt8 → Nat → Prop} (hk1 : typeB t1.kind) (hR1 : ReadsAs t1 Q1) (u1 : Nat) (hu1 : u1 = (choiceOf t1.kind).toNat) (hc1 : ByteF u1 bs p q 1) (hx1 : KidF Q1 bs p q 2) (w : World) (h : TabAt b g L c p bs w) :
    Calls Tryz.prog 118 #[.agg #[.pointer none, .slice none 0 0, .slice none 0 0, .nilIface], .pointer (some ⟨b, 0, none⟩)] w (MadeP 308 (.mk 47 ⟨#[]⟩ ⟨#[]⟩ 0 [t1]) w) := by
  have HX1 := Lib.hid (fun base W (hW : TabAt b g L c p bs W) => tableElementArrayType_q b g L c p size bs q hq hx1 base W hW)
  have HC1 := Lib.hid (fun W (hW : TabAt b g L c p bs W) => elementTypeArrayType_q b g L c p size bs q hq hc1 W hW)
  have HD1 := Lib.hid (fun r z (hz : Q1 bs z) W (hW : TabAt r g L c z bs W) => decode_any hR1 hk1 hz hW hu1)
  have hmf : ∀ (fn : Fn) (first cap : Array Value) (w : World), (Instr.makeFunc fn first cap).run Tryz.prog w = .ok (.func fn first cap) w := fun _ _ _ _ => rfl
  have HBN := Lib.hid (fun W (hW : TabAt b g L c p bs W) => baseNodeArrayType_q b g L c p size bs q hq W hW)
  have hb0 := (Below.refl _ w).alloc (Nat.le_refl _) (.cells #[.pointer none, .slice none 0 0, .slice none 0 0, .nilIface] 310)
  have HS0 : Hid (FromIn w b g L c p bs #[.pointer none, .slice none 0 0, .slice none 0 0, .nilIface] 310 (w.alloc (.cells #[.pointer none, .slice none 0 0, .slice none 0 0, .nilIface] 310))) := Lib.hid ⟨h.below hb0, heap_alloc_new w _, hb0, h.bl, h.gl⟩
  have hsz0 : (w.alloc (.cells #[.pointer none, .slice none 0 0, .slice none 0 0, .nilIface] 310)).heap.size = w.heap.size + 1 := by simp
  have HZ0 := Lib.hid hsz0
  clear h hq hb0 hsz0 hx1 hc1 hR1 hk1 hu1
  go_enter Tryz.func118, Tryz.ntmps118
  go_wp2_with fail
  ((with_reducible refine (HBN.out _ HS0.out.tab).mono ?_))
  rintro e w1 ⟨ad, rfl, hb1, had⟩
  have HS1 := Lib.hid (HS0.out.below hb1)
  have HA := Lib.hid (base_any w.heap.size _ _ g L c bs ad w1 (had.imp id fun ⟨r, q', h1, h2, h3, h4⟩ => ⟨r, q', h1, by have := HZ0.out; omega, h3, h4⟩) HS1.out.row rfl (by have := HS1.out.ng; omega))
  clear hb1 had
  go_wp2_with fail
  ((with_reducible refine HA.out.mono ?_))
  rintro e w3 ⟨rfl, hb3⟩
  have HS3 := Lib.hid (HS1.out.below hb3)
  clear hb3
  go_wp2_with fail
  ((with_reducible refine (HX1.out _ _ HS3.out.tab).mono ?_))
  rintro e wa1 ⟨ra1, za1, rfl, hta1, hqa1, hba1⟩
  have HSa1 := Lib.hid (HS3.out.below hba1)
  have HTa1 := Lib.hid hta1
  have HQa1 := Lib.hid hqa1
  clear hba1 hta1 hqa1
  go_wp2_with fail
  ((with_reducible refine (HC1.out _ HSa1.out.tab).mono ?_))
  rintro e wb1 ⟨rfl, hmb1⟩
  have hbb1 := reads_below hmb1
  have HSb1 := Lib.hid (HSa1.out.below hbb1)
  have HDb1 := Lib.hid (HD1.out _ _ HQa1.out _ (HTa1.out.below hbb1))
  clear hmb1 hbb1
  go_wp2_with fail
  ((with_reducible refine HDb1.out.mono ?_))
  rintro e wc1 ⟨rc1, rfl, hgc1, hbc1⟩
  have HSc1 := Lib.hid (HSb1.out.below hbc1)
  have HGb1 := Lib.hid (KidG.of hgc1 HSb1.out.lt)
  have k3 : wc1.cell? ⟨w.heap.size, 3, none⟩ = some (.nilIface) := HSc1.out.cell 3
  have f3 := HSc1.out.frozen 3
  have HZ1 : Hid (FromIn w b g L c p bs #[.pointer none, .slice none 0 0, .slice none 0 0, .iface (readT t1.kind) (.pointer (some ⟨rc1, 0, none⟩))] 310 (wc1.setCell ⟨w.heap.size, 3, none⟩ (.iface (readT t1.kind) (.pointer (some ⟨rc1, 0, none⟩))))) := Lib.hid (HSc1.out.set 3 (.iface (readT t1.kind) (.pointer (some ⟨rc1, 0, none⟩))))
  have HGb1z1 := Lib.hid (HGb1.out.set 3 (.iface (readT t1.kind) (.pointer (some ⟨rc1, 0, none⟩))))
  clear hgc1 hbc1
  go_wp2
  go_ret
  exact ⟨_, rfl, Nat.le_refl _, giveArrayType HZ1.out.row (Nat.le_refl _) HGb1z1.out.gives, HZ1.out.bel⟩


set_option maxHeartbeats 8000000 in
set_option maxRecDepth 100000 in
theorem fromDictType_q (b g L c p size : Nat) (bs : List UInt8) (q : List Nat) (hq : TypeQ bs p size q) (t1 : Tr) {Q1 : List UInt8 → Nat → Prop} (hk1 : typeB t1.kind) (hR1 : ReadsAs t1 Q1) (u1 : Nat) (hu1 : u1 = (choiceOf t1.kind).toNat) (hc1 : ByteF u1 bs p q 1) (hx1 : KidF Q1 bs p q 2) (t2 : Tr) {Q2 : List UInt8 → Nat → Prop} (hk2 : typeB t2.kind) (hR2 : ReadsAs t2 Q2) (u2 : Nat) (hu2 : u2 = (choiceOf t2.kind).toNat) (hc2 : ByteF u2 bs p q 3) (hx2 : KidF Q2 bs p q 4) (w : World) (h : TabAt b g L c p bs w) :
    Calls Tryz.prog 20 #[.agg #[.pointer none, .slice none 0 0, .slice none 0 0, .nilIface, .nilIface], .pointer (some ⟨b, 0, none⟩)] w (MadeP 38 (.mk 48 ⟨#[]⟩ ⟨#[]⟩ 0 [t1, t2]) w) := by
  have HX1 := Lib.hid (fun base W (hW : TabAt b g L c p bs W) => tableKeyDictType_q b g L c p size bs q hq hx1 base W hW)
  have HC1 := Lib.hid (fun W (hW : TabAt b g L c p bs W) => keyTypeDictType_q b g L c p size bs q hq hc1 W hW)
  have HD1 := Lib.hid (fun r z (hz : Q1 bs z) W (hW : TabAt r g L c z bs W) => decode_any hR1 hk1 hz hW hu1)
  have HX2 := Lib.hid (fun base W (hW : TabAt b g L c p bs W) => tableValDictType_q b g L c p size bs q hq hx2 base W hW)
  have HC2 := Lib.hid (fun W (hW : TabAt b g L c p bs W) => valTypeDictType_q b g L c p size bs q hq hc2 W hW)
  have HD2 := Lib.hid (fun r z (hz : Q2 bs z) W (hW : TabAt r g L c z bs W) => decode_any hR2 hk2 hz hW hu2)
  have hmf : ∀ (fn : Fn) (first cap : Array Value) (w : World), (Instr.makeFunc fn first cap).run Tryz.prog w = .ok (.func fn first cap) w := fun _ _ _ _ => rfl
  have HBN := Lib.hid (fun W (hW : TabAt b g L c p bs W) => baseNodeDictType_q b g L c p size bs q hq W hW)
  have hb0 := (Below.refl _ w).alloc (Nat.le_refl _) (.cells #[.pointer none, .slice none 0 0, .slice none 0 0, .nilIface, .nilIface] 47)
  have HS0 : Hid (FromIn w b g L c p bs #[.pointer none, .slice none 0 0, .slice none 0 0, .nilIface, .nilIface] 47 (w.alloc (.cells #[.pointer none, .slice none 0 0, .slice none 0 0, .nilIface, .nilIface] 47))) := Lib.hid ⟨h.below hb0, heap_alloc_new w _, hb0, h.bl, h.gl⟩
  have hsz0 : (w.alloc (.cells #[.pointer none, .slice none 0 0, .slice none 0 0, .nilIface, .nilIface] 47)).heap.size = w.heap.size + 1 := by simp
  have HZ0 := Lib.hid hsz0
  clear h hq hb0 hsz0 hx1 hc1 hR1 hk1 hu1 hx2 hc2 hR2 hk2 hu2
  go_enter Tryz.func20, Tryz.ntmps20
  go_wp2_with fail
  ((with_reducible refine (HBN.out _ HS0.out.tab).mono ?_))
  rintro e w1 ⟨ad, rfl, hb1, had⟩
  have HS1 := Lib.hid (HS0.out.below hb1)
  have HA := Lib.hid (base_any w.heap.size _ _ g L c bs ad w1 (had.imp id fun ⟨r, q', h1, h2, h3, h4⟩ => ⟨r, q', h1, by have := HZ0.out; omega, h3, h4⟩) HS1.out.row rfl (by have := HS1.out.ng; omega))
  clear hb1 had
  go_wp2_with fail
  ((with_reducible refine HA.out.mono ?_))
  rintro e w3 ⟨rfl, hb3⟩
  have HS3 := Lib.hid (HS1.out.below hb3)
  clear hb3
  go_wp2_with fail
  ((with_reducible refine (HX1.out _ _ HS3.out.tab).mono ?_))
  rintro e wa1 ⟨ra1, za1, rfl, hta1, hqa1, hba1⟩
  have HSa1 := Lib.hid (HS3.out.below hba1)
  have HTa1 := Lib.hid hta1
  have HQa1 := Lib.hid hqa1
  clear hba1 hta1 hqa1
  go_wp2_with fail
  ((with_reducible refine (HC1.out _ HSa1.out.tab).mono ?_))
  rintro e wb1 ⟨rfl, hmb1⟩
  have hbb1 := reads_below hmb1
  have HSb1 := Lib.hid (HSa1.out.below hbb1)
  have HDb1 := Lib.hid (HD1.out _ _ HQa1.out _ (HTa1.out.below hbb1))
  clear hmb1 hbb1
  go_wp2_with fail
  ((with_reducible refine HDb1.out.mono ?_))
  rintro e wc1 ⟨rc1, rfl, hgc1, hbc1⟩
  have HSc1 := Lib.hid (HSb1.out.below hbc1)
  have HGb1 := Lib.hid (KidG.of hgc1 HSb1.out.lt)
  have k3 : wc1.cell? ⟨w.heap.size, 3, none⟩ = some (.nilIface) := HSc1.out.cell 3
  have f3 := HSc1.out.frozen 3
  have HZ1 : Hid (FromIn w b g L c p bs #[.pointer none, .slice none 0 0, .slice none 0 0, .iface (readT t1.kind) (.pointer (some ⟨rc1, 0, none⟩)), .nilIface] 47 (wc1.setCell ⟨w.heap.size, 3, none⟩ (.iface (readT t1.kind) (.pointer (some ⟨rc1, 0, none⟩))))) := Lib.hid (HSc1.out.set 3 (.iface (readT t1.kind) (.pointer (some ⟨rc1, 0, none⟩))))
  have HGb1z1 := Lib.hid (HGb1.out.set 3 (.iface (readT t1.kind) (.pointer (some ⟨rc1, 0, none⟩))))
  clear hgc1 hbc1
  go_wp2_with fail
  ((with_reducible refine (HX2.out _ _ HZ1.out.tab).mono ?_))
  rintro e wa2 ⟨ra2, za2, rfl, hta2, hqa2, hba2⟩
  have HSa2 := Lib.hid (HZ1.out.below hba2)
  have HTa2 := Lib.hid hta2
  have HQa2 := Lib.hid hqa2
  have HGb1z1a2 := Lib.hid (HGb1z1.out.below hba2)
  clear hba2 hta2 hqa2
  go_wp2_with fail
  ((with_reducible refine (HC2.out _ HSa2.out.tab).mono ?_))
  rintro e wb2 ⟨rfl, hmb2⟩
  have hbb2 := reads_below hmb2
  have HSb2 := Lib.hid (HSa2.out.below hbb2)
  have HDb2 := Lib.hid (HD2.out _ _ HQa2.out _ (HTa2.out.below hbb2))
  have HGb1z1b2 := Lib.hid (HGb1z1a2.out.below hbb2)
  clear hmb2 hbb2
  go_wp2_with fail
  ((with_reducible refine HDb2.out.mono ?_))
  rintro e wc2 ⟨rc2, rfl, hgc2, hbc2⟩
  have HSc2 := Lib.hid (HSb2.out.below hbc2)
  have HGb2 := Lib.hid (KidG.of hgc2 HSb2.out.lt)
  have HGb1z1c2 := Lib.hid (HGb1z1b2.out.below hbc2)
  have k4 : wc2.cell? ⟨w.heap.size, 4, none⟩ = some (.nilIface) := HSc2.out.cell 4
  have f4 := HSc2.out.frozen 4
  have HZ2 : Hid (FromIn w b g L c p bs #[.pointer none, .slice none 0 0, .slice none 0 0, .iface (readT t1.kind) (.pointer (some ⟨rc1, 0, none⟩)), .iface (readT t2.kind) (.pointer (some ⟨rc2, 0, none⟩))] 47 (wc2.setCell ⟨w.heap.size, 4, none⟩ (.iface (readT t2.kind) (.pointer (some ⟨rc2, 0, none⟩))))) := Lib.hid (HSc2.out.set 4 (.iface (readT t2.kind) (.pointer (some ⟨rc2, 0, none⟩))))
  have HGb1z1z2 := Lib.hid (HGb1z1c2.out.set 4 (.iface (readT t2.kind) (.pointer (some ⟨rc2, 0, none⟩))))
  have HGb2z2 := Lib.hid (HGb2.out.set 4 (.iface (readT t2.kind) (.pointer (some ⟨rc2, 0, none⟩))))
  clear hgc2 hbc2
  go_wp2
  go_ret
  exact ⟨_, rfl, Nat.le_refl _, giveDictType HZ2.out.row (Nat.le_refl _) HGb1z1z2.out.gives HGb2z2.out.gives, HZ2.out.bel⟩


set_option maxHeartbeats 8000000 in
set_option maxRecDepth 100000 in
theorem fromPropertyType_q (b g L c p size : Nat) (bs : List UInt8) (q : List Nat) (hq : TypeQ bs p size q) (t1 : Tr) {Q1 : List UInt8 → Nat → Prop} (hx1 : OptF t1 Q1 bs p q 1) (t2 : Tr) {Q2 : List UInt8 → Nat → Prop} (hk2 : typeB t2.kind) (hR2 : ReadsAs t2 Q2) (u2 : Nat) (hu2 : u2 = (choiceOf t2.kind).toNat) (hc2 : ByteF u2 bs p q 2) (hx2 : KidF Q2 bs p q 3) (w : World) (h : TabAt b g L c p bs w) :
    Calls Tryz.prog 27 #[.agg #[.pointer none, .slice none 0 0, .slice none 0 0, .pointer none, .nilIface], .pointer (some ⟨b, 0, none⟩)] w (MadeP 67 (.mk 50 ⟨#[]⟩ ⟨#[]⟩ 0 [t1, t2]) w) := by
  have HX1 := Lib.hid (fun W (hW : TabAt b g L c p bs W) => idPropertyType_q b g L c p size bs q hq hx1 W hW)
  have HX2 := Lib.hid (fun base W (hW : TabAt b g L c p bs W) => tableMonotypePropertyType_q b g L c p size bs q hq hx2 base W hW)
  have HC2 := Lib.hid (fun W (hW : TabAt b g L c p bs W) => monotypeTypePropertyType_q b g L c p size bs q hq hc2 W hW)
  have HD2 := Lib.hid (fun r z (hz : Q2 bs z) W (hW : TabAt r g L c z bs W) => decode_any hR2 hk2 hz hW hu2)
  have hmf : ∀ (fn : Fn) (first cap : Array Value) (w : World), (Instr.makeFunc fn first cap).run Tryz.prog w = .ok (.func fn first cap) w := fun _ _ _ _ => rfl
  have HBN := Lib.hid (fun W (hW : TabAt b g L c p bs W) => baseNodePropertyType_q b g L c p size bs q hq W hW)
  have hb0 := (Below.refl _ w).alloc (Nat.le_refl _) (.cells #[.pointer none, .slice none 0 0, .slice none 0 0, .pointer none, .nilIface] 69)
  have HS0 : Hid (FromIn w b g L c p bs #[.pointer none, .slice none 0 0, .slice none 0 0, .pointer none, .nilIface] 69 (w.alloc (.cells #[.pointer none, .slice none 0 0, .slice none 0 0, .pointer none, .nilIface] 69))) := Lib.hid ⟨h.below hb0, heap_alloc_new w _, hb0, h.bl, h.gl⟩
  have hsz0 : (w.alloc (.cells #[.pointer none, .slice none 0 0, .slice none 0 0, .pointer none, .nilIface] 69)).heap.size = w.heap.size + 1 := by simp
  have HZ0 := Lib.hid hsz0
  clear h hq hb0 hsz0 hx1 hx2 hc2 hR2 hk2 hu2
  go_enter Tryz.func27, Tryz.ntmps27
  go_wp2_with fail
  ((with_reducible refine (HBN.out _ HS0.out.tab).mono ?_))
  rintro e w1 ⟨ad, rfl, hb1, had⟩
  have HS1 := Lib.hid (HS0.out.below hb1)
  have HA := Lib.hid (base_any w.heap.size _ _ g L c bs ad w1 (had.imp id fun ⟨r, q', h1, h2, h3, h4⟩ => ⟨r, q', h1, by have := HZ0.out; omega, h3, h4⟩) HS1.out.row rfl (by have := HS1.out.ng; omega))
  clear hb1 had
  go_wp2_with fail
  ((with_reducible refine HA.out.mono ?_))
  rintro e w3 ⟨rfl, hb3⟩
  have HS3 := Lib.hid (HS1.out.below hb3)
  clear hb3
  go_wp2_with fail
  ((with_reducible refine (HX1.out _ HS3.out.tab).mono ?_))
  rintro e wa1 ⟨aa1, rfl, hba1, hopt1⟩
  have HSa1 := Lib.hid (HS3.out.below hba1)
  have HNM1 := Lib.hid (fromName_any hopt1)
  clear hba1 hopt1
  go_wp2_with fail
  ((with_reducible refine HNM1.out.mono ?_))
  rintro e wb1 ⟨ad1, rfl, hbb1, hopt1⟩
  have HSb1 := Lib.hid (HSa1.out.below hbb1)
  have HGb1 := Lib.hid (OptK.of hopt1 HSa1.out.lt)
  have k3 : wb1.cell? ⟨w.heap.size, 3, none⟩ = some (.pointer none) := HSb1.out.cell 3
  have f3 := HSb1.out.frozen 3
  have HZ1 : Hid (FromIn w b g L c p bs #[.pointer none, .slice none 0 0, .slice none 0 0, .pointer ad1, .nilIface] 69 (wb1.setCell ⟨w.heap.size, 3, none⟩ (.pointer ad1))) := Lib.hid (HSb1.out.set 3 (.pointer ad1))
  have HGb1z1 := Lib.hid (HGb1.out.set 3 (.pointer ad1))
  clear hbb1 hopt1
  go_wp2_with fail
  ((with_reducible refine (HX2.out _ _ HZ1.out.tab).mono ?_))
  rintro e wa2 ⟨ra2, za2, rfl, hta2, hqa2, hba2⟩
  have HSa2 := Lib.hid (HZ1.out.below hba2)
  have HTa2 := Lib.hid hta2
  have HQa2 := Lib.hid hqa2
  have HGb1z1a2 := Lib.hid (HGb1z1.out.below hba2)
  clear hba2 hta2 hqa2
  go_wp2_with fail
  ((with_reducible refine (HC2.out _ HSa2.out.tab).mono ?_))
  rintro e wb2 ⟨rfl, hmb2⟩
  have hbb2 := reads_below hmb2
  have HSb2 := Lib.hid (HSa2.out.below hbb2)
  have HDb2 := Lib.hid (HD2.out _ _ HQa2.out _ (HTa2.out.below hbb2))
  have HGb1z1b2 := Lib.hid (HGb1z1a2.out.below hbb2)
  clear hmb2 hbb2
  go_wp2_with fail
  ((with_reducible refine HDb2.out.mono ?_))
  rintro e wc2 ⟨rc2, rfl, hgc2, hbc2⟩
  have HSc2 := Lib.hid (HSb2.out.below hbc2)
  have HGb2 := Lib.hid (KidG.of hgc2 HSb2.out.lt)
  have HGb1z1c2 := Lib.hid (HGb1z1b2.out.below hbc2)
  have k4 : wc2.cell? ⟨w.heap.size, 4, none⟩ = some (.nilIface) := HSc2.out.cell 4
  have f4 := HSc2.out.frozen 4
  have HZ2 : Hid (FromIn w b g L c p bs #[.pointer none, .slice none 0 0, .slice none 0 0, .pointer ad1, .iface (readT t2.kind) (.pointer (some ⟨rc2, 0, none⟩))] 69 (wc2.setCell ⟨w.heap.size, 4, none⟩ (.iface (readT t2.kind) (.pointer (some ⟨rc2, 0, none⟩))))) := Lib.hid (HSc2.out.set 4 (.iface (readT t2.kind) (.pointer (some ⟨rc2, 0, none⟩))))
  have HGb1z1z2 := Lib.hid (HGb1z1c2.out.set 4 (.iface (readT t2.kind) (.pointer (some ⟨rc2, 0, none⟩))))
  have HGb2z2 := Lib.hid (HGb2.out.set 4 (.iface (readT t2.kind) (.pointer (some ⟨rc2, 0, none⟩))))
  clear hgc2 hbc2
  go_wp2
  go_ret
  exact ⟨_, rfl, Nat.le_refl _, givePropertyType HZ2.out.row (Nat.le_refl _) HGb1z1z2.out.gives HGb2z2.out.gives, HZ2.out.bel⟩


set_option maxHeartbeats 8000000 in
set_option maxRecDepth 100000 in
theorem fromParameterType_q (b g L c p size : Nat) (bs : List UInt8) (q : List Nat) (hq : TypeQ bs p size q) (t1 : Tr) {Q1 : List UInt8 → Nat → Prop} (hx1 : OptF t1 Q1 bs p q 1) (t2 : Tr) {Q2 : List UInt8 → Nat → Prop} (hk2 : typeB t2.kind) (hR2 : ReadsAs t2 Q2) (u2 : Nat) (hu2 : u2 = (choiceOf t2.kind).toNat) (hc2 : ByteF u2 bs p q 2) (hx2 : KidF Q2 bs p q 3) (uk : Nat) (huk : uk ≤ 2) (hck : ByteF uk bs p q 4) (w : World) (h : TabAt b g L c p bs w) :
    Calls Tryz.prog 25 #[.agg #[.pointer none, .slice none 0 0, .slice none 0 0, .pointer none, .nilIface, .string ⟨#[]⟩], .pointer (some ⟨b, 0, none⟩)] w (MadeP 59 (.mk 52 ⟨#[]⟩ ⟨#[]⟩ uk [t1, t2]) w) := by
  have HX1 := Lib.hid (fun W (hW : TabAt b g L c p bs W) => idParameterType_q b g L c p size bs q hq hx1 W hW)
  have HX2 := Lib.hid (fun base W (hW : TabAt b g L c p bs W) => tableMonotypeParameterType_q b g L c p size bs q hq hx2 base W hW)
  have HC2 := Lib.hid (fun W (hW : TabAt b g L c p bs W) => monotypeTypeParameterType_q b g L c p size bs q hq hc2 W hW)
  have HD2 := Lib.hid (fun r z (hz : Q2 bs z) W (hW : TabAt r g L c z bs W) => decode_any hR2 hk2 hz hW hu2)
  have HCK := Lib.hid (fun W (hW : TabAt b g L c p bs W) => kindParameterType_there b g L c p bs size q hq.vt hq.s4 hq.few hck.at_.1 _ rfl hck.at_.2.1 hck.at_.2.2 uk hck.val (by omega) hck.fit W hW)
  have HPK := Lib.hid (fun W => paramKind_any uk huk W)
  have HKT := Lib.hid (kindText_says uk huk)
  have hmf : ∀ (fn : Fn) (first cap : Array Value) (w : World), (Instr.makeFunc fn first cap).run Tryz.prog w = .ok (.func fn first cap) w := fun _ _ _ _ => rfl
  have HBN := Lib.hid (fun W (hW : TabAt b g L c p bs W) => baseNodeParameterType_q b g L c p size bs q hq W hW)
  have hb0 := (Below.refl _ w).alloc (Nat.le_refl _) (.cells #[.pointer none, .slice none 0 0, .slice none 0 0, .pointer none, .nilIface, .string ⟨#[]⟩] 63)
  have HS0 : Hid (FromIn w b g L c p bs #[.pointer none, .slice none 0 0, .slice none 0 0, .pointer none, .nilIface, .string ⟨#[]⟩] 63 (w.alloc (.cells #[.pointer none, .slice none 0 0, .slice none 0 0, .pointer none, .nilIface, .string ⟨#[]⟩] 63))) := Lib.hid ⟨h.below hb0, heap_alloc_new w _, hb0, h.bl, h.gl⟩
  have hsz0 : (w.alloc (.cells #[.pointer none, .slice none 0 0, .slice none 0 0, .pointer none, .nilIface, .string ⟨#[]⟩] 63)).heap.size = w.heap.size + 1 := by simp
  have HZ0 := Lib.hid hsz0
  clear h hq hb0 hsz0 hx1 hx2 hc2 hR2 hk2 hu2 hck huk
  go_enter Tryz.func25, Tryz.ntmps25
  go_wp2_with fail
  ((with_reducible refine (HBN.out _ HS0.out.tab).mono ?_))
  rintro e w1 ⟨ad, rfl, hb1, had⟩
  have HS1 := Lib.hid (HS0.out.below hb1)
  have HA := Lib.hid (base_any w.heap.size _ _ g L c bs ad w1 (had.imp id fun ⟨r, q', h1, h2, h3, h4⟩ => ⟨r, q', h1, by have := HZ0.out; omega, h3, h4⟩) HS1.out.row rfl (by have := HS1.out.ng; omega))
  clear hb1 had
  go_wp2_with fail
  ((with_reducible refine HA.out.mono ?_))
  rintro e w3 ⟨rfl, hb3⟩
  have HS3 := Lib.hid (HS1.out.below hb3)
  clear hb3
  go_wp2_with fail
  ((with_reducible refine (HX1.out _ HS3.out.tab).mono ?_))
  rintro e wa1 ⟨aa1, rfl, hba1, hopt1⟩
  have HSa1 := Lib.hid (HS3.out.below hba1)
  have HNM1 := Lib.hid (fromName_any hopt1)
  clear hba1 hopt1
  go_wp2_with fail
  ((with_reducible refine HNM1.out.mono ?_))
  rintro e wb1 ⟨ad1, rfl, hbb1, hopt1⟩
  have HSb1 := Lib.hid (HSa1.out.below hbb1)
  have HGb1 := Lib.hid (OptK.of hopt1 HSa1.out.lt)
  have k3 : wb1.cell? ⟨w.heap.size, 3, none⟩ = some (.pointer none) := HSb1.out.cell 3
  have f3 := HSb1.out.frozen 3
  have HZ1 : Hid (FromIn w b g L c p bs #[.pointer none, .slice none 0 0, .slice none 0 0, .pointer ad1, .nilIface, .string ⟨#[]⟩] 63 (wb1.setCell ⟨w.heap.size, 3, none⟩ (.pointer ad1))) := Lib.hid (HSb1.out.set 3 (.pointer ad1))
  have HGb1z1 := Lib.hid (HGb1.out.set 3 (.pointer ad1))
  clear hbb1 hopt1
  go_wp2_with fail
  ((with_reducible refine (HX2.out _ _ HZ1.out.tab).mono ?_))
  rintro e wa2 ⟨ra2, za2, rfl, hta2, hqa2, hba2⟩
  have HSa2 := Lib.hid (HZ1.out.below hba2)
  have HTa2 := Lib.hid hta2
  have HQa2 := Lib.hid hqa2
  have HGb1z1a2 := Lib.hid (HGb1z1.out.below hba2)
  clear hba2 hta2 hqa2
  go_wp2_with fail
  ((with_reducible refine (HC2.out _ HSa2.out.tab).mono ?_))
  rintro e wb2 ⟨rfl, hmb2⟩
  have hbb2 := reads_below hmb2
  have HSb2 := Lib.hid (HSa2.out.below hbb2)
  have HDb2 := Lib.hid (HD2.out _ _ HQa2.out _ (HTa2.out.below hbb2))
  have HGb1z1b2 := Lib.hid (HGb1z1a2.out.below hbb2)
  clear hmb2 hbb2
  go_wp2_with fail
  ((with_reducible refine HDb2.out.mono ?_))
  rintro e wc2 ⟨rc2, rfl, hgc2, hbc2⟩
  have HSc2 := Lib.hid (HSb2.out.below hbc2)
  have HGb2 := Lib.hid (KidG.of hgc2 HSb2.out.lt)
  have HGb1z1c2 := Lib.hid (HGb1z1b2.out.below hbc2)
  have k4 : wc2.cell? ⟨w.heap.size, 4, none⟩ = some (.nilIface) := HSc2.out.cell 4
  have f4 := HSc2.out.frozen 4
  have HZ2 : Hid (FromIn w b g L c p bs #[.pointer none, .slice none 0 0, .slice none 0 0, .pointer ad1, .iface (readT t2.kind) (.pointer (some ⟨rc2, 0, none⟩)), .string ⟨#[]⟩] 63 (wc2.setCell ⟨w.heap.size, 4, none⟩ (.iface (readT t2.kind) (.pointer (some ⟨rc2, 0, none⟩))))) := Lib.hid (HSc2.out.set 4 (.iface (readT t2.kind) (.pointer (some ⟨rc2, 0, none⟩))))
  have HGb1z1z2 := Lib.hid (HGb1z1c2.out.set 4 (.iface (readT t2.kind) (.pointer (some ⟨rc2, 0, none⟩))))
  have HGb2z2 := Lib.hid (HGb2.out.set 4 (.iface (readT t2.kind) (.pointer (some ⟨rc2, 0, none⟩))))
  clear hgc2 hbc2
  go_wp2_with fail
  ((with_reducible refine (HCK.out _ HZ2.out.tab).mono ?_))
  rintro e wa3 ⟨rfl, hma3⟩
  have hba3 := reads_below hma3
  have HSa3 := Lib.hid (HZ2.out.below hba3)
  have HGb1z1z2a3 := Lib.hid (HGb1z1z2.out.below hba3)
  have HGb2z2a3 := Lib.hid (HGb2z2.out.below hba3)
  clear hma3
  go_wp2_with fail
  ((with_reducible refine (HPK.out _).mono ?_))
  rintro e wb3 ⟨rfl, rfl⟩
  have k5 : wb3.cell? ⟨w.heap.size, 5, none⟩ = some (.string ⟨#[]⟩) := HSa3.out.cell 5
  have f5 := HSa3.out.frozen 5
  have HZ3 : Hid (FromIn w b g L c p bs #[.pointer none, .slice none 0 0, .slice none 0 0, .pointer ad1, .iface (readT t2.kind) (.pointer (some ⟨rc2, 0, none⟩)), .string (kindText uk)] 63 (wb3.setCell ⟨w.heap.size, 5, none⟩ (.string (kindText uk)))) := Lib.hid (HSa3.out.set 5 (.string (kindText uk)))
  have HGb1z1z2z3 := Lib.hid (HGb1z1z2a3.out.set 5 (.string (kindText uk)))
  have HGb2z2z3 := Lib.hid (HGb2z2a3.out.set 5 (.string (kindText uk)))
  clear hba3
  go_wp2
  go_ret
  exact ⟨_, rfl, Nat.le_refl _, giveParameterType HZ3.out.row (Nat.le_refl _) HKT.out HGb1z1z2z3.out.gives HGb2z2z3.out.gives, HZ3.out.bel⟩


end Go.Proofs.YtgceklahjdbipaaGreatDoor
