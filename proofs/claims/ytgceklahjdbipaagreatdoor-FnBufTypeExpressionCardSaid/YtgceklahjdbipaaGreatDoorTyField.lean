/- Types' fields, read. -/
import Derived.Test.YtgceklahjdbipaaGreatDoorTyIn
namespace Go.Proofs.YtgceklahjdbipaaGreatDoor
open Go Go.RowKit
set_option linter.unusedVariables false
set_option linter.unusedSimpArgs false


theorem baseNodeNamedType_q (b g L c p size : Nat) (bs : List UInt8) (q : List Nat) (hq : TypeQ bs p size q) (w : World) (h : TabAt b g L c p bs w) :
    Calls Tryz.prog 172 #[.pointer (some ⟨b, 0, none⟩), .pointer none] w (BasePost g L c bs w) := by
  rcases hq.base with h0 | ⟨⟨h1, h2, h3⟩, z, z1, z2, z3, z4⟩
  · refine (baseNodeNamedType_none b g L c p bs size q hq.vt hq.s4 hq.few (fun _ => h0) w h).mono ?_
    rintro e w' ⟨rfl, hm⟩
    exact ⟨none, rfl, reads_below hm, .inl rfl⟩
  · refine (baseNodeNamedType_there b g L c p bs size q hq.vt hq.s4 hq.few h1 _ rfl h2 h3 z z1 z2 z3 w h).mono ?_
    rintro e w' ⟨r, rfl, hr, ht, hb⟩
    exact ⟨_, rfl, hb, .inr ⟨r, z, rfl, hr, ht, z4⟩⟩


theorem idNamedType_q (b g L c p size : Nat) (bs : List UInt8) (q : List Nat) (hq : TypeQ bs p size q) {tr : Tr} {Q : List UInt8 → Nat → Prop} (hx : OptF tr Q bs p q 1) (w : World) (h : TabAt b g L c p bs w) :
    Calls Tryz.prog 173 #[.pointer (some ⟨b, 0, none⟩), .pointer none] w (OptP tr Q g L c bs w) := by
  rcases hx with ⟨h0, h1⟩ | ⟨k1, k2, ⟨h1, h2, h3⟩, z, z1, z2, z3, z4⟩
  · refine (idNamedType_none b g L c p bs size q hq.vt hq.s4 hq.few h1 w h).mono ?_
    rintro e w' ⟨rfl, hm⟩
    exact ⟨none, rfl, reads_below hm, .inl ⟨rfl, h0⟩⟩
  · refine (idNamedType_there b g L c p bs size q hq.vt hq.s4 hq.few h1 _ rfl h2 h3 z z1 z2 z3 w h).mono ?_
    rintro e w' ⟨r, rfl, hr, ht, hb⟩
    exact ⟨_, rfl, hb, .inr ⟨r, z, rfl, ht, z4, k1, k2⟩⟩


theorem baseNodeTvarType_q (b g L c p size : Nat) (bs : List UInt8) (q : List Nat) (hq : TypeQ bs p size q) (w : World) (h : TabAt b g L c p bs w) :
    Calls Tryz.prog 174 #[.pointer (some ⟨b, 0, none⟩), .pointer none] w (BasePost g L c bs w) := by
  rcases hq.base with h0 | ⟨⟨h1, h2, h3⟩, z, z1, z2, z3, z4⟩
  · refine (baseNodeTvarType_none b g L c p bs size q hq.vt hq.s4 hq.few (fun _ => h0) w h).mono ?_
    rintro e w' ⟨rfl, hm⟩
    exact ⟨none, rfl, reads_below hm, .inl rfl⟩
  · refine (baseNodeTvarType_there b g L c p bs size q hq.vt hq.s4 hq.few h1 _ rfl h2 h3 z z1 z2 z3 w h).mono ?_
    rintro e w' ⟨r, rfl, hr, ht, hb⟩
    exact ⟨_, rfl, hb, .inr ⟨r, z, rfl, hr, ht, z4⟩⟩


theorem idTvarType_q (b g L c p size : Nat) (bs : List UInt8) (q : List Nat) (hq : TypeQ bs p size q) {tr : Tr} {Q : List UInt8 → Nat → Prop} (hx : OptF tr Q bs p q 1) (w : World) (h : TabAt b g L c p bs w) :
    Calls Tryz.prog 175 #[.pointer (some ⟨b, 0, none⟩), .pointer none] w (OptP tr Q g L c bs w) := by
  rcases hx with ⟨h0, h1⟩ | ⟨k1, k2, ⟨h1, h2, h3⟩, z, z1, z2, z3, z4⟩
  · refine (idTvarType_none b g L c p bs size q hq.vt hq.s4 hq.few h1 w h).mono ?_
    rintro e w' ⟨rfl, hm⟩
    exact ⟨none, rfl, reads_below hm, .inl ⟨rfl, h0⟩⟩
  · refine (idTvarType_there b g L c p bs size q hq.vt hq.s4 hq.few h1 _ rfl h2 h3 z z1 z2 z3 w h).mono ?_
    rintro e w' ⟨r, rfl, hr, ht, hb⟩
    exact ⟨_, rfl, hb, .inr ⟨r, z, rfl, ht, z4, k1, k2⟩⟩


theorem baseNodeArrayType_q (b g L c p size : Nat) (bs : List UInt8) (q : List Nat) (hq : TypeQ bs p size q) (w : World) (h : TabAt b g L c p bs w) :
    Calls Tryz.prog 176 #[.pointer (some ⟨b, 0, none⟩), .pointer none] w (BasePost g L c bs w) := by
  rcases hq.base with h0 | ⟨⟨h1, h2, h3⟩, z, z1, z2, z3, z4⟩
  · refine (baseNodeArrayType_none b g L c p bs size q hq.vt hq.s4 hq.few (fun _ => h0) w h).mono ?_
    rintro e w' ⟨rfl, hm⟩
    exact ⟨none, rfl, reads_below hm, .inl rfl⟩
  · refine (baseNodeArrayType_there b g L c p bs size q hq.vt hq.s4 hq.few h1 _ rfl h2 h3 z z1 z2 z3 w h).mono ?_
    rintro e w' ⟨r, rfl, hr, ht, hb⟩
    exact ⟨_, rfl, hb, .inr ⟨r, z, rfl, hr, ht, z4⟩⟩


theorem tableElementArrayType_q (b g L c p size : Nat) (bs : List UInt8) (q : List Nat) (hq : TypeQ bs p size q) {Q : List UInt8 → Nat → Prop} (hx : KidF Q bs p q 2) (base : Value) (w : World) (h : TabAt b g L c p bs w) :
    Calls Tryz.prog 58 #[.func (.func 177) #[.pointer (some ⟨b, 0, none⟩)] #[], base] w (UnionP Q g L c bs w) := by
  obtain ⟨⟨h1, h2, h3⟩, z, z1, z2, z3, z4⟩ := hx
  have hbl := h.bl
  have hgl := h.gl
  refine (newFB_any _ (fun args W => Tryz.call177 args W) b g L c z bs base w h.rowAt (fun W hW => ?_)).mono ?_
  · subst hW
    exact elementArrayType_there b g L c p bs size q hq.vt hq.s4 hq.few h1 _ rfl h2 h3 z z1 z2 z3 w.heap.size _ _ (by omega) (by omega) _ (h.below ((Below.refl w.heap.size w).alloc (Nat.le_refl _) _)) (heap_alloc_new w _)
  · rintro e w' ⟨r, rfl, hr, ht, hb⟩
    exact ⟨r, z, rfl, ht, z4, hb⟩

theorem elementTypeArrayType_q (b g L c p size : Nat) (bs : List UInt8) (q : List Nat) (hq : TypeQ bs p size q) {u : Nat} (hx : ByteF u bs p q 1) (w : World) (h : TabAt b g L c p bs w) :
    Calls Tryz.prog 178 #[.pointer (some ⟨b, 0, none⟩)] w fun e w' => e = .returned (.int .u8 u) ∧ ∃ m, w' = w.drewN m :=
  elementTypeArrayType_there b g L c p bs size q hq.vt hq.s4 hq.few hx.at_.1 _ rfl hx.at_.2.1 hx.at_.2.2 u hx.val hx.fit w h


theorem baseNodeDictType_q (b g L c p size : Nat) (bs : List UInt8) (q : List Nat) (hq : TypeQ bs p size q) (w : World) (h : TabAt b g L c p bs w) :
    Calls Tryz.prog 56 #[.pointer (some ⟨b, 0, none⟩), .pointer none] w (BasePost g L c bs w) := by
  rcases hq.base with h0 | ⟨⟨h1, h2, h3⟩, z, z1, z2, z3, z4⟩
  · refine (baseNodeDictType_none b g L c p bs size q hq.vt hq.s4 hq.few (fun _ => h0) w h).mono ?_
    rintro e w' ⟨rfl, hm⟩
    exact ⟨none, rfl, reads_below hm, .inl rfl⟩
  · refine (baseNodeDictType_there b g L c p bs size q hq.vt hq.s4 hq.few h1 _ rfl h2 h3 z z1 z2 z3 w h).mono ?_
    rintro e w' ⟨r, rfl, hr, ht, hb⟩
    exact ⟨_, rfl, hb, .inr ⟨r, z, rfl, hr, ht, z4⟩⟩


theorem tableKeyDictType_q (b g L c p size : Nat) (bs : List UInt8) (q : List Nat) (hq : TypeQ bs p size q) {Q : List UInt8 → Nat → Prop} (hx : KidF Q bs p q 2) (base : Value) (w : World) (h : TabAt b g L c p bs w) :
    Calls Tryz.prog 58 #[.func (.func 59) #[.pointer (some ⟨b, 0, none⟩)] #[], base] w (UnionP Q g L c bs w) := by
  obtain ⟨⟨h1, h2, h3⟩, z, z1, z2, z3, z4⟩ := hx
  have hbl := h.bl
  have hgl := h.gl
  refine (newFB_any _ (fun args W => Tryz.call59 args W) b g L c z bs base w h.rowAt (fun W hW => ?_)).mono ?_
  · subst hW
    exact keyDictType_there b g L c p bs size q hq.vt hq.s4 hq.few h1 _ rfl h2 h3 z z1 z2 z3 w.heap.size _ _ (by omega) (by omega) _ (h.below ((Below.refl w.heap.size w).alloc (Nat.le_refl _) _)) (heap_alloc_new w _)
  · rintro e w' ⟨r, rfl, hr, ht, hb⟩
    exact ⟨r, z, rfl, ht, z4, hb⟩

theorem keyTypeDictType_q (b g L c p size : Nat) (bs : List UInt8) (q : List Nat) (hq : TypeQ bs p size q) {u : Nat} (hx : ByteF u bs p q 1) (w : World) (h : TabAt b g L c p bs w) :
    Calls Tryz.prog 60 #[.pointer (some ⟨b, 0, none⟩)] w fun e w' => e = .returned (.int .u8 u) ∧ ∃ m, w' = w.drewN m :=
  keyTypeDictType_there b g L c p bs size q hq.vt hq.s4 hq.few hx.at_.1 _ rfl hx.at_.2.1 hx.at_.2.2 u hx.val hx.fit w h


theorem tableValDictType_q (b g L c p size : Nat) (bs : List UInt8) (q : List Nat) (hq : TypeQ bs p size q) {Q : List UInt8 → Nat → Prop} (hx : KidF Q bs p q 4) (base : Value) (w : World) (h : TabAt b g L c p bs w) :
    Calls Tryz.prog 58 #[.func (.func 61) #[.pointer (some ⟨b, 0, none⟩)] #[], base] w (UnionP Q g L c bs w) := by
  obtain ⟨⟨h1, h2, h3⟩, z, z1, z2, z3, z4⟩ := hx
  have hbl := h.bl
  have hgl := h.gl
  refine (newFB_any _ (fun args W => Tryz.call61 args W) b g L c z bs base w h.rowAt (fun W hW => ?_)).mono ?_
  · subst hW
    exact valDictType_there b g L c p bs size q hq.vt hq.s4 hq.few h1 _ rfl h2 h3 z z1 z2 z3 w.heap.size _ _ (by omega) (by omega) _ (h.below ((Below.refl w.heap.size w).alloc (Nat.le_refl _) _)) (heap_alloc_new w _)
  · rintro e w' ⟨r, rfl, hr, ht, hb⟩
    exact ⟨r, z, rfl, ht, z4, hb⟩

theorem valTypeDictType_q (b g L c p size : Nat) (bs : List UInt8) (q : List Nat) (hq : TypeQ bs p size q) {u : Nat} (hx : ByteF u bs p q 3) (w : World) (h : TabAt b g L c p bs w) :
    Calls Tryz.prog 62 #[.pointer (some ⟨b, 0, none⟩)] w fun e w' => e = .returned (.int .u8 u) ∧ ∃ m, w' = w.drewN m :=
  valTypeDictType_there b g L c p bs size q hq.vt hq.s4 hq.few hx.at_.1 _ rfl hx.at_.2.1 hx.at_.2.2 u hx.val hx.fit w h


theorem baseNodePropertyType_q (b g L c p size : Nat) (bs : List UInt8) (q : List Nat) (hq : TypeQ bs p size q) (w : World) (h : TabAt b g L c p bs w) :
    Calls Tryz.prog 77 #[.pointer (some ⟨b, 0, none⟩), .pointer none] w (BasePost g L c bs w) := by
  rcases hq.base with h0 | ⟨⟨h1, h2, h3⟩, z, z1, z2, z3, z4⟩
  · refine (baseNodePropertyType_none b g L c p bs size q hq.vt hq.s4 hq.few (fun _ => h0) w h).mono ?_
    rintro e w' ⟨rfl, hm⟩
    exact ⟨none, rfl, reads_below hm, .inl rfl⟩
  · refine (baseNodePropertyType_there b g L c p bs size q hq.vt hq.s4 hq.few h1 _ rfl h2 h3 z z1 z2 z3 w h).mono ?_
    rintro e w' ⟨r, rfl, hr, ht, hb⟩
    exact ⟨_, rfl, hb, .inr ⟨r, z, rfl, hr, ht, z4⟩⟩


theorem idPropertyType_q (b g L c p size : Nat) (bs : List UInt8) (q : List Nat) (hq : TypeQ bs p size q) {tr : Tr} {Q : List UInt8 → Nat → Prop} (hx : OptF tr Q bs p q 1) (w : World) (h : TabAt b g L c p bs w) :
    Calls Tryz.prog 78 #[.pointer (some ⟨b, 0, none⟩), .pointer none] w (OptP tr Q g L c bs w) := by
  rcases hx with ⟨h0, h1⟩ | ⟨k1, k2, ⟨h1, h2, h3⟩, z, z1, z2, z3, z4⟩
  · refine (idPropertyType_none b g L c p bs size q hq.vt hq.s4 hq.few h1 w h).mono ?_
    rintro e w' ⟨rfl, hm⟩
    exact ⟨none, rfl, reads_below hm, .inl ⟨rfl, h0⟩⟩
  · refine (idPropertyType_there b g L c p bs size q hq.vt hq.s4 hq.few h1 _ rfl h2 h3 z z1 z2 z3 w h).mono ?_
    rintro e w' ⟨r, rfl, hr, ht, hb⟩
    exact ⟨_, rfl, hb, .inr ⟨r, z, rfl, ht, z4, k1, k2⟩⟩


theorem tableMonotypePropertyType_q (b g L c p size : Nat) (bs : List UInt8) (q : List Nat) (hq : TypeQ bs p size q) {Q : List UInt8 → Nat → Prop} (hx : KidF Q bs p q 3) (base : Value) (w : World) (h : TabAt b g L c p bs w) :
    Calls Tryz.prog 58 #[.func (.func 79) #[.pointer (some ⟨b, 0, none⟩)] #[], base] w (UnionP Q g L c bs w) := by
  obtain ⟨⟨h1, h2, h3⟩, z, z1, z2, z3, z4⟩ := hx
  have hbl := h.bl
  have hgl := h.gl
  refine (newFB_any _ (fun args W => Tryz.call79 args W) b g L c z bs base w h.rowAt (fun W hW => ?_)).mono ?_
  · subst hW
    exact monotypePropertyType_there b g L c p bs size q hq.vt hq.s4 hq.few h1 _ rfl h2 h3 z z1 z2 z3 w.heap.size _ _ (by omega) (by omega) _ (h.below ((Below.refl w.heap.size w).alloc (Nat.le_refl _) _)) (heap_alloc_new w _)
  · rintro e w' ⟨r, rfl, hr, ht, hb⟩
    exact ⟨r, z, rfl, ht, z4, hb⟩

theorem monotypeTypePropertyType_q (b g L c p size : Nat) (bs : List UInt8) (q : List Nat) (hq : TypeQ bs p size q) {u : Nat} (hx : ByteF u bs p q 2) (w : World) (h : TabAt b g L c p bs w) :
    Calls Tryz.prog 80 #[.pointer (some ⟨b, 0, none⟩)] w fun e w' => e = .returned (.int .u8 u) ∧ ∃ m, w' = w.drewN m :=
  monotypeTypePropertyType_there b g L c p bs size q hq.vt hq.s4 hq.few hx.at_.1 _ rfl hx.at_.2.1 hx.at_.2.2 u hx.val hx.fit w h


theorem baseNodeParameterType_q (b g L c p size : Nat) (bs : List UInt8) (q : List Nat) (hq : TypeQ bs p size q) (w : World) (h : TabAt b g L c p bs w) :
    Calls Tryz.prog 69 #[.pointer (some ⟨b, 0, none⟩), .pointer none] w (BasePost g L c bs w) := by
  rcases hq.base with h0 | ⟨⟨h1, h2, h3⟩, z, z1, z2, z3, z4⟩
  · refine (baseNodeParameterType_none b g L c p bs size q hq.vt hq.s4 hq.few (fun _ => h0) w h).mono ?_
    rintro e w' ⟨rfl, hm⟩
    exact ⟨none, rfl, reads_below hm, .inl rfl⟩
  · refine (baseNodeParameterType_there b g L c p bs size q hq.vt hq.s4 hq.few h1 _ rfl h2 h3 z z1 z2 z3 w h).mono ?_
    rintro e w' ⟨r, rfl, hr, ht, hb⟩
    exact ⟨_, rfl, hb, .inr ⟨r, z, rfl, hr, ht, z4⟩⟩


theorem idParameterType_q (b g L c p size : Nat) (bs : List UInt8) (q : List Nat) (hq : TypeQ bs p size q) {tr : Tr} {Q : List UInt8 → Nat → Prop} (hx : OptF tr Q bs p q 1) (w : World) (h : TabAt b g L c p bs w) :
    Calls Tryz.prog 71 #[.pointer (some ⟨b, 0, none⟩), .pointer none] w (OptP tr Q g L c bs w) := by
  rcases hx with ⟨h0, h1⟩ | ⟨k1, k2, ⟨h1, h2, h3⟩, z, z1, z2, z3, z4⟩
  · refine (idParameterType_none b g L c p bs size q hq.vt hq.s4 hq.few h1 w h).mono ?_
    rintro e w' ⟨rfl, hm⟩
    exact ⟨none, rfl, reads_below hm, .inl ⟨rfl, h0⟩⟩
  · refine (idParameterType_there b g L c p bs size q hq.vt hq.s4 hq.few h1 _ rfl h2 h3 z z1 z2 z3 w h).mono ?_
    rintro e w' ⟨r, rfl, hr, ht, hb⟩
    exact ⟨_, rfl, hb, .inr ⟨r, z, rfl, ht, z4, k1, k2⟩⟩


theorem tableMonotypeParameterType_q (b g L c p size : Nat) (bs : List UInt8) (q : List Nat) (hq : TypeQ bs p size q) {Q : List UInt8 → Nat → Prop} (hx : KidF Q bs p q 3) (base : Value) (w : World) (h : TabAt b g L c p bs w) :
    Calls Tryz.prog 58 #[.func (.func 72) #[.pointer (some ⟨b, 0, none⟩)] #[], base] w (UnionP Q g L c bs w) := by
  obtain ⟨⟨h1, h2, h3⟩, z, z1, z2, z3, z4⟩ := hx
  have hbl := h.bl
  have hgl := h.gl
  refine (newFB_any _ (fun args W => Tryz.call72 args W) b g L c z bs base w h.rowAt (fun W hW => ?_)).mono ?_
  · subst hW
    exact monotypeParameterType_there b g L c p bs size q hq.vt hq.s4 hq.few h1 _ rfl h2 h3 z z1 z2 z3 w.heap.size _ _ (by omega) (by omega) _ (h.below ((Below.refl w.heap.size w).alloc (Nat.le_refl _) _)) (heap_alloc_new w _)
  · rintro e w' ⟨r, rfl, hr, ht, hb⟩
    exact ⟨r, z, rfl, ht, z4, hb⟩

theorem monotypeTypeParameterType_q (b g L c p size : Nat) (bs : List UInt8) (q : List Nat) (hq : TypeQ bs p size q) {u : Nat} (hx : ByteF u bs p q 2) (w : World) (h : TabAt b g L c p bs w) :
    Calls Tryz.prog 73 #[.pointer (some ⟨b, 0, none⟩)] w fun e w' => e = .returned (.int .u8 u) ∧ ∃ m, w' = w.drewN m :=
  monotypeTypeParameterType_there b g L c p bs size q hq.vt hq.s4 hq.few hx.at_.1 _ rfl hx.at_.2.1 hx.at_.2.2 u hx.val hx.fit w h


theorem baseNodeRecordType_q (b g L c p size : Nat) (bs : List UInt8) (q : List Nat) (hq : TypeQ bs p size q) (w : World) (h : TabAt b g L c p bs w) :
    Calls Tryz.prog 179 #[.pointer (some ⟨b, 0, none⟩), .pointer none] w (BasePost g L c bs w) := by
  rcases hq.base with h0 | ⟨⟨h1, h2, h3⟩, z, z1, z2, z3, z4⟩
  · refine (baseNodeRecordType_none b g L c p bs size q hq.vt hq.s4 hq.few (fun _ => h0) w h).mono ?_
    rintro e w' ⟨rfl, hm⟩
    exact ⟨none, rfl, reads_below hm, .inl rfl⟩
  · refine (baseNodeRecordType_there b g L c p bs size q hq.vt hq.s4 hq.few h1 _ rfl h2 h3 z z1 z2 z3 w h).mono ?_
    rintro e w' ⟨r, rfl, hr, ht, hb⟩
    exact ⟨_, rfl, hb, .inr ⟨r, z, rfl, hr, ht, z4⟩⟩


theorem tvarRecordType_q (b g L c p size : Nat) (bs : List UInt8) (q : List Nat) (hq : TypeQ bs p size q) {tr : Tr} {Q : List UInt8 → Nat → Prop} (hx : OptF tr Q bs p q 2) (w : World) (h : TabAt b g L c p bs w) :
    Calls Tryz.prog 180 #[.pointer (some ⟨b, 0, none⟩), .pointer none] w (OptP tr Q g L c bs w) := by
  rcases hx with ⟨h0, h1⟩ | ⟨k1, k2, ⟨h1, h2, h3⟩, z, z1, z2, z3, z4⟩
  · refine (tvarRecordType_none b g L c p bs size q hq.vt hq.s4 hq.few h1 w h).mono ?_
    rintro e w' ⟨rfl, hm⟩
    exact ⟨none, rfl, reads_below hm, .inl ⟨rfl, h0⟩⟩
  · refine (tvarRecordType_there b g L c p bs size q hq.vt hq.s4 hq.few h1 _ rfl h2 h3 z z1 z2 z3 w h).mono ?_
    rintro e w' ⟨r, rfl, hr, ht, hb⟩
    exact ⟨_, rfl, hb, .inr ⟨r, z, rfl, ht, z4, k1, k2⟩⟩


theorem baseNodeFunctionType_q (b g L c p size : Nat) (bs : List UInt8) (q : List Nat) (hq : TypeQ bs p size q) (w : World) (h : TabAt b g L c p bs w) :
    Calls Tryz.prog 183 #[.pointer (some ⟨b, 0, none⟩), .pointer none] w (BasePost g L c bs w) := by
  rcases hq.base with h0 | ⟨⟨h1, h2, h3⟩, z, z1, z2, z3, z4⟩
  · refine (baseNodeFunctionType_none b g L c p bs size q hq.vt hq.s4 hq.few (fun _ => h0) w h).mono ?_
    rintro e w' ⟨rfl, hm⟩
    exact ⟨none, rfl, reads_below hm, .inl rfl⟩
  · refine (baseNodeFunctionType_there b g L c p bs size q hq.vt hq.s4 hq.few h1 _ rfl h2 h3 z z1 z2 z3 w h).mono ?_
    rintro e w' ⟨r, rfl, hr, ht, hb⟩
    exact ⟨_, rfl, hb, .inr ⟨r, z, rfl, hr, ht, z4⟩⟩


theorem tableMonotypeFunctionType_q (b g L c p size : Nat) (bs : List UInt8) (q : List Nat) (hq : TypeQ bs p size q) {Q : List UInt8 → Nat → Prop} (hx : KidF Q bs p q 3) (base : Value) (w : World) (h : TabAt b g L c p bs w) :
    Calls Tryz.prog 58 #[.func (.func 184) #[.pointer (some ⟨b, 0, none⟩)] #[], base] w (UnionP Q g L c bs w) := by
  obtain ⟨⟨h1, h2, h3⟩, z, z1, z2, z3, z4⟩ := hx
  have hbl := h.bl
  have hgl := h.gl
  refine (newFB_any _ (fun args W => Tryz.call184 args W) b g L c z bs base w h.rowAt (fun W hW => ?_)).mono ?_
  · subst hW
    exact monotypeFunctionType_there b g L c p bs size q hq.vt hq.s4 hq.few h1 _ rfl h2 h3 z z1 z2 z3 w.heap.size _ _ (by omega) (by omega) _ (h.below ((Below.refl w.heap.size w).alloc (Nat.le_refl _) _)) (heap_alloc_new w _)
  · rintro e w' ⟨r, rfl, hr, ht, hb⟩
    exact ⟨r, z, rfl, ht, z4, hb⟩

theorem monotypeTypeFunctionType_q (b g L c p size : Nat) (bs : List UInt8) (q : List Nat) (hq : TypeQ bs p size q) {u : Nat} (hx : ByteF u bs p q 2) (w : World) (h : TabAt b g L c p bs w) :
    Calls Tryz.prog 185 #[.pointer (some ⟨b, 0, none⟩)] w fun e w' => e = .returned (.int .u8 u) ∧ ∃ m, w' = w.drewN m :=
  monotypeTypeFunctionType_there b g L c p bs size q hq.vt hq.s4 hq.few hx.at_.1 _ rfl hx.at_.2.1 hx.at_.2.2 u hx.val hx.fit w h


theorem baseNodeTypeConstraint_q (b g L c p size : Nat) (bs : List UInt8) (q : List Nat) (hq : TypeQ bs p size q) (w : World) (h : TabAt b g L c p bs w) :
    Calls Tryz.prog 141 #[.pointer (some ⟨b, 0, none⟩), .pointer none] w (BasePost g L c bs w) := by
  rcases hq.base with h0 | ⟨⟨h1, h2, h3⟩, z, z1, z2, z3, z4⟩
  · refine (baseNodeTypeConstraint_none b g L c p bs size q hq.vt hq.s4 hq.few (fun _ => h0) w h).mono ?_
    rintro e w' ⟨rfl, hm⟩
    exact ⟨none, rfl, reads_below hm, .inl rfl⟩
  · refine (baseNodeTypeConstraint_there b g L c p bs size q hq.vt hq.s4 hq.few h1 _ rfl h2 h3 z z1 z2 z3 w h).mono ?_
    rintro e w' ⟨r, rfl, hr, ht, hb⟩
    exact ⟨_, rfl, hb, .inr ⟨r, z, rfl, hr, ht, z4⟩⟩


theorem tvarTypeConstraint_q (b g L c p size : Nat) (bs : List UInt8) (q : List Nat) (hq : TypeQ bs p size q) {tr : Tr} {Q : List UInt8 → Nat → Prop} (hx : OptF tr Q bs p q 1) (w : World) (h : TabAt b g L c p bs w) :
    Calls Tryz.prog 142 #[.pointer (some ⟨b, 0, none⟩), .pointer none] w (OptP tr Q g L c bs w) := by
  rcases hx with ⟨h0, h1⟩ | ⟨k1, k2, ⟨h1, h2, h3⟩, z, z1, z2, z3, z4⟩
  · refine (tvarTypeConstraint_none b g L c p bs size q hq.vt hq.s4 hq.few h1 w h).mono ?_
    rintro e w' ⟨rfl, hm⟩
    exact ⟨none, rfl, reads_below hm, .inl ⟨rfl, h0⟩⟩
  · refine (tvarTypeConstraint_there b g L c p bs size q hq.vt hq.s4 hq.few h1 _ rfl h2 h3 z z1 z2 z3 w h).mono ?_
    rintro e w' ⟨r, rfl, hr, ht, hb⟩
    exact ⟨_, rfl, hb, .inr ⟨r, z, rfl, ht, z4, k1, k2⟩⟩


theorem baseNodeTypeExpression_q (b g L c p size : Nat) (bs : List UInt8) (q : List Nat) (hq : TypeQ bs p size q) (w : World) (h : TabAt b g L c p bs w) :
    Calls Tryz.prog 82 #[.pointer (some ⟨b, 0, none⟩), .pointer none] w (BasePost g L c bs w) := by
  rcases hq.base with h0 | ⟨⟨h1, h2, h3⟩, z, z1, z2, z3, z4⟩
  · refine (baseNodeTypeExpression_none b g L c p bs size q hq.vt hq.s4 hq.few (fun _ => h0) w h).mono ?_
    rintro e w' ⟨rfl, hm⟩
    exact ⟨none, rfl, reads_below hm, .inl rfl⟩
  · refine (baseNodeTypeExpression_there b g L c p bs size q hq.vt hq.s4 hq.few h1 _ rfl h2 h3 z z1 z2 z3 w h).mono ?_
    rintro e w' ⟨r, rfl, hr, ht, hb⟩
    exact ⟨_, rfl, hb, .inr ⟨r, z, rfl, hr, ht, z4⟩⟩


theorem tableMonotypeTypeExpression_q (b g L c p size : Nat) (bs : List UInt8) (q : List Nat) (hq : TypeQ bs p size q) {Q : List UInt8 → Nat → Prop} (hx : KidF Q bs p q 2) (base : Value) (w : World) (h : TabAt b g L c p bs w) :
    Calls Tryz.prog 58 #[.func (.func 83) #[.pointer (some ⟨b, 0, none⟩)] #[], base] w (UnionP Q g L c bs w) := by
  obtain ⟨⟨h1, h2, h3⟩, z, z1, z2, z3, z4⟩ := hx
  have hbl := h.bl
  have hgl := h.gl
  refine (newFB_any _ (fun args W => Tryz.call83 args W) b g L c z bs base w h.rowAt (fun W hW => ?_)).mono ?_
  · subst hW
    exact monotypeTypeExpression_there b g L c p bs size q hq.vt hq.s4 hq.few h1 _ rfl h2 h3 z z1 z2 z3 w.heap.size _ _ (by omega) (by omega) _ (h.below ((Below.refl w.heap.size w).alloc (Nat.le_refl _) _)) (heap_alloc_new w _)
  · rintro e w' ⟨r, rfl, hr, ht, hb⟩
    exact ⟨r, z, rfl, ht, z4, hb⟩

theorem monotypeTypeTypeExpression_q (b g L c p size : Nat) (bs : List UInt8) (q : List Nat) (hq : TypeQ bs p size q) {u : Nat} (hx : ByteF u bs p q 1) (w : World) (h : TabAt b g L c p bs w) :
    Calls Tryz.prog 84 #[.pointer (some ⟨b, 0, none⟩)] w fun e w' => e = .returned (.int .u8 u) ∧ ∃ m, w' = w.drewN m :=
  monotypeTypeTypeExpression_there b g L c p bs size q hq.vt hq.s4 hq.few hx.at_.1 _ rfl hx.at_.2.1 hx.at_.2.2 u hx.val hx.fit w h


/-- What a parameter's number says. -/
def kindText (u : Nat) : ByteArray := if u = 1 then ⟨#[79, 112, 116, 105, 111, 110, 97, 108]⟩ else if u = 2 then ⟨#[80, 105, 112, 101]⟩ else ⟨#[82, 101, 113, 117, 105, 114, 101, 100]⟩

set_option maxHeartbeats 1000000 in
theorem paramKind_any (u : Nat) (hu : u ≤ 2) (w : World) :
    Calls Tryz.prog 74 #[.int .i8 u] w fun e w' => e = .returned (.string (kindText u)) ∧ w' = w := by
  have hc : u = 0 ∨ u = 1 ∨ u = 2 := by omega
  rcases hc with rfl | rfl | rfl
  all_goals
    go_enter Tryz.func74, Tryz.ntmps74
    go_wp2
    go_ret
    exact ⟨rfl, rfl⟩

theorem kindText_says (u : Nat) (hu : u ≤ 2) : kindText u = ⟨#[79, 112, 116, 105, 111, 110, 97, 108]⟩ ∧ u = 1 ∨ kindText u = ⟨#[80, 105, 112, 101]⟩ ∧ u = 2 ∨ kindText u ≠ ⟨#[79, 112, 116, 105, 111, 110, 97, 108]⟩ ∧ kindText u ≠ ⟨#[80, 105, 112, 101]⟩ ∧ u = 0 := by
  have hc : u = 0 ∨ u = 1 ∨ u = 2 := by omega
  rcases hc with rfl | rfl | rfl
  · exact .inr (.inr ⟨by decide, by decide, rfl⟩)
  · exact .inl ⟨by decide, rfl⟩
  · exact .inr (.inl ⟨by decide, rfl⟩)

end Go.Proofs.YtgceklahjdbipaaGreatDoor
