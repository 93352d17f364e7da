/- How types are read: what is asked of each kind's FromBuf; the union's choice. -/
import Derived.Test.YtgceklahjdbipaaGreatDoorTyGive
import Derived.Test.YtgceklahjdbipaaGreatDoorFromLeaf
import Derived.Test.YtgceklahjdbipaaGreatDoorGetType
namespace Go.Proofs.YtgceklahjdbipaaGreatDoor
open Go Go.RowKit
set_option linter.unusedVariables false
set_option linter.unusedSimpArgs false

theorem tab_made_drew {g L c : Nat} {bs : List UInt8} {w : World} (h : RowAt g L c bs w) (m p : Nat) (x0 x1 : Value) (T : TypeId) :
    TabAt w.heap.size g L c p bs (initW ((w.alloc (.cells #[x0, x1] T)).drewN m) w.heap.size (.slice (some ⟨g, 0, none⟩) L c) p) ∧ Below w.heap.size w (initW ((w.alloc (.cells #[x0, x1] T)).drewN m) w.heap.size (.slice (some ⟨g, 0, none⟩) L c) p) := by
  obtain ⟨h1, h2⟩ := tab_made h p x0 x1 T
  exact ⟨⟨h1.c0, h1.c1, h1.row, h1.len, h1.cap, h1.big, h1.gl, h1.bl⟩, ⟨h2.os, h2.tape, h2.output, h2.size, h2.block⟩⟩

/-- A node is made that gives a tree. -/
def MadeP (PT : TypeId) (tr : Tr) (w : World) (e : Ending) (w' : World) : Prop :=
  ∃ r, e = .returned (.pointer (some ⟨r, 0, none⟩)) ∧ w.heap.size ≤ r ∧ NodeGives w.heap.size w' (.iface PT (.pointer (some ⟨r, 0, none⟩))) tr ∧ Below w.heap.size w w'

/-- .. as a value of an interface. -/
def MadeI (PT : TypeId) (tr : Tr) (w : World) (e : Ending) (w' : World) : Prop :=
  ∃ r, e = .returned (.iface PT (.pointer (some ⟨r, 0, none⟩))) ∧ NodeGives w.heap.size w' (.iface PT (.pointer (some ⟨r, 0, none⟩))) tr ∧ Below w.heap.size w w'

/-- The reader of a kind: its FromBuf, what it is called on, and what it makes. -/
def readF (k : Int) : FuncId :=
  if k = 33 then 70 else if k = 44 then 29 else if k = 45 then 114 else if k = 46 then 116 else if k = 47 then 118 else if k = 48 then 20 else if k = 49 then 120 else if k = 50 then 27 else if k = 51 then 122 else if k = 52 then 25 else if k = 53 then 88 else 0
def readZ (k : Int) : Value :=
  if k = 33 then .agg #[.pointer none, .slice none 0 0, .slice none 0 0, .string ⟨#[]⟩] else if k = 44 then .agg #[.pointer none, .slice none 0 0, .slice none 0 0, .nilIface, .slice none 0 0] else if k = 45 then .agg #[.pointer none, .slice none 0 0, .slice none 0 0, .pointer none] else if k = 46 then .agg #[.pointer none, .slice none 0 0, .slice none 0 0, .pointer none] else if k = 47 then .agg #[.pointer none, .slice none 0 0, .slice none 0 0, .nilIface] else if k = 48 then .agg #[.pointer none, .slice none 0 0, .slice none 0 0, .nilIface, .nilIface] else if k = 49 then .agg #[.pointer none, .slice none 0 0, .slice none 0 0, .slice none 0 0, .pointer none] else if k = 50 then .agg #[.pointer none, .slice none 0 0, .slice none 0 0, .pointer none, .nilIface] else if k = 51 then .agg #[.pointer none, .slice none 0 0, .slice none 0 0, .slice none 0 0, .nilIface] else if k = 52 then .agg #[.pointer none, .slice none 0 0, .slice none 0 0, .pointer none, .nilIface, .string ⟨#[]⟩] else if k = 53 then .agg #[.pointer none, .slice none 0 0, .slice none 0 0, .pointer none, .slice none 0 0] else .nilIface
def readT (k : Int) : TypeId :=
  if k = 33 then 60 else if k = 44 then 73 else if k = 45 then 303 else if k = 46 then 306 else if k = 47 then 308 else if k = 48 then 38 else if k = 49 then 311 else if k = 50 then 67 else if k = 51 then 316 else if k = 52 then 59 else if k = 53 then 285 else 0

/-- What says Q is read as a tree. -/
def ReadsAs (tr : Tr) (Q : List UInt8 → Nat → Prop) : Prop :=
  ∀ bs p, Q bs p → ∀ b g L c w, TabAt b g L c p bs w → Calls Tryz.prog (readF tr.kind) #[readZ tr.kind, .pointer (some ⟨b, 0, none⟩)] w (MadeP (readT tr.kind) tr w)


theorem reads33 {tr : Tr} {Q : List UInt8 → Nat → Prop} (h : ReadsAs tr Q) (hk : tr.kind = 33) {bs : List UInt8} {p : Nat} (hq : Q bs p) {b g L c : Nat} {w : World} (ht : TabAt b g L c p bs w) : Calls Tryz.prog 70 #[.agg #[.pointer none, .slice none 0 0, .slice none 0 0, .string ⟨#[]⟩], .pointer (some ⟨b, 0, none⟩)] w (MadeP 60 tr w) := by
  have h1 := h bs p hq b g L c w ht
  rw [hk] at h1
  exact h1


theorem reads44 {tr : Tr} {Q : List UInt8 → Nat → Prop} (h : ReadsAs tr Q) (hk : tr.kind = 44) {bs : List UInt8} {p : Nat} (hq : Q bs p) {b g L c : Nat} {w : World} (ht : TabAt b g L c p bs w) : Calls Tryz.prog 29 #[.agg #[.pointer none, .slice none 0 0, .slice none 0 0, .nilIface, .slice none 0 0], .pointer (some ⟨b, 0, none⟩)] w (MadeP 73 tr w) := by
  have h1 := h bs p hq b g L c w ht
  rw [hk] at h1
  exact h1


theorem reads45 {tr : Tr} {Q : List UInt8 → Nat → Prop} (h : ReadsAs tr Q) (hk : tr.kind = 45) {bs : List UInt8} {p : Nat} (hq : Q bs p) {b g L c : Nat} {w : World} (ht : TabAt b g L c p bs w) : Calls Tryz.prog 114 #[.agg #[.pointer none, .slice none 0 0, .slice none 0 0, .pointer none], .pointer (some ⟨b, 0, none⟩)] w (MadeP 303 tr w) := by
  have h1 := h bs p hq b g L c w ht
  rw [hk] at h1
  exact h1


theorem reads46 {tr : Tr} {Q : List UInt8 → Nat → Prop} (h : ReadsAs tr Q) (hk : tr.kind = 46) {bs : List UInt8} {p : Nat} (hq : Q bs p) {b g L c : Nat} {w : World} (ht : TabAt b g L c p bs w) : Calls Tryz.prog 116 #[.agg #[.pointer none, .slice none 0 0, .slice none 0 0, .pointer none], .pointer (some ⟨b, 0, none⟩)] w (MadeP 306 tr w) := by
  have h1 := h bs p hq b g L c w ht
  rw [hk] at h1
  exact h1


theorem reads47 {tr : Tr} {Q : List UInt8 → Nat → Prop} (h : ReadsAs tr Q) (hk : tr.kind = 47) {bs : List UInt8} {p : Nat} (hq : Q bs p) {b g L c : Nat} {w : World} (ht : TabAt b g L c p bs w) : Calls Tryz.prog 118 #[.agg #[.pointer none, .slice none 0 0, .slice none 0 0, .nilIface], .pointer (some ⟨b, 0, none⟩)] w (MadeP 308 tr w) := by
  have h1 := h bs p hq b g L c w ht
  rw [hk] at h1
  exact h1


theorem reads48 {tr : Tr} {Q : List UInt8 → Nat → Prop} (h : ReadsAs tr Q) (hk : tr.kind = 48) {bs : List UInt8} {p : Nat} (hq : Q bs p) {b g L c : Nat} {w : World} (ht : TabAt b g L c p bs w) : Calls Tryz.prog 20 #[.agg #[.pointer none, .slice none 0 0, .slice none 0 0, .nilIface, .nilIface], .pointer (some ⟨b, 0, none⟩)] w (MadeP 38 tr w) := by
  have h1 := h bs p hq b g L c w ht
  rw [hk] at h1
  exact h1


theorem reads49 {tr : Tr} {Q : List UInt8 → Nat → Prop} (h : ReadsAs tr Q) (hk : tr.kind = 49) {bs : List UInt8} {p : Nat} (hq : Q bs p) {b g L c : Nat} {w : World} (ht : TabAt b g L c p bs w) : Calls Tryz.prog 120 #[.agg #[.pointer none, .slice none 0 0, .slice none 0 0, .slice none 0 0, .pointer none], .pointer (some ⟨b, 0, none⟩)] w (MadeP 311 tr w) := by
  have h1 := h bs p hq b g L c w ht
  rw [hk] at h1
  exact h1


theorem reads50 {tr : Tr} {Q : List UInt8 → Nat → Prop} (h : ReadsAs tr Q) (hk : tr.kind = 50) {bs : List UInt8} {p : Nat} (hq : Q bs p) {b g L c : Nat} {w : World} (ht : TabAt b g L c p bs w) : Calls Tryz.prog 27 #[.agg #[.pointer none, .slice none 0 0, .slice none 0 0, .pointer none, .nilIface], .pointer (some ⟨b, 0, none⟩)] w (MadeP 67 tr w) := by
  have h1 := h bs p hq b g L c w ht
  rw [hk] at h1
  exact h1


theorem reads51 {tr : Tr} {Q : List UInt8 → Nat → Prop} (h : ReadsAs tr Q) (hk : tr.kind = 51) {bs : List UInt8} {p : Nat} (hq : Q bs p) {b g L c : Nat} {w : World} (ht : TabAt b g L c p bs w) : Calls Tryz.prog 122 #[.agg #[.pointer none, .slice none 0 0, .slice none 0 0, .slice none 0 0, .nilIface], .pointer (some ⟨b, 0, none⟩)] w (MadeP 316 tr w) := by
  have h1 := h bs p hq b g L c w ht
  rw [hk] at h1
  exact h1


theorem reads52 {tr : Tr} {Q : List UInt8 → Nat → Prop} (h : ReadsAs tr Q) (hk : tr.kind = 52) {bs : List UInt8} {p : Nat} (hq : Q bs p) {b g L c : Nat} {w : World} (ht : TabAt b g L c p bs w) : Calls Tryz.prog 25 #[.agg #[.pointer none, .slice none 0 0, .slice none 0 0, .pointer none, .nilIface, .string ⟨#[]⟩], .pointer (some ⟨b, 0, none⟩)] w (MadeP 59 tr w) := by
  have h1 := h bs p hq b g L c w ht
  rw [hk] at h1
  exact h1


theorem reads53 {tr : Tr} {Q : List UInt8 → Nat → Prop} (h : ReadsAs tr Q) (hk : tr.kind = 53) {bs : List UInt8} {p : Nat} (hq : Q bs p) {b g L c : Nat} {w : World} (ht : TabAt b g L c p bs w) : Calls Tryz.prog 88 #[.agg #[.pointer none, .slice none 0 0, .slice none 0 0, .pointer none, .slice none 0 0], .pointer (some ⟨b, 0, none⟩)] w (MadeP 285 tr w) := by
  have h1 := h bs p hq b g L c w ht
  rw [hk] at h1
  exact h1


/-- A field that is there. -/
abbrev okAt (i : Nat) (q : List Nat) : Prop := i < q.length ∧ 0 < q.getD i 0 ∧ q.getD i 0 < 60000

/-- A field that refers to what says Q; a byte; a vector. -/
structure KidF (Q : List UInt8 → Nat → Prop) (bs : List UInt8) (p : Nat) (q : List Nat) (i : Nat) : Prop where
  at_ : okAt i q
  ref : KidRef Q bs (p + q.getD i 0)

structure ByteF (u : Nat) (bs : List UInt8) (p : Nat) (q : List Nat) (i : Nat) : Prop where
  at_ : okAt i q
  val : rd bs (p + q.getD i 0) 1 = u
  fit : p + q.getD i 0 + 1 ≤ bs.length

structure VecF (ps : List PartQ) (bs : List UInt8) (p : Nat) (q : List Nat) (i : Nat) : Prop where
  at_ : okAt i q
  ref : ∃ dst, p + q.getD i 0 ≤ dst ∧ rd bs (p + q.getD i 0) 4 = dst - (p + q.getD i 0) ∧ VecQ ps bs dst

/-- A table's head, and what all nodes have. -/
structure TypeQ (bs : List UInt8) (p size : Nat) (q : List Nat) : Prop where
  vt : VtQ size q bs p
  s4 : 4 ≤ size
  few : q.length < 1000
  base : q.getD 0 0 = 0 ∨ (okAt 0 q ∧ ∃ z, p + q.getD 0 0 ≤ z ∧ rd bs (p + q.getD 0 0) 4 = z - (p + q.getD 0 0) ∧ z + 4 ≤ bs.length ∧ BaseQ2 bs z)

theorem fsB_mem {base : Bool} {f : SlotQ} {fs : List SlotQ} (h : f ∈ fs) : f ∈ fsB base fs := by
  cases base with
  | false => exact h
  | true => exact List.mem_append_left _ h

section
variable {base : Bool} {fs : List SlotQ} {q1 q2 : List Nat} {z1 z2 : Nat} {bs : List UInt8} {p : Nat} (h : TabT base fs q1 q2 z1 z2 bs p)
include h

theorem TabT.kid {i : Nat} {P : List UInt8 → List UInt8 × Nat} {s : Nat} {Q : List UInt8 → Nat → Prop} (hm : kidQ i P s Q ∈ fs) (h1 : okAt i q1) (h2 : okAt i q2) : KidF Q bs p (if base then q2 else q1) i :=
  ⟨by cases base; exact h1; exact h2, kidRef_of h (fsB_mem hm)⟩

theorem TabT.byte {i u : Nat} (hm : numQ i 1 u ∈ fs) (hu : u < 256) (h1 : okAt i q1) (h2 : okAt i q2) (h3 : q1.getD i 0 + 1 ≤ z1) (h4 : q2.getD i 0 + 1 ≤ z2) : ByteF u bs p (if base then q2 else q1) i := by
  have hr : rd bs (p + (if base then q2 else q1).getD i 0) 1 = u % 256 ^ 1 := (h.2.2.2.2.2 _ (fsB_mem hm)).1 rfl
  have he := h.2.2.2.2.1
  refine ⟨by cases base; exact h1; exact h2, by rw [hr]; omega, ?_⟩
  cases base with
  | false => simp only [Bool.false_eq_true, if_false] at he ⊢; omega
  | true => simp only [if_true] at he ⊢; omega

theorem TabT.vec {i : Nat} {ps : List PartQ} (hm : listQ i ps ∈ fs) (h1 : okAt i q1) (h2 : okAt i q2) : VecF ps bs p (if base then q2 else q1) i := by
  obtain ⟨z, a1, a2, a3, a4⟩ := (h.2.2.2.2.2 _ (fsB_mem hm)).2 (by simp [listQ])
  exact ⟨by cases base; exact h1; exact h2, z, a2, a1, a4⟩

theorem TabT.head (h1 : 4 ≤ z1) (h2 : 4 ≤ z2) (h3 : q1.length < 1000) (h4 : q2.length < 1000) (h5 : q1.getD 0 0 = 0) (h6 : okAt 0 q2) : TypeQ bs p (if base then z2 else z1) (if base then q2 else q1) := by
  refine ⟨h.vt, by cases base; exact h1; exact h2, by cases base; exact h3; exact h4, ?_⟩
  cases base with
  | false => exact .inl h5
  | true =>
    obtain ⟨z, a1, a2, a3, a4⟩ := (h.2.2.2.2.2 baseQ (List.mem_append_right _ (List.mem_singleton.2 rfl))).2 (by simp [baseQ])
    exact .inr ⟨h6, z, a2, a1, a3, BaseQ2.of a4⟩
end

theorem tab_union {g L c : Nat} {bs : List UInt8} {w : World} (h : RowAt g L c bs w) (m p : Nat) (x0 x1 : Value) (T : TypeId) :
    TabAt w.heap.size g L c p bs (unionW ((w.alloc (.cells #[x0, x1] T)).drewN m) w.heap.size (.slice (some ⟨g, 0, none⟩) L c) p) ∧ Below w.heap.size w (unionW ((w.alloc (.cells #[x0, x1] T)).drewN m) w.heap.size (.slice (some ⟨g, 0, none⟩) L c) p) := by
  have hb0 : Below w.heap.size w ((w.alloc (.cells #[x0, x1] T)).drewN m) := ((Below.refl _ w).alloc (Nat.le_refl _) (.cells #[x0, x1] T)).trans ⟨rfl, rfl, rfl, Nat.le_refl _, fun _ _ => rfl⟩
  have hb := (hb0.setCell (p := ⟨w.heap.size, 1, none⟩) (Nat.le_refl _) (.int .u32 (p : Int))).setCell (p := ⟨w.heap.size, 0, none⟩) (Nat.le_refl _) (.slice (some ⟨g, 0, none⟩) L c)
  have hr := row_setG (row_setG (show ((w.alloc (.cells #[x0, x1] T)).drewN m).heap[w.heap.size]? = _ from heap_alloc_new w (.cells #[x0, x1] T)) 1 (.int .u32 (p : Int))) 0 (.slice (some ⟨g, 0, none⟩) L c)
  refine ⟨⟨?_, ?_, fun i hi => (hb.cell (p := ⟨g, i, none⟩) h.gl).trans (h.row i hi), h.len, h.cap, h.big, Nat.lt_of_lt_of_le h.gl hb.size, (Array.getElem?_eq_some_iff.1 hr).1⟩, hb⟩
  · rw [Lib.cell_of_heap hr]; rfl
  · rw [Lib.cell_of_heap hr]; rfl

set_option maxHeartbeats 4000000 in
set_option maxRecDepth 100000 in
/-- ast.newFBTable over a method value. -/
theorem newFB_any (fid : FuncId) (hent : ∀ args W, (callFunc fid args).run Tryz.prog W = .ok (.enter fid args) W) (b g L c q : Nat) (bs : List UInt8) (base : Value) (w : World) (h : RowAt g L c bs w)
    (hf : ∀ W, W = w.alloc (.cells #[.slice none 0 0, .int .u32 0] 258) → Calls Tryz.prog fid #[.pointer (some ⟨b, 0, none⟩), .pointer (some ⟨w.heap.size, 0, none⟩)] W fun e w' => e = .returned (.bool true) ∧ ∃ m, w' = unionW (W.drewN m) w.heap.size (.slice (some ⟨g, 0, none⟩) L c) q) :
    Calls Tryz.prog 58 #[.func (.func fid) #[.pointer (some ⟨b, 0, none⟩)] #[], base] w (NewTab g L c q bs w) := by
  have HF := Lib.hid (hf _ rfl)
  have HU := Lib.hid (fun m => tab_union h m q (.slice none 0 0) (.int .u32 0) 258)
  have hlt := alloc_size w (.cells #[.slice none 0 0, .int .u32 0] 258)
  clear h hf
  go_enter Tryz.func58, Tryz.ntmps58
  go_wp2_with fail
  ((with_reducible refine HF.out.mono ?_))
  rintro e w1 ⟨rfl, m1, rfl⟩
  obtain ⟨h1, h2⟩ := HU.out m1
  go_wp2
  go_ret
  exact ⟨_, rfl, Nat.le_refl _, h1, h2⟩


set_option maxHeartbeats 4000000 in
set_option maxRecDepth 100000 in
theorem decodeNamedType (tr : Tr) (b g L c q : Nat) (bs : List UInt8) (w : World) (h : TabAt b g L c q bs w) (hf : ∀ r W, TabAt r g L c q bs W → Calls Tryz.prog 114 #[.agg #[.pointer none, .slice none 0 0, .slice none 0 0, .pointer none], .pointer (some ⟨r, 0, none⟩)] W (MadeP 303 tr W)) :
    Calls Tryz.prog 57 #[.pointer (some ⟨b, 0, none⟩), .int .u8 1] w (MadeI 303 tr w) := by
  have hb0 := (Below.refl w.heap.size w).alloc (Nat.le_refl _) (.cells #[.slice none 0 0, .int .u32 0] 343)
  have h1 := h.below hb0
  have c0 := h1.c0
  have c1 := h1.c1
  have d0 := h.c0
  have d1 := h.c1
  have HI : Hid (Calls Tryz.prog 113 #[.pointer (some ⟨w.heap.size, 0, none⟩), .slice (some ⟨g, 0, none⟩) L c, .int .u32 q] (w.alloc (.cells #[.slice none 0 0, .int .u32 0] 343)).drew fun e w' => e = .returned (.tuple #[]) ∧ TabAt w.heap.size g L c q bs w' ∧ Below w.heap.size w w') := Lib.hid (by
    refine (initNamedType w.heap.size g L c _ _ q (w.alloc (.cells #[.slice none 0 0, .int .u32 0] 343)).drew (heap_alloc_new w (.cells #[.slice none 0 0, .int .u32 0] 343))).mono ?_
    rintro e w' ⟨rfl, rfl⟩
    exact ⟨rfl, tab_made_drew h.rowAt 1 q (.slice none 0 0) (.int .u32 0) 343⟩)
  have HF := Lib.hid (fun W (hW : TabAt w.heap.size g L c q bs W) => hf _ _ hW)
  clear h h1 hb0 hf
  go_enter Tryz.func57, Tryz.ntmps57
  go_wp2_with fail
  go_region_with ((go_at_call 113; ((with_reducible refine HI.out.mono ?_)); rintro e w1 ⟨rfl, ht1, hb1⟩))
  all_goals
    have HB := Lib.hid hb1
    have HFT := Lib.hid (HF.out _ ht1)
    clear ht1 hb1
    go_wp2_with fail
    ((with_reducible refine HFT.out.mono ?_))
    rintro e w2 ⟨r, rfl, hr, hg, hb2⟩
    have HG := Lib.hid (hg.low HB.out.size)
    have HB2 := Lib.hid (HB.out.trans (hb2.mono HB.out.size))
    clear hg hb2 hr
    go_wp2
    go_ret
    exact ⟨r, rfl, HG.out, HB2.out⟩


set_option maxHeartbeats 4000000 in
set_option maxRecDepth 100000 in
theorem decodeTvarType (tr : Tr) (b g L c q : Nat) (bs : List UInt8) (w : World) (h : TabAt b g L c q bs w) (hf : ∀ r W, TabAt r g L c q bs W → Calls Tryz.prog 116 #[.agg #[.pointer none, .slice none 0 0, .slice none 0 0, .pointer none], .pointer (some ⟨r, 0, none⟩)] W (MadeP 306 tr W)) :
    Calls Tryz.prog 57 #[.pointer (some ⟨b, 0, none⟩), .int .u8 2] w (MadeI 306 tr w) := by
  have hb0 := (Below.refl w.heap.size w).alloc (Nat.le_refl _) (.cells #[.slice none 0 0, .int .u32 0] 346)
  have h1 := h.below hb0
  have c0 := h1.c0
  have c1 := h1.c1
  have d0 := h.c0
  have d1 := h.c1
  have HI : Hid (Calls Tryz.prog 115 #[.pointer (some ⟨w.heap.size, 0, none⟩), .slice (some ⟨g, 0, none⟩) L c, .int .u32 q] (w.alloc (.cells #[.slice none 0 0, .int .u32 0] 346)).drew fun e w' => e = .returned (.tuple #[]) ∧ TabAt w.heap.size g L c q bs w' ∧ Below w.heap.size w w') := Lib.hid (by
    refine (initTvarType w.heap.size g L c _ _ q (w.alloc (.cells #[.slice none 0 0, .int .u32 0] 346)).drew (heap_alloc_new w (.cells #[.slice none 0 0, .int .u32 0] 346))).mono ?_
    rintro e w' ⟨rfl, rfl⟩
    exact ⟨rfl, tab_made_drew h.rowAt 1 q (.slice none 0 0) (.int .u32 0) 346⟩)
  have HF := Lib.hid (fun W (hW : TabAt w.heap.size g L c q bs W) => hf _ _ hW)
  clear h h1 hb0 hf
  go_enter Tryz.func57, Tryz.ntmps57
  go_wp2_with fail
  go_region_with ((go_at_call 115; ((with_reducible refine HI.out.mono ?_)); rintro e w1 ⟨rfl, ht1, hb1⟩))
  all_goals
    have HB := Lib.hid hb1
    have HFT := Lib.hid (HF.out _ ht1)
    clear ht1 hb1
    go_wp2_with fail
    ((with_reducible refine HFT.out.mono ?_))
    rintro e w2 ⟨r, rfl, hr, hg, hb2⟩
    have HG := Lib.hid (hg.low HB.out.size)
    have HB2 := Lib.hid (HB.out.trans (hb2.mono HB.out.size))
    clear hg hb2 hr
    go_wp2
    go_ret
    exact ⟨r, rfl, HG.out, HB2.out⟩


set_option maxHeartbeats 4000000 in
set_option maxRecDepth 100000 in
theorem decodeArrayType (tr : Tr) (b g L c q : Nat) (bs : List UInt8) (w : World) (h : TabAt b g L c q bs w) (hf : ∀ r W, TabAt r g L c q bs W → Calls Tryz.prog 118 #[.agg #[.pointer none, .slice none 0 0, .slice none 0 0, .nilIface], .pointer (some ⟨r, 0, none⟩)] W (MadeP 308 tr W)) :
    Calls Tryz.prog 57 #[.pointer (some ⟨b, 0, none⟩), .int .u8 3] w (MadeI 308 tr w) := by
  have hb0 := (Below.refl w.heap.size w).alloc (Nat.le_refl _) (.cells #[.slice none 0 0, .int .u32 0] 349)
  have h1 := h.below hb0
  have c0 := h1.c0
  have c1 := h1.c1
  have d0 := h.c0
  have d1 := h.c1
  have HI : Hid (Calls Tryz.prog 117 #[.pointer (some ⟨w.heap.size, 0, none⟩), .slice (some ⟨g, 0, none⟩) L c, .int .u32 q] (w.alloc (.cells #[.slice none 0 0, .int .u32 0] 349)).drew fun e w' => e = .returned (.tuple #[]) ∧ TabAt w.heap.size g L c q bs w' ∧ Below w.heap.size w w') := Lib.hid (by
    refine (initArrayType w.heap.size g L c _ _ q (w.alloc (.cells #[.slice none 0 0, .int .u32 0] 349)).drew (heap_alloc_new w (.cells #[.slice none 0 0, .int .u32 0] 349))).mono ?_
    rintro e w' ⟨rfl, rfl⟩
    exact ⟨rfl, tab_made_drew h.rowAt 1 q (.slice none 0 0) (.int .u32 0) 349⟩)
  have HF := Lib.hid (fun W (hW : TabAt w.heap.size g L c q bs W) => hf _ _ hW)
  clear h h1 hb0 hf
  go_enter Tryz.func57, Tryz.ntmps57
  go_wp2_with fail
  go_region_with ((go_at_call 117; ((with_reducible refine HI.out.mono ?_)); rintro e w1 ⟨rfl, ht1, hb1⟩))
  all_goals
    have HB := Lib.hid hb1
    have HFT := Lib.hid (HF.out _ ht1)
    clear ht1 hb1
    go_wp2_with fail
    ((with_reducible refine HFT.out.mono ?_))
    rintro e w2 ⟨r, rfl, hr, hg, hb2⟩
    have HG := Lib.hid (hg.low HB.out.size)
    have HB2 := Lib.hid (HB.out.trans (hb2.mono HB.out.size))
    clear hg hb2 hr
    go_wp2
    go_ret
    exact ⟨r, rfl, HG.out, HB2.out⟩


set_option maxHeartbeats 4000000 in
set_option maxRecDepth 100000 in
theorem decodeDictType (tr : Tr) (b g L c q : Nat) (bs : List UInt8) (w : World) (h : TabAt b g L c q bs w) (hf : ∀ r W, TabAt r g L c q bs W → Calls Tryz.prog 20 #[.agg #[.pointer none, .slice none 0 0, .slice none 0 0, .nilIface, .nilIface], .pointer (some ⟨r, 0, none⟩)] W (MadeP 38 tr W)) :
    Calls Tryz.prog 57 #[.pointer (some ⟨b, 0, none⟩), .int .u8 4] w (MadeI 38 tr w) := by
  have hb0 := (Below.refl w.heap.size w).alloc (Nat.le_refl _) (.cells #[.slice none 0 0, .int .u32 0] 260)
  have h1 := h.below hb0
  have c0 := h1.c0
  have c1 := h1.c1
  have d0 := h.c0
  have d1 := h.c1
  have HI : Hid (Calls Tryz.prog 64 #[.pointer (some ⟨w.heap.size, 0, none⟩), .slice (some ⟨g, 0, none⟩) L c, .int .u32 q] (w.alloc (.cells #[.slice none 0 0, .int .u32 0] 260)).drew fun e w' => e = .returned (.tuple #[]) ∧ TabAt w.heap.size g L c q bs w' ∧ Below w.heap.size w w') := Lib.hid (by
    refine (initDictType w.heap.size g L c _ _ q (w.alloc (.cells #[.slice none 0 0, .int .u32 0] 260)).drew (heap_alloc_new w (.cells #[.slice none 0 0, .int .u32 0] 260))).mono ?_
    rintro e w' ⟨rfl, rfl⟩
    exact ⟨rfl, tab_made_drew h.rowAt 1 q (.slice none 0 0) (.int .u32 0) 260⟩)
  have HF := Lib.hid (fun W (hW : TabAt w.heap.size g L c q bs W) => hf _ _ hW)
  clear h h1 hb0 hf
  go_enter Tryz.func57, Tryz.ntmps57
  go_wp2_with fail
  go_region_with ((go_at_call 64; ((with_reducible refine HI.out.mono ?_)); rintro e w1 ⟨rfl, ht1, hb1⟩))
  all_goals
    have HB := Lib.hid hb1
    have HFT := Lib.hid (HF.out _ ht1)
    clear ht1 hb1
    go_wp2_with fail
    ((with_reducible refine HFT.out.mono ?_))
    rintro e w2 ⟨r, rfl, hr, hg, hb2⟩
    have HG := Lib.hid (hg.low HB.out.size)
    have HB2 := Lib.hid (HB.out.trans (hb2.mono HB.out.size))
    clear hg hb2 hr
    go_wp2
    go_ret
    exact ⟨r, rfl, HG.out, HB2.out⟩


set_option maxHeartbeats 4000000 in
set_option maxRecDepth 100000 in
theorem decodeRecordType (tr : Tr) (b g L c q : Nat) (bs : List UInt8) (w : World) (h : TabAt b g L c q bs w) (hf : ∀ r W, TabAt r g L c q bs W → Calls Tryz.prog 120 #[.agg #[.pointer none, .slice none 0 0, .slice none 0 0, .slice none 0 0, .pointer none], .pointer (some ⟨r, 0, none⟩)] W (MadeP 311 tr W)) :
    Calls Tryz.prog 57 #[.pointer (some ⟨b, 0, none⟩), .int .u8 5] w (MadeI 311 tr w) := by
  have hb0 := (Below.refl w.heap.size w).alloc (Nat.le_refl _) (.cells #[.slice none 0 0, .int .u32 0] 352)
  have h1 := h.below hb0
  have c0 := h1.c0
  have c1 := h1.c1
  have d0 := h.c0
  have d1 := h.c1
  have HI : Hid (Calls Tryz.prog 119 #[.pointer (some ⟨w.heap.size, 0, none⟩), .slice (some ⟨g, 0, none⟩) L c, .int .u32 q] (w.alloc (.cells #[.slice none 0 0, .int .u32 0] 352)).drew fun e w' => e = .returned (.tuple #[]) ∧ TabAt w.heap.size g L c q bs w' ∧ Below w.heap.size w w') := Lib.hid (by
    refine (initRecordType w.heap.size g L c _ _ q (w.alloc (.cells #[.slice none 0 0, .int .u32 0] 352)).drew (heap_alloc_new w (.cells #[.slice none 0 0, .int .u32 0] 352))).mono ?_
    rintro e w' ⟨rfl, rfl⟩
    exact ⟨rfl, tab_made_drew h.rowAt 1 q (.slice none 0 0) (.int .u32 0) 352⟩)
  have HF := Lib.hid (fun W (hW : TabAt w.heap.size g L c q bs W) => hf _ _ hW)
  clear h h1 hb0 hf
  go_enter Tryz.func57, Tryz.ntmps57
  go_wp2_with fail
  go_region_with ((go_at_call 119; ((with_reducible refine HI.out.mono ?_)); rintro e w1 ⟨rfl, ht1, hb1⟩))
  all_goals
    have HB := Lib.hid hb1
    have HFT := Lib.hid (HF.out _ ht1)
    clear ht1 hb1
    go_wp2_with fail
    ((with_reducible refine HFT.out.mono ?_))
    rintro e w2 ⟨r, rfl, hr, hg, hb2⟩
    have HG := Lib.hid (hg.low HB.out.size)
    have HB2 := Lib.hid (HB.out.trans (hb2.mono HB.out.size))
    clear hg hb2 hr
    go_wp2
    go_ret
    exact ⟨r, rfl, HG.out, HB2.out⟩


set_option maxHeartbeats 4000000 in
set_option maxRecDepth 100000 in
theorem decodeFunctionType (tr : Tr) (b g L c q : Nat) (bs : List UInt8) (w : World) (h : TabAt b g L c q bs w) (hf : ∀ r W, TabAt r g L c q bs W → Calls Tryz.prog 122 #[.agg #[.pointer none, .slice none 0 0, .slice none 0 0, .slice none 0 0, .nilIface], .pointer (some ⟨r, 0, none⟩)] W (MadeP 316 tr W)) :
    Calls Tryz.prog 57 #[.pointer (some ⟨b, 0, none⟩), .int .u8 6] w (MadeI 316 tr w) := by
  have hb0 := (Below.refl w.heap.size w).alloc (Nat.le_refl _) (.cells #[.slice none 0 0, .int .u32 0] 355)
  have h1 := h.below hb0
  have c0 := h1.c0
  have c1 := h1.c1
  have d0 := h.c0
  have d1 := h.c1
  have HI : Hid (Calls Tryz.prog 121 #[.pointer (some ⟨w.heap.size, 0, none⟩), .slice (some ⟨g, 0, none⟩) L c, .int .u32 q] (w.alloc (.cells #[.slice none 0 0, .int .u32 0] 355)).drew fun e w' => e = .returned (.tuple #[]) ∧ TabAt w.heap.size g L c q bs w' ∧ Below w.heap.size w w') := Lib.hid (by
    refine (initFunctionType w.heap.size g L c _ _ q (w.alloc (.cells #[.slice none 0 0, .int .u32 0] 355)).drew (heap_alloc_new w (.cells #[.slice none 0 0, .int .u32 0] 355))).mono ?_
    rintro e w' ⟨rfl, rfl⟩
    exact ⟨rfl, tab_made_drew h.rowAt 1 q (.slice none 0 0) (.int .u32 0) 355⟩)
  have HF := Lib.hid (fun W (hW : TabAt w.heap.size g L c q bs W) => hf _ _ hW)
  clear h h1 hb0 hf
  go_enter Tryz.func57, Tryz.ntmps57
  go_wp2_with fail
  go_region_with ((go_at_call 121; ((with_reducible refine HI.out.mono ?_)); rintro e w1 ⟨rfl, ht1, hb1⟩))
  all_goals
    have HB := Lib.hid hb1
    have HFT := Lib.hid (HF.out _ ht1)
    clear ht1 hb1
    go_wp2_with fail
    ((with_reducible refine HFT.out.mono ?_))
    rintro e w2 ⟨r, rfl, hr, hg, hb2⟩
    have HG := Lib.hid (hg.low HB.out.size)
    have HB2 := Lib.hid (HB.out.trans (hb2.mono HB.out.size))
    clear hg hb2 hr
    go_wp2
    go_ret
    exact ⟨r, rfl, HG.out, HB2.out⟩


/-- What a type's choice and place say is decoded. -/
theorem decode_any {tr : Tr} {Q : List UInt8 → Nat → Prop} (hR : ReadsAs tr Q) (hk : typeB tr.kind) {b g L c q : Nat} {bs : List UInt8} (hq : Q bs q) {w : World} (h : TabAt b g L c q bs w) {u : Nat} (hu : u = (choiceOf tr.kind).toNat) :
    Calls Tryz.prog 57 #[.pointer (some ⟨b, 0, none⟩), .int .u8 u] w (MadeI (readT tr.kind) tr w) := by
  subst hu
  rcases hk with hk | hk | hk | hk | hk | hk
  · rw [hk, show (((choiceOf 45).toNat : Nat) : Int) = 1 by decide]
    exact decodeNamedType tr b g L c q bs w h fun r W hW => reads45 hR hk hq hW
  · rw [hk, show (((choiceOf 46).toNat : Nat) : Int) = 2 by decide]
    exact decodeTvarType tr b g L c q bs w h fun r W hW => reads46 hR hk hq hW
  · rw [hk, show (((choiceOf 47).toNat : Nat) : Int) = 3 by decide]
    exact decodeArrayType tr b g L c q bs w h fun r W hW => reads47 hR hk hq hW
  · rw [hk, show (((choiceOf 48).toNat : Nat) : Int) = 4 by decide]
    exact decodeDictType tr b g L c q bs w h fun r W hW => reads48 hR hk hq hW
  · rw [hk, show (((choiceOf 49).toNat : Nat) : Int) = 5 by decide]
    exact decodeRecordType tr b g L c q bs w h fun r W hW => reads49 hR hk hq hW
  · rw [hk, show (((choiceOf 51).toNat : Nat) : Int) = 6 by decide]
    exact decodeFunctionType tr b g L c q bs w h fun r W hW => reads51 hR hk hq hW

end Go.Proofs.YtgceklahjdbipaaGreatDoor
