/- Flatbuffers as bytes: what is written of a table, and what is read in it. Plain Lean. A table's layout, step by step. Plain Lean. -/

namespace Go.Proofs.YtgceklahjdbipaaGreatDoor
set_option linter.unusedVariables false
set_option linter.unusedSimpArgs false

/-- A byte of a text; 0 behind its end. -/
def gB (l : List UInt8) (i : Nat) : UInt8 := l.getD i 0

theorem gB_append (a b : List UInt8) (i : Nat) : gB (a ++ b) i = if i < a.length then gB a i else gB b (i - a.length) := by
  unfold gB List.getD
  rw [List.getElem?_append]
  split <;> rfl

theorem gB_out (l : List UInt8) (i : Nat) (h : l.length ≤ i) : gB l i = 0 := by
  unfold gB
  simp [List.getD, List.getElem?_eq_none h]

theorem gB_zeros (n i : Nat) : gB (List.replicate n 0) i = 0 := by
  unfold gB
  simp [List.getD, List.getElem?_replicate]
  split <;> rfl

/-- A number's lowest bytes. -/
def leB (n : Nat) : Nat → List UInt8
  | 0 => []
  | k + 1 => UInt8.ofNat (n % 256) :: leB (n / 256) k

theorem leB_length (k : Nat) : ∀ n, (leB n k).length = k := by
  induction k with
  | zero => intro n; rfl
  | succ k ih => intro n; simp [leB, ih]

/-- The number that bytes at a place are, the lowest first. -/
def rd (l : List UInt8) (p : Nat) : Nat → Nat
  | 0 => 0
  | k + 1 => (gB l p).toNat + 256 * rd l (p + 1) k

theorem rd_congr (k : Nat) : ∀ (l l' : List UInt8) (p p' : Nat), (∀ i, i < k → gB l (p + i) = gB l' (p' + i)) → rd l p k = rd l' p' k := by
  induction k with
  | zero => intros; rfl
  | succ k ih =>
    intro l l' p p' h
    unfold rd
    rw [show gB l p = gB l' p' from h 0 (by omega), ih l l' (p + 1) (p' + 1) fun i hi => by
      have := h (i + 1) (by omega)
      rwa [show p + (i + 1) = p + 1 + i by omega, show p' + (i + 1) = p' + 1 + i by omega] at this]

theorem rd_lt (k : Nat) : ∀ (l : List UInt8) (p : Nat), rd l p k < 256 ^ k := by
  induction k with
  | zero => intros; simp [rd]
  | succ k ih =>
    intro l p
    unfold rd
    have h1 := ih l (p + 1)
    have h2 := (gB l p).toNat_lt
    rw [Nat.pow_succ]
    omega

theorem gB_cons_succ (c : UInt8) (l : List UInt8) (i : Nat) : gB (c :: l) (i + 1) = gB l i := rfl

theorem rd_le (k : Nat) : ∀ (n : Nat) (l : List UInt8) (p : Nat), (∀ i, i < k → gB l (p + i) = gB (leB n k) i) → rd l p k = n % 256 ^ k := by
  induction k with
  | zero => intro n l p _; simp [rd, Nat.mod_one]
  | succ k ih =>
    intro n l p h
    unfold rd
    have h0 : gB l p = UInt8.ofNat (n % 256) := h 0 (by omega)
    rw [h0, ih (n / 256) l (p + 1) fun i hi => by
      have := h (i + 1) (by omega)
      rw [show p + (i + 1) = p + 1 + i by omega] at this
      rw [this]
      rfl]
    have h1 : (UInt8.ofNat (n % 256)).toNat = n % 256 := by simp
    rw [h1, Nat.pow_succ, Nat.mul_comm (256 ^ k) 256, Nat.mod_mul]

/-- Bytes put over others. -/
def patch (l : List UInt8) (p : Nat) (bs : List UInt8) : List UInt8 := l.take p ++ bs ++ l.drop (p + bs.length)

theorem patch_length (l : List UInt8) (p : Nat) (bs : List UInt8) (h : p + bs.length ≤ l.length) : (patch l p bs).length = l.length := by
  unfold patch
  simp
  omega

theorem gB_patch (l : List UInt8) (p : Nat) (bs : List UInt8) (h : p + bs.length ≤ l.length) (i : Nat) : gB (patch l p bs) i = if p ≤ i ∧ i < p + bs.length then gB bs (i - p) else gB l i := by
  unfold patch
  have htl : (l.take p).length = p := by simp; omega
  rw [gB_append, gB_append]
  simp only [List.length_append, htl]
  by_cases h1 : i < p
  · rw [if_pos (by omega), if_pos h1, if_neg (by omega)]
    unfold gB
    simp [List.getD, h1]
  · by_cases h2 : i < p + bs.length
    · rw [if_pos (by omega), if_neg h1, if_pos (by omega)]
    · rw [if_neg (by omega), if_neg (by omega)]
      unfold gB
      simp [List.getD, List.getElem?_drop]
      congr 2
      omega

theorem gB_patch_in (l : List UInt8) (p : Nat) (bs : List UInt8) (h : p + bs.length ≤ l.length) (i : Nat) (hi : i < bs.length) : gB (patch l p bs) (p + i) = gB bs i := by
  rw [gB_patch l p bs h, if_pos (by omega), Nat.add_sub_cancel_left]

theorem gB_patch_out (l : List UInt8) (p : Nat) (bs : List UInt8) (h : p + bs.length ≤ l.length) (i : Nat) (hi : i < p ∨ p + bs.length ≤ i) : gB (patch l p bs) i = gB l i := by
  rw [gB_patch l p bs h, if_neg (by omega)]

/-- Zeros up to a multiple. -/
def padTo (align ahead : Nat) (l : List UInt8) : List UInt8 := l ++ List.replicate ((align - (l.length + ahead) % align) % align) 0

/-- A slot: its place in the table's row of places, its width, its number, or what it refers to. -/
structure SlotP where
  idx : Nat
  width : Nat
  num : Nat
  ref : Option (List UInt8 → List UInt8 × Nat)

def alignUp (w s : Nat) : Nat := s + (w - s % w) % w
def placeOne (width : Nat) (acc : List Nat × Nat) (s : SlotP) : List Nat × Nat :=
  if s.width = width then (acc.1.set s.idx (alignUp width acc.2), alignUp width acc.2 + width) else acc
def most1 (slots : List SlotP) : Nat := slots.foldl (fun m s => max m (s.idx + 1)) 0
def layout (slots : List SlotP) : List Nat × Nat := [8, 4, 2, 1].foldl (fun acc width => slots.foldl (placeOne width) acc) (List.replicate (most1 slots) 0, 4)

/-- The numbers are put in. -/
def putNums (at_ : Nat) (places : List Nat) : List SlotP → List UInt8 → List UInt8
  | [], l => l
  | s :: ss, l => putNums at_ places ss (match s.ref with | none => patch l (at_ + places.getD s.idx 0) (leB s.num s.width) | some _ => l)

/-- What is referred to is written, and put in. -/
def putRefs (at_ : Nat) (places : List Nat) : List SlotP → List UInt8 → List UInt8
  | [], l => l
  | s :: ss, l => putRefs at_ places ss (match s.ref with | none => l | some P => patch (P l).1 (at_ + places.getD s.idx 0) (leB ((P l).2 - (at_ + places.getD s.idx 0)) 4))

def vtB (places : List Nat) (size : Nat) : List UInt8 := leB (4 + 2 * places.length) 2 ++ leB size 2 ++ places.flatMap fun p => leB p 2

/-- A table is written. -/
def tableB (slots : List SlotP) (l : List UInt8) : List UInt8 × Nat :=
  let pl := layout slots
  let l1 := padTo 8 (4 + 2 * most1 slots) l
  let at_ := l1.length + (4 + 2 * most1 slots)
  (putRefs at_ pl.1 slots (putNums at_ pl.1 slots (patch (l1 ++ vtB pl.1 pl.2 ++ List.replicate pl.2 0) at_ (leB (4 + 2 * most1 slots) 4))), at_)

/-- A text is written. -/
def textB (s : List UInt8) (l : List UInt8) : List UInt8 × Nat :=
  let l1 := padTo 4 0 l
  (l1 ++ leB s.length 4 ++ s ++ [0], l1.length)

/-- References of a vector are put in. -/
def putVec (at_ : Nat) (parts : List (List UInt8 → List UInt8 × Nat)) (k : Nat) (l : List UInt8) : List UInt8 :=
  match parts with
  | [] => l
  | P :: ps => putVec at_ ps (k + 1) (patch (P l).1 (at_ + 4 + 4 * k) (leB ((P l).2 - (at_ + 4 + 4 * k)) 4))

/-- A vector of references is written. -/
def vecB (parts : List (List UInt8 → List UInt8 × Nat)) (l : List UInt8) : List UInt8 × Nat :=
  let l1 := padTo 4 0 l
  (putVec l1.length parts 0 (l1 ++ leB parts.length 4 ++ List.replicate (4 * parts.length) 0), l1.length)

/-- A part: it writes behind what is there, so many bytes at most, and what stands at its place then says Q, whatever stands elsewhere. -/
def PartOk (P : List UInt8 → List UInt8 × Nat) (sz : Nat) (Q : List UInt8 → Nat → Prop) : Prop :=
  ∀ l : List UInt8, l.length + sz ≤ 2147483647 → l.length ≤ (P l).1.length ∧ (P l).1.length ≤ l.length + sz ∧ (∀ i, i < l.length → gB (P l).1 i = gB l i) ∧ l.length ≤ (P l).2 ∧ (P l).2 + 4 ≤ (P l).1.length ∧
    ∀ l', (∀ i, l.length ≤ i → i < (P l).1.length → gB l' i = gB (P l).1 i) → (P l).1.length ≤ l'.length → Q l' (P l).2

theorem pad_bound (a n : Nat) (ha : 0 < a) : (a - n % a) % a < a := Nat.mod_lt _ ha

theorem padTo_spec (a n : Nat) (ha : 0 < a) (l : List UInt8) : l.length ≤ (padTo a n l).length ∧ (padTo a n l).length ≤ l.length + a ∧ ∀ i, i < l.length → gB (padTo a n l) i = gB l i := by
  unfold padTo
  have h := pad_bound a (l.length + n) ha
  refine ⟨by simp, by simp; omega, fun i hi => by rw [gB_append, if_pos hi]⟩

/-- What a text's place says. -/
def TextAt (s : List UInt8) (l : List UInt8) (p : Nat) : Prop := rd l p 4 = s.length ∧ (∀ i, i < s.length → gB l (p + 4 + i) = gB s i) ∧ p + 4 + s.length ≤ l.length

theorem text_ok (s : List UInt8) (hs : s.length < 1000000) : PartOk (textB s) (s.length + 9) (TextAt s) := by
  intro l hl
  obtain ⟨h1, h2, h3⟩ := padTo_spec 4 0 (by decide) l
  unfold textB
  simp only
  generalize padTo 4 0 l = l1 at *
  have hlen : (l1 ++ leB s.length 4 ++ s ++ [0]).length = l1.length + 4 + s.length + 1 := by simp [leB_length]; omega
  refine ⟨by omega, by omega, fun i hi => ?_, h1, by omega, fun l' hag hle => ?_⟩
  · rw [List.append_assoc, List.append_assoc, gB_append, if_pos (by omega), h3 i hi]
  · refine ⟨?_, fun i hi => ?_, by omega⟩
    · rw [rd_le 4 s.length l' l1.length fun i hi => by
        rw [hag _ (by omega) (by omega), List.append_assoc, List.append_assoc, gB_append, if_neg (by omega), gB_append, if_pos (by rw [leB_length]; omega)]
        congr 1
        omega]
      exact Nat.mod_eq_of_lt (by omega)
    · rw [hag _ (by omega) (by omega), List.append_assoc, List.append_assoc, gB_append, if_neg (by omega), gB_append, if_neg (by rw [leB_length]; omega), leB_length, gB_append, if_pos (by omega)]
      congr 1
      omega

/-- A slot, how many bytes what it refers to takes, and what that says. -/
structure SlotQ where
  s : SlotP
  sz : Nat
  Q : List UInt8 → Nat → Prop

/-- Where a slot's bytes lie in the table. -/
def plc (places : List Nat) (s : SlotP) : Nat := places.getD s.idx 0

def Apart (places : List Nat) (a b : SlotP) : Prop := plc places a + a.width ≤ plc places b ∨ plc places b + b.width ≤ plc places a

theorem Apart.symm {places : List Nat} {a b : SlotP} (h : Apart places a b) : Apart places b a := Or.symm h

theorem pair_mem {places : List Nat} : ∀ {ss : List SlotP}, ss.Pairwise (Apart places) → ∀ {a b : SlotP}, a ∈ ss → b ∈ ss → a ≠ b → Apart places a b
  | [], _, _, _, ha, _, _ => by cases ha
  | s :: ss, h, a, b, ha, hb, hne => by
    rw [List.pairwise_cons] at h
    rcases List.mem_cons.1 ha with ha1 | ha1
    · rcases List.mem_cons.1 hb with hb1 | hb1
      · exact absurd (ha1.trans hb1.symm) hne
      · rw [ha1]; exact h.1 b hb1
    · rcases List.mem_cons.1 hb with hb1 | hb1
      · rw [hb1]; exact (h.1 a ha1).symm
      · exact pair_mem h.2 ha1 hb1 hne

theorem putNums_spec (at_ size : Nat) (places : List Nat) : ∀ (ss : List SlotP) (l : List UInt8), (∀ s ∈ ss, plc places s + s.width ≤ size) → ss.Pairwise (Apart places) → at_ + size ≤ l.length →
    (putNums at_ places ss l).length = l.length ∧ (∀ i, (∀ s ∈ ss, s.ref = none → i < at_ + plc places s ∨ at_ + plc places s + s.width ≤ i) → gB (putNums at_ places ss l) i = gB l i) ∧
      ∀ s ∈ ss, s.ref = none → ∀ j, j < s.width → gB (putNums at_ places ss l) (at_ + plc places s + j) = gB (leB s.num s.width) j
  | [], l, _, _, _ => ⟨rfl, fun _ _ => rfl, fun s hs => by cases hs⟩
  | s :: ss, l, hfit, hap, hlen => by
    have hs := hfit s (by simp)
    rw [List.pairwise_cons] at hap
    unfold putNums
    cases hr : s.ref with
    | some P =>
      simp only
      obtain ⟨h1, h2, h3⟩ := putNums_spec at_ size places ss l (fun x hx => hfit x (by simp [hx])) hap.2 hlen
      refine ⟨h1, fun i hi => h2 i fun x hx => hi x (by simp [hx]), fun x hx hxr => ?_⟩
      rcases List.mem_cons.1 hx with rfl | hx
      · rw [hr] at hxr; cases hxr
      · exact h3 x hx hxr
    | none =>
      simp only
      have hp : at_ + plc places s + (leB s.num s.width).length ≤ l.length := by rw [leB_length]; omega
      have hpl := patch_length l _ _ hp
      obtain ⟨h1, h2, h3⟩ := putNums_spec at_ size places ss (patch l (at_ + plc places s) (leB s.num s.width)) (fun x hx => hfit x (by simp [hx])) hap.2 (by rw [hpl]; exact hlen)
      refine ⟨h1.trans hpl, fun i hi => ?_, fun x hx hxr j hj => ?_⟩
      · have := h2 i fun x hx => hi x (by simp [hx])
        refine this.trans (gB_patch_out _ _ _ hp i ?_)
        rw [leB_length]
        exact hi s (by simp) hr
      · rcases List.mem_cons.1 hx with rfl | hx
        · refine (h2 (at_ + plc places x + j) fun y hy _ => ?_).trans (gB_patch_in _ _ _ hp j (by rw [leB_length]; exact hj))
          have := hap.1 y hy
          unfold Apart at this
          omega
        · exact h3 x hx hxr j hj

def szSum : List SlotQ → Nat
  | [] => 0
  | f :: fs => (match f.s.ref with | none => 0 | some _ => f.sz) + szSum fs

theorem putRefs_spec (at_ size : Nat) (places : List Nat) : ∀ (fs : List SlotQ) (l : List UInt8), (∀ f ∈ fs, plc places f.s + f.s.width ≤ size) → (fs.map SlotQ.s).Pairwise (Apart places) → (∀ f ∈ fs, ∀ P, f.s.ref = some P → f.s.width = 4 ∧ PartOk P f.sz f.Q) → at_ + size ≤ l.length → l.length + szSum fs ≤ 2147483647 →
    l.length ≤ (putRefs at_ places (fs.map SlotQ.s) l).length ∧ (putRefs at_ places (fs.map SlotQ.s) l).length ≤ l.length + szSum fs ∧
      (∀ i, i < l.length → (∀ f ∈ fs, f.s.ref ≠ none → i < at_ + plc places f.s ∨ at_ + plc places f.s + 4 ≤ i) → gB (putRefs at_ places (fs.map SlotQ.s) l) i = gB l i) ∧
      ∀ f ∈ fs, f.s.ref ≠ none → ∃ to, (∀ j, j < 4 → gB (putRefs at_ places (fs.map SlotQ.s) l) (at_ + plc places f.s + j) = gB (leB (to - (at_ + plc places f.s)) 4) j) ∧ l.length ≤ to ∧ to + 4 ≤ (putRefs at_ places (fs.map SlotQ.s) l).length ∧
        ∀ l', (∀ i, at_ + size ≤ i → i < (putRefs at_ places (fs.map SlotQ.s) l).length → gB l' i = gB (putRefs at_ places (fs.map SlotQ.s) l) i) → (putRefs at_ places (fs.map SlotQ.s) l).length ≤ l'.length → f.Q l' to
  | [], l, _, _, _, _, _ => ⟨Nat.le_refl _, Nat.le_refl _, fun _ _ _ => rfl, fun f hf => by cases hf⟩
  | f :: fs, l, hfit, hap, hok, hlen, hbig => by
    have hs := hfit f (by simp)
    rw [List.map_cons, List.pairwise_cons] at hap
    rw [List.map_cons]
    unfold putRefs
    unfold szSum at hbig ⊢
    cases hr : f.s.ref with
    | none =>
      rw [hr] at hbig
      simp only at hbig ⊢
      rw [Nat.zero_add] at hbig ⊢
      obtain ⟨h1, h2, h3, h4⟩ := putRefs_spec at_ size places fs l (fun x hx => hfit x (by simp [hx])) hap.2 (fun x hx => hok x (by simp [hx])) hlen hbig
      refine ⟨h1, h2, fun i hi hx => h3 i hi fun x hxx => hx x (by simp [hxx]), fun x hx hxr => ?_⟩
      rcases List.mem_cons.1 hx with rfl | hx
      · exact absurd hr hxr
      · exact h4 x hx hxr
    | some P =>
      rw [hr] at hbig
      simp only at hbig ⊢
      obtain ⟨hw, hP⟩ := hok f (by simp) P hr
      obtain ⟨p1, p2, p3, p4, p5, p6⟩ := hP l (by omega)
      have hp : at_ + plc places f.s + (leB ((P l).2 - (at_ + plc places f.s)) 4).length ≤ (P l).1.length := by rw [leB_length]; omega
      have hpl := patch_length (P l).1 _ _ hp
      change l.length ≤ (putRefs at_ places (fs.map SlotQ.s) (patch (P l).1 (at_ + plc places f.s) (leB ((P l).2 - (at_ + plc places f.s)) 4))).length ∧ _
      have hm : (patch (P l).1 (at_ + places.getD f.s.idx 0) (leB ((P l).2 - (at_ + places.getD f.s.idx 0)) 4)) = patch (P l).1 (at_ + plc places f.s) (leB ((P l).2 - (at_ + plc places f.s)) 4) := rfl
      rw [hm]
      clear hm
      generalize hL : patch (P l).1 (at_ + plc places f.s) (leB ((P l).2 - (at_ + plc places f.s)) 4) = L at *
      obtain ⟨h1, h2, h3, h4⟩ := putRefs_spec at_ size places fs L (fun x hx => hfit x (by simp [hx])) hap.2 (fun x hx => hok x (by simp [hx])) (by rw [hpl]; omega) (by rw [hpl]; omega)
      have hapx : ∀ x ∈ fs, x.s.ref ≠ none → (at_ + plc places f.s + 4 ≤ at_ + plc places x.s ∨ at_ + plc places x.s + 4 ≤ at_ + plc places f.s) := fun x hx hxr => by
        have h5 := hap.1 x.s (List.mem_map.2 ⟨x, hx, rfl⟩)
        unfold Apart at h5
        cases hxp : x.s.ref with
        | none => exact absurd hxp hxr
        | some P' =>
          have := (hok x (by simp [hx]) P' hxp).1
          omega
      refine ⟨by omega, by omega, fun i hi hx => ?_, fun x hx hxr => ?_⟩
      · rw [h3 i (by omega) fun y hy => hx y (by simp [hy]), ← hL, gB_patch_out _ _ _ hp i (by rw [leB_length]; exact hx f (by simp) (by rw [hr]; simp)), p3 i hi]
      · rcases List.mem_cons.1 hx with rfl | hx
        · refine ⟨(P l).2, fun j hj => ?_, p4, by omega, fun l' hag hle => ?_⟩
          · rw [h3 (at_ + plc places x.s + j) (by rw [hpl]; omega) fun y hy hyr => by have := hapx y hy hyr; omega, ← hL, gB_patch_in _ _ _ hp j (by rw [leB_length]; exact hj)]
          · refine p6 l' (fun i hi1 hi2 => ?_) (by omega)
            rw [hag i (by omega) (by omega), h3 i (by omega) fun y hy hyr => by
              have h7 := hfit y (by simp [hy])
              cases hyp : y.s.ref with
              | none => exact absurd hyp hyr
              | some P' =>
                have := (hok y (by simp [hy]) P' hyp).1
                omega, ← hL, gB_patch_out _ _ _ hp i (by rw [leB_length]; omega)]
        · obtain ⟨to, t1, t2, t3, t4⟩ := h4 x hx hxr
          exact ⟨to, t1, by omega, t3, t4⟩

/-- What a table's place says. -/
def TabQ (size : Nat) (places : List Nat) (fs : List SlotQ) (l : List UInt8) (at_ : Nat) : Prop :=
  4 + 2 * places.length ≤ at_ ∧ rd l at_ 4 = 4 + 2 * places.length ∧ rd l (at_ - (4 + 2 * places.length)) 2 = 4 + 2 * places.length ∧
    (∀ i, i < places.length → rd l (at_ - (4 + 2 * places.length) + 4 + 2 * i) 2 = places.getD i 0) ∧ at_ + size ≤ l.length ∧
    ∀ f ∈ fs, (f.s.ref = none → rd l (at_ + plc places f.s) f.s.width = f.s.num % 256 ^ f.s.width) ∧
      (f.s.ref ≠ none → ∃ to, rd l (at_ + plc places f.s) 4 = to - (at_ + plc places f.s) ∧ at_ + plc places f.s ≤ to ∧ to + 4 ≤ l.length ∧ f.Q l to)

theorem flat_length : ∀ places : List Nat, (places.flatMap fun p => leB p 2).length = 2 * places.length
  | [] => rfl
  | p :: ps => by
    rw [List.flatMap_cons, List.length_append, leB_length, flat_length ps, List.length_cons]
    omega

theorem flat_at : ∀ (places : List Nat) (i j : Nat), i < places.length → j < 2 → gB (places.flatMap fun p => leB p 2) (2 * i + j) = gB (leB (places.getD i 0) 2) j
  | [], i, j, h, _ => absurd h (Nat.not_lt_zero _)
  | p :: ps, 0, j, _, hj => by
    rw [List.flatMap_cons, gB_append, if_pos (by rw [leB_length]; omega)]
    congr 1
    omega
  | p :: ps, i + 1, j, h, hj => by
    rw [List.flatMap_cons, gB_append, if_neg (by rw [leB_length]; omega), leB_length, show 2 * (i + 1) + j - 2 = 2 * i + j by omega]
    exact flat_at ps i j (by simpa using h) hj

theorem vtB_length (places : List Nat) (size : Nat) : (vtB places size).length = 4 + 2 * places.length := by
  unfold vtB
  rw [List.length_append, List.length_append, leB_length, leB_length, flat_length]

theorem table_ok (fs : List SlotQ) (places : List Nat) (size : Nat) (hpl : layout (fs.map SlotQ.s) = (places, size)) (hm : most1 (fs.map SlotQ.s) = places.length) (hm1 : places.length < 1000) (hsz4 : 4 ≤ size) (hsz : size < 60000)
    (hplaces : ∀ p ∈ places, p < 65536) (hlo : ∀ f ∈ fs, 4 ≤ plc places f.s) (hfit : ∀ f ∈ fs, plc places f.s + f.s.width ≤ size) (hap : (fs.map SlotQ.s).Pairwise (Apart places))
    (hok : ∀ f ∈ fs, ∀ P, f.s.ref = some P → f.s.width = 4 ∧ PartOk P f.sz f.Q) :
    PartOk (tableB (fs.map SlotQ.s)) (12 + 2 * places.length + size + szSum fs) (TabQ size places fs) := by
  intro l hl
  obtain ⟨h1, h2, h3⟩ := padTo_spec 8 (4 + 2 * places.length) (by decide) l
  unfold tableB
  rw [hpl, hm]
  simp only
  generalize padTo 8 (4 + 2 * places.length) l = l1 at *
  have hvl := vtB_length places size
  -- the header's bytes
  have hbase : (l1 ++ vtB places size ++ List.replicate size 0).length = l1.length + (4 + 2 * places.length) + size := by
    rw [List.length_append, List.length_append, hvl, List.length_replicate]
  have hp2 : l1.length + (4 + 2 * places.length) + (leB (4 + 2 * places.length) 4).length ≤ (l1 ++ vtB places size ++ List.replicate size 0).length := by rw [hbase, leB_length]; omega
  have hl2 := patch_length _ _ _ hp2
  have hg2 : ∀ i, i < l1.length + (4 + 2 * places.length) → gB (patch (l1 ++ vtB places size ++ List.replicate size 0) (l1.length + (4 + 2 * places.length)) (leB (4 + 2 * places.length) 4)) i = gB (l1 ++ vtB places size) i := fun i hi => by
    rw [gB_patch_out _ _ _ hp2 i (by omega), gB_append, if_pos (by rw [List.length_append, hvl]; omega)]
  have hg4 : ∀ j, j < 4 → gB (patch (l1 ++ vtB places size ++ List.replicate size 0) (l1.length + (4 + 2 * places.length)) (leB (4 + 2 * places.length) 4)) (l1.length + (4 + 2 * places.length) + j) = gB (leB (4 + 2 * places.length) 4) j := fun j hj => gB_patch_in _ _ _ hp2 j (by rw [leB_length]; exact hj)
  generalize patch (l1 ++ vtB places size ++ List.replicate size 0) (l1.length + (4 + 2 * places.length)) (leB (4 + 2 * places.length) 4) = l2 at *
  generalize hat : l1.length + (4 + 2 * places.length) = at_ at *
  obtain ⟨n1, n2, n3⟩ := putNums_spec at_ size places (fs.map SlotQ.s) l2 (fun s hs => by obtain ⟨f, hf, rfl⟩ := List.mem_map.1 hs; exact hfit f hf) hap (by omega)
  generalize putNums at_ places (fs.map SlotQ.s) l2 = l3 at *
  obtain ⟨r1, r2, r3, r4⟩ := putRefs_spec at_ size places fs l3 hfit hap hok (by omega) (by omega)
  generalize putRefs at_ places (fs.map SlotQ.s) l3 = F at *
  -- what stands below the fields
  have hlow : ∀ i, i < at_ + 4 → gB F i = gB l2 i := fun i hi => by
    rw [r3 i (by omega) fun f hf hfr => Or.inl (by have := hlo f hf; omega), n2 i fun s hs hsr => by
      obtain ⟨f, hf, rfl⟩ := List.mem_map.1 hs
      exact Or.inl (by have := hlo f hf; omega)]
  refine ⟨by omega, by omega, fun i hi => ?_, by omega, by omega, fun l' hag hle => ?_⟩
  · rw [hlow i (by omega), hg2 i (by omega), gB_append, if_pos (by omega), h3 i hi]
  · have hv : ∀ j, j < 4 + 2 * places.length → gB l' (l1.length + j) = gB (vtB places size) j := fun j hj => by
      rw [hag _ (by omega) (by omega), hlow _ (by omega), hg2 _ (by omega), gB_append, if_neg (by omega)]
      congr 1
      omega
    refine ⟨by omega, ?_, ?_, fun i hi => ?_, by omega, fun f hf => ⟨fun hr => ?_, fun hr => ?_⟩⟩
    · rw [rd_le 4 (4 + 2 * places.length) l' at_ fun i hi => by rw [hag _ (by omega) (by omega), hlow _ (by omega), hg4 i hi]]
      exact Nat.mod_eq_of_lt (by omega)
    · rw [show at_ - (4 + 2 * places.length) = l1.length by omega, rd_le 2 (4 + 2 * places.length) l' l1.length fun i hi => by
        rw [hv i (by omega)]
        unfold vtB
        rw [List.append_assoc, gB_append, if_pos (by rw [leB_length]; omega)]]
      exact Nat.mod_eq_of_lt (by omega)
    · rw [show at_ - (4 + 2 * places.length) + 4 + 2 * i = l1.length + (4 + 2 * i) by omega, rd_le 2 (places.getD i 0) l' _ fun j hj => by
        rw [Nat.add_assoc, hv (4 + 2 * i + j) (by omega)]
        unfold vtB
        rw [gB_append, if_neg (by rw [List.length_append, leB_length, leB_length]; omega), List.length_append, leB_length, leB_length, show 4 + 2 * i + j - (2 + 2) = 2 * i + j by omega]
        exact flat_at places i j hi hj]
      refine Nat.mod_eq_of_lt ?_
      have : places.getD i 0 ∈ places := by
        unfold List.getD
        rw [List.getElem?_eq_getElem hi]
        exact List.getElem_mem hi
      exact hplaces _ this
    · have hfw := hfit f hf
      refine rd_le f.s.width f.s.num l' _ fun j hj => ?_
      rw [hag _ (by omega) (by omega), r3 _ (by omega) fun g hg hgr => ?_, n3 f.s (List.mem_map.2 ⟨f, hf, rfl⟩) hr j hj]
      · have hne : f.s ≠ g.s := fun e => hgr (e ▸ hr)
        cases hgp : g.s.ref with
        | none => exact absurd hgp hgr
        | some P' =>
          have hgw := (hok g hg P' hgp).1
          have hA : Apart places f.s g.s := pair_mem hap (List.mem_map.2 ⟨f, hf, rfl⟩) (List.mem_map.2 ⟨g, hg, rfl⟩) hne
          unfold Apart at hA
          omega
    · obtain ⟨to, t1, t2, t3, t4⟩ := r4 f hf hr
      have hfw := hfit f hf
      have hw4 : f.s.width = 4 := by
        cases hfp : f.s.ref with
        | none => exact absurd hfp hr
        | some P' => exact (hok f hf P' hfp).1
      refine ⟨to, ?_, by omega, by omega, t4 l' (fun i hi1 hi2 => hag i (by omega) hi2) hle⟩
      rw [rd_le 4 (to - (at_ + plc places f.s)) l' _ fun j hj => by rw [hag _ (by omega) (by omega), t1 j hj]]
      exact Nat.mod_eq_of_lt (by omega)

/-- A part, how many bytes it takes, what it says. -/
structure PartQ where
  P : List UInt8 → List UInt8 × Nat
  sz : Nat
  Q : List UInt8 → Nat → Prop

def szParts : List PartQ → Nat
  | [] => 0
  | p :: ps => p.sz + szParts ps

/-- What a vector's place says. -/
def VecQ (ps : List PartQ) (l : List UInt8) (p : Nat) : Prop :=
  rd l p 4 = ps.length ∧ p + 4 + 4 * ps.length ≤ l.length ∧
    ∀ i (h : i < ps.length), ∃ to, rd l (p + 4 + 4 * i) 4 = to - (p + 4 + 4 * i) ∧ p + 4 + 4 * i ≤ to ∧ to + 4 ≤ l.length ∧ (ps[i]).Q l to

theorem putVec_spec (at_ H : Nat) : ∀ (ps : List PartQ) (k : Nat) (l : List UInt8), (∀ p ∈ ps, PartOk p.P p.sz p.Q) → at_ + 4 + 4 * (k + ps.length) ≤ H → H ≤ l.length → l.length + szParts ps ≤ 2147483647 →
    l.length ≤ (putVec at_ (ps.map PartQ.P) k l).length ∧ (putVec at_ (ps.map PartQ.P) k l).length ≤ l.length + szParts ps ∧
      (∀ i, i < l.length → (i < at_ + 4 + 4 * k ∨ at_ + 4 + 4 * (k + ps.length) ≤ i) → gB (putVec at_ (ps.map PartQ.P) k l) i = gB l i) ∧
      ∀ i (h : i < ps.length), ∃ to, (∀ j, j < 4 → gB (putVec at_ (ps.map PartQ.P) k l) (at_ + 4 + 4 * (k + i) + j) = gB (leB (to - (at_ + 4 + 4 * (k + i))) 4) j) ∧ l.length ≤ to ∧ to + 4 ≤ (putVec at_ (ps.map PartQ.P) k l).length ∧
        ∀ l', (∀ i, H ≤ i → i < (putVec at_ (ps.map PartQ.P) k l).length → gB l' i = gB (putVec at_ (ps.map PartQ.P) k l) i) → (putVec at_ (ps.map PartQ.P) k l).length ≤ l'.length → (ps[i]).Q l' to
  | [], k, l, _, _, _, _ => ⟨Nat.le_refl _, Nat.le_refl _, fun _ _ _ => rfl, fun i h => absurd h (Nat.not_lt_zero _)⟩
  | p :: ps, k, l, hok, hH, hlen, hbig => by
    rw [List.map_cons]
    unfold putVec
    unfold szParts at hbig ⊢
    obtain ⟨p1, p2, p3, p4, p5, p6⟩ := hok p (by simp) l (by omega)
    simp only [List.length_cons] at hH
    have hp : at_ + 4 + 4 * k + (leB ((p.P l).2 - (at_ + 4 + 4 * k)) 4).length ≤ (p.P l).1.length := by rw [leB_length]; omega
    have hpl := patch_length _ _ _ hp
    generalize hL : patch (p.P l).1 (at_ + 4 + 4 * k) (leB ((p.P l).2 - (at_ + 4 + 4 * k)) 4) = L at *
    obtain ⟨h1, h2, h3, h4⟩ := putVec_spec at_ H ps (k + 1) L (fun x hx => hok x (by simp [hx])) (by omega) (by omega) (by omega)
    refine ⟨by omega, by omega, fun i hi hx => ?_, fun i hi => ?_⟩
    · rw [List.length_cons] at hx
      rw [h3 i (by omega) (by omega), ← hL, gB_patch_out _ _ _ hp i (by rw [leB_length]; omega), p3 i hi]
    · cases i with
      | zero =>
        refine ⟨(p.P l).2, fun j hj => ?_, p4, by omega, fun l' hag hle => ?_⟩
        · rw [show k + 0 = k from rfl, h3 (at_ + 4 + 4 * k + j) (by omega) (by omega), ← hL, gB_patch_in _ _ _ hp j (by rw [leB_length]; exact hj)]
        · refine p6 l' (fun i hi1 hi2 => ?_) (by omega)
          rw [hag i (by omega) (by omega), h3 i (by omega) (by omega), ← hL, gB_patch_out _ _ _ hp i (by rw [leB_length]; omega)]
      | succ i =>
        obtain ⟨to, t1, t2, t3, t4⟩ := h4 i (by simpa using hi)
        rw [show k + 1 + i = k + (i + 1) by omega] at t1
        exact ⟨to, t1, by omega, t3, t4⟩

theorem vec_ok (ps : List PartQ) (hn : ps.length < 100000) (hok : ∀ p ∈ ps, PartOk p.P p.sz p.Q) : PartOk (vecB (ps.map PartQ.P)) (8 + 4 * ps.length + szParts ps) (VecQ ps) := by
  intro l hl
  obtain ⟨h1, h2, h3⟩ := padTo_spec 4 0 (by decide) l
  unfold vecB
  simp only [List.length_map]
  generalize padTo 4 0 l = l1 at *
  have hlen : (l1 ++ leB ps.length 4 ++ List.replicate (4 * ps.length) 0).length = l1.length + 4 + 4 * ps.length := by simp [leB_length]; omega
  have hg : ∀ i, i < l1.length + 4 → gB (l1 ++ leB ps.length 4 ++ List.replicate (4 * ps.length) 0) i = gB (l1 ++ leB ps.length 4) i := fun i hi => by
    rw [gB_append, if_pos (by simp [leB_length]; omega)]
  generalize l1 ++ leB ps.length 4 ++ List.replicate (4 * ps.length) 0 = l2 at *
  obtain ⟨r1, r2, r3, r4⟩ := putVec_spec l1.length (l1.length + 4 + 4 * ps.length) ps 0 l2 hok (by omega) (by omega) (by omega)
  generalize putVec l1.length (ps.map PartQ.P) 0 l2 = F at *
  refine ⟨by omega, by omega, fun i hi => ?_, h1, by omega, fun l' hag hle => ⟨?_, by omega, fun i hi => ?_⟩⟩
  · rw [r3 i (by omega) (Or.inl (by omega)), hg i (by omega), gB_append, if_pos (by omega), h3 i hi]
  · rw [rd_le 4 ps.length l' l1.length fun i hi => by
      rw [hag _ (by omega) (by omega), r3 _ (by omega) (Or.inl (by omega)), hg _ (by omega), gB_append, if_neg (by omega)]
      congr 1
      omega]
    exact Nat.mod_eq_of_lt (by omega)
  · obtain ⟨to, t1, t2, t3, t4⟩ := r4 i hi
    rw [Nat.zero_add] at t1
    refine ⟨to, ?_, by omega, by omega, t4 l' (fun i hi1 hi2 => hag i (by omega) hi2) hle⟩
    rw [rd_le 4 (to - (l1.length + 4 + 4 * i)) l' _ fun j hj => by rw [hag _ (by omega) (by omega), t1 j hj]]
    exact Nat.mod_eq_of_lt (by omega)

/-- The whole: the root's place stands in the first four bytes, zeros behind. -/
def wholeB (P : List UInt8 → List UInt8 × Nat) : List UInt8 :=
  padTo 8 0 (patch (P (List.replicate 4 0)).1 0 (leB (P (List.replicate 4 0)).2 4))

theorem whole_ok (P : List UInt8 → List UInt8 × Nat) (sz : Nat) (Q : List UInt8 → Nat → Prop) (h : PartOk P sz Q) (hsz : sz ≤ 2000000000) :
    (wholeB P).length ≤ sz + 12 ∧ ∃ at_, rd (wholeB P) 0 4 = at_ ∧ 4 ≤ at_ ∧ at_ + 4 ≤ (wholeB P).length ∧ Q (wholeB P) at_ := by
  obtain ⟨h1, h2, h3, h4, h5, h6⟩ := h (List.replicate 4 0) (by simp; omega)
  simp only [List.length_replicate] at h1 h2 h3 h4
  have hp : 0 + (leB (P (List.replicate 4 0)).2 4).length ≤ (P (List.replicate 4 0)).1.length := by rw [leB_length]; omega
  have hl := patch_length _ _ _ hp
  obtain ⟨q1, q2, q3⟩ := padTo_spec 8 0 (by decide) (patch (P (List.replicate 4 0)).1 0 (leB (P (List.replicate 4 0)).2 4))
  unfold wholeB
  refine ⟨by omega, (P (List.replicate 4 0)).2, ?_, h4, by omega, h6 _ (fun i hi1 hi2 => ?_) (by omega)⟩
  · rw [rd_le 4 (P (List.replicate 4 0)).2 _ 0 fun i hi => by rw [q3 _ (by omega), gB_patch_in _ _ _ hp i (by rw [leB_length]; omega)]]
    exact Nat.mod_eq_of_lt (by omega)
  · simp only [List.length_replicate] at hi1
    rw [q3 _ (by omega), gB_patch_out _ _ _ hp i (by rw [leB_length]; omega)]

/-- What a table's row of places says of a field: 0: it is not there. -/
def fieldOff (l : List UInt8) (at_ i : Nat) : Nat := if 4 + 2 * i < rd l (at_ - rd l at_ 4) 2 then rd l (at_ - rd l at_ 4 + (4 + 2 * i)) 2 else 0

theorem TabQ.field {size : Nat} {places : List Nat} {fs : List SlotQ} {l : List UInt8} {at_ : Nat} (h : TabQ size places fs l at_) (i : Nat) : fieldOff l at_ i = places.getD i 0 := by
  obtain ⟨h0, h1, h2, h3, _⟩ := h
  unfold fieldOff
  rw [h1, h2]
  by_cases hi : i < places.length
  · rw [if_pos (by omega), ← Nat.add_assoc, h3 i hi]
  · rw [if_neg (by omega)]
    simp [List.getD, List.getElem?_eq_none (show places.length ≤ i by omega)]

theorem most_snoc (l : List SlotP) (s : SlotP) : most1 (l ++ [s]) = max (most1 l) (s.idx + 1) := by
  unfold most1
  rw [List.foldl_append]
  rfl

theorem take_snoc {α : Type} (l : List α) (k : Nat) (h : k < l.length) : l.take (k + 1) = l.take k ++ [l[k]] := List.take_succ_eq_append_getElem h

theorem most_take (l : List SlotP) (k : Nat) (h : k < l.length) : most1 (l.take (k + 1)) = max (most1 (l.take k)) (l[k].idx + 1) := by
  rw [take_snoc l k h, most_snoc]

theorem most_foldl (l : List SlotP) : ∀ m, m ≤ l.foldl (fun m s => max m (s.idx + 1)) m ∧ ∀ s ∈ l, s.idx + 1 ≤ l.foldl (fun m s => max m (s.idx + 1)) m := by
  induction l with
  | nil => intro m; exact ⟨Nat.le_refl _, fun s hs => by cases hs⟩
  | cons x l ih =>
    intro m
    rw [List.foldl_cons]
    obtain ⟨h1, h2⟩ := ih (max m (x.idx + 1))
    refine ⟨by omega, fun s hs => ?_⟩
    rcases List.mem_cons.1 hs with rfl | hs
    · omega
    · exact h2 s hs

theorem idx_most (l : List SlotP) (s : SlotP) (h : s ∈ l) : s.idx < most1 l := (most_foldl l 0).2 s h

theorem most_le (l : List SlotP) (n : Nat) (h : ∀ s ∈ l, s.idx < n) : most1 l ≤ n := by
  unfold most1
  have : ∀ (l : List SlotP) m, m ≤ n → (∀ s ∈ l, s.idx < n) → l.foldl (fun m s => max m (s.idx + 1)) m ≤ n := by
    intro l
    induction l with
    | nil => intro m hm _; exact hm
    | cons x l ih =>
      intro m hm hl
      rw [List.foldl_cons]
      exact ih _ (by have := hl x (by simp); omega) fun s hs => hl s (by simp [hs])
  exact this l 0 (Nat.zero_le _) h

/-- The places and the size behind so many widths. -/
def layAt (l : List SlotP) (j : Nat) : List Nat × Nat := ([8, 4, 2, 1].take j).foldl (fun acc width => l.foldl (placeOne width) acc) (List.replicate (most1 l) 0, 4)
/-- .. and so many slots of the next. -/
def layIn (l : List SlotP) (width j k : Nat) : List Nat × Nat := (l.take k).foldl (placeOne width) (layAt l j)

theorem layAt_four (l : List SlotP) : layAt l 4 = layout l := rfl
theorem layIn_zero (l : List SlotP) (width j : Nat) : layIn l width j 0 = layAt l j := rfl
theorem layIn_succ (l : List SlotP) (width j k : Nat) (h : k < l.length) : layIn l width j (k + 1) = placeOne width (layIn l width j k) l[k] := by
  unfold layIn
  rw [take_snoc l k h, List.foldl_append]
  rfl
theorem layAt_succ (l : List SlotP) (j : Nat) (h : j < 4) : layAt l (j + 1) = layIn l ([8, 4, 2, 1][j]'h) j l.length := by
  unfold layIn
  rw [List.take_length]
  unfold layAt
  rw [take_snoc [8, 4, 2, 1] j h, List.foldl_append]
  rfl

/-- What holds all along: so many places, none behind the size, the size no more than so much. -/
structure LayOk (n b : Nat) (acc : List Nat × Nat) : Prop where
  len : acc.1.length = n
  le : ∀ p ∈ acc.1, p ≤ acc.2
  big : acc.2 ≤ b

theorem alignUp_le (w s : Nat) (hw : 0 < w) : s ≤ alignUp w s ∧ alignUp w s < s + w := by
  unfold alignUp
  have := Nat.mod_lt (w - s % w) hw
  omega

theorem placeOne_ok {n b : Nat} {acc : List Nat × Nat} (h : LayOk n b acc) (width : Nat) (hw : 0 < width) (hw8 : width ≤ 8) (s : SlotP) : LayOk n (b + 16) (placeOne width acc s) := by
  unfold placeOne
  split
  · have h1 := alignUp_le width acc.2 hw
    have h2 := h.big
    refine ⟨by simp [h.len], fun p hp => ?_, by simp only; omega⟩
    simp only at hp ⊢
    rcases List.mem_or_eq_of_mem_set hp with hp | rfl
    · have := h.le p hp; omega
    · omega
  · exact ⟨h.len, h.le, Nat.le_trans h.big (Nat.le_add_right _ _)⟩

theorem fold_ok (width : Nat) (hw : 0 < width) (hw8 : width ≤ 8) : ∀ (l : List SlotP) {n b : Nat} {acc : List Nat × Nat}, LayOk n b acc → LayOk n (b + 16 * l.length) (l.foldl (placeOne width) acc)
  | [], _, _, _, h => h
  | s :: l, n, b, acc, h => by
    have := fold_ok width hw hw8 l (placeOne_ok h width hw hw8 s)
    rw [List.foldl_cons]
    rw [show b + 16 * (s :: l).length = b + 16 + 16 * l.length by rw [List.length_cons]; omega]
    exact this

theorem lay_start (l : List SlotP) : LayOk (most1 l) 4 (List.replicate (most1 l) 0, 4) :=
  ⟨List.length_replicate, fun p hp => by rw [(List.mem_replicate.1 hp).2]; exact Nat.zero_le _, Nat.le_refl _⟩

theorem width_ok : ∀ j (h : j < 4), 0 < [8, 4, 2, 1][j]'h ∧ [8, 4, 2, 1][j]'h ≤ 8 := by decide

theorem layAt_ok (l : List SlotP) : ∀ j, j ≤ 4 → LayOk (most1 l) (4 + 16 * l.length * j) (layAt l j)
  | 0, _ => lay_start l
  | j + 1, h => by
    have h1 := layAt_ok l j (by omega)
    rw [layAt_succ l j (by omega)]
    unfold layIn
    rw [List.take_length]
    have h2 := fold_ok ([8, 4, 2, 1][j]'(by simp; omega)) (width_ok j (by omega)).1 (width_ok j (by omega)).2 l h1
    rw [show 4 + 16 * l.length * (j + 1) = 4 + 16 * l.length * j + 16 * l.length by rw [Nat.mul_succ]; omega]
    exact h2

theorem layIn_ok (l : List SlotP) (width j k : Nat) (hj : j ≤ 4) (hw : 0 < width) (hw8 : width ≤ 8) (hk : k ≤ l.length) : LayOk (most1 l) (4 + 80 * l.length) (layIn l width j k) := by
  have h1 := layAt_ok l j hj
  have h2 := fold_ok width hw hw8 (l.take k) h1
  refine ⟨h2.len, h2.le, Nat.le_trans h2.big ?_⟩
  have : (l.take k).length = k := by simp; omega
  rw [this]
  have : 16 * l.length * j ≤ 16 * l.length * 4 := Nat.mul_le_mul_left _ hj
  omega

theorem putNums_append (at_ : Nat) (places : List Nat) : ∀ (a b : List SlotP) (l : List UInt8), putNums at_ places (a ++ b) l = putNums at_ places b (putNums at_ places a l)
  | [], _, _ => rfl
  | s :: a, b, l => by
    rw [List.cons_append, putNums, putNums_append at_ places a b, putNums]

theorem putRefs_append (at_ : Nat) (places : List Nat) : ∀ (a b : List SlotP) (l : List UInt8), putRefs at_ places (a ++ b) l = putRefs at_ places b (putRefs at_ places a l)
  | [], _, _ => rfl
  | s :: a, b, l => by
    rw [List.cons_append, putRefs, putRefs_append at_ places a b, putRefs]

theorem putNums_take (at_ : Nat) (places : List Nat) (l : List SlotP) (k : Nat) (h : k < l.length) (L : List UInt8) : putNums at_ places (l.take (k + 1)) L = (match l[k].ref with | none => patch (putNums at_ places (l.take k) L) (at_ + places.getD l[k].idx 0) (leB l[k].num l[k].width) | some _ => putNums at_ places (l.take k) L) := by
  rw [take_snoc l k h, putNums_append]
  rfl

theorem putRefs_take (at_ : Nat) (places : List Nat) (l : List SlotP) (k : Nat) (h : k < l.length) (L : List UInt8) : putRefs at_ places (l.take (k + 1)) L = (match l[k].ref with | none => putRefs at_ places (l.take k) L | some P => patch (P (putRefs at_ places (l.take k) L)).1 (at_ + places.getD l[k].idx 0) (leB ((P (putRefs at_ places (l.take k) L)).2 - (at_ + places.getD l[k].idx 0)) 4)) := by
  rw [take_snoc l k h, putRefs_append]
  rfl

theorem szSum_append : ∀ (a b : List SlotQ), szSum (a ++ b) = szSum a + szSum b
  | [], b => by simp [szSum]
  | f :: a, b => by
    rw [List.cons_append, szSum, szSum, szSum_append a b]
    omega

theorem szSum_take (fs : List SlotQ) (k : Nat) (h : k < fs.length) : szSum (fs.take k) + (match fs[k].s.ref with | none => 0 | some _ => fs[k].sz) ≤ szSum fs := by
  have h1 : szSum fs = szSum (fs.take k) + szSum (fs.drop k) := by rw [← szSum_append, List.take_append_drop]
  rw [List.drop_eq_getElem_cons h, szSum] at h1
  rw [h1]
  exact Nat.add_le_add_left (Nat.le_add_right _ _) _

theorem szSum_take_le (fs : List SlotQ) (k : Nat) : szSum (fs.take k) ≤ szSum fs := by
  have h1 : szSum fs = szSum (fs.take k) + szSum (fs.drop k) := by rw [← szSum_append, List.take_append_drop]
  omega

end Go.Proofs.YtgceklahjdbipaaGreatDoor
