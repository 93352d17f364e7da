/- The package's nodes in memory. -/
import Derived.Test.YtkohgndmhgcgeaaGreatDoorAstT
import Derived.Deep.AppendLies
namespace Go.Proofs.YtkohgndmhgcgeaaGreatDoor
open Go Go.RowKit
set_option linter.unusedVariables false
set_option linter.unusedSimpArgs false

/-- The pointers to the package's nodes of each kind. -/
def astP (k : Int) : TypeId := if k = 2 then 84 else if k = 3 then 35 else if k = 4 then 49 else if k = 5 then 91 else if k = 6 then 101 else if k = 7 then 104 else if k = 8 then 107 else if k = 9 then 111 else if k = 10 then 62 else if k = 11 then 114 else if k = 12 then 56 else if k = 14 then 130 else if k = 15 then 134 else if k = 16 then 138 else if k = 17 then 115 else if k = 18 then 149 else if k = 19 then 152 else if k = 20 then 156 else if k = 21 then 162 else if k = 22 then 167 else if k = 23 then 170 else if k = 24 then 175 else if k = 25 then 178 else if k = 26 then 181 else if k = 27 then 184 else if k = 28 then 191 else if k = 29 then 159 else if k = 30 then 196 else if k = 31 then 203 else if k = 32 then 206 else if k = 33 then 66 else if k = 34 then 97 else if k = 35 then 209 else if k = 36 then 212 else if k = 37 then 215 else if k = 38 then 218 else if k = 39 then 223 else if k = 41 then 228 else if k = 42 then 234 else if k = 43 then 239 else 0

abbrev pp (r : Nat) : Value := .pointer (some ⟨r, 0, none⟩)
abbrev kv (k : Int) (r : Nat) : Value := .iface (astP k) (pp r)
abbrev op (k : Int) (r : Nat) : Value := .pointer (if k = 0 then none else some ⟨r, 0, none⟩)
def ov (k : Int) (r : Nat) : Value := if k = 0 then .nilIface else kv k r
abbrev nilS : Value := .slice none 0 0

/-- Values in a row of their own, in certain blocks. -/
def RowB (w : World) (B : Nat → Prop) (T : TypeId) (xs : List Value) (v : Value) : Prop := ∃ lo, w.ownsRow lo T 1 v xs.length xs ∧ ∀ r, v.ownBlock = some r → B r

theorem RowB.keep {w w' : World} {B : Nat → Prop} {T : TypeId} {xs : List Value} {v : Value} (hw : Keep B w w') (h : RowB w B T xs v) : RowB w' B T xs v := by
  obtain ⟨lo, h1, h2⟩ := h
  refine ⟨lo, ⟨h1.1, h1.2.imp id fun ⟨g, cap, cur, e1, e2, e3, e4⟩ => ⟨g, cap, cur, e1, e2, (hw g (h2 g (by rw [e1]; rfl))).trans e3, e4⟩⟩, h2⟩
theorem RowB.mono {w : World} {B B' : Nat → Prop} {T : TypeId} {xs : List Value} {v : Value} (hB : ∀ b, B b → B' b) (h : RowB w B T xs v) : RowB w B' T xs v := by
  obtain ⟨lo, h1, h2⟩ := h
  exact ⟨lo, h1, fun r hr => hB r (h2 r hr)⟩

/-- A duration's magnitudes, as they stand in a row. -/
def durL (l : List (Int × ByteArray)) : List Value := l.flatMap fun p => [.int .i64 (wrap64 p.1), .string p.2]

def RowD (w : World) (B : Nat → Prop) (xs : List Value) (n : Nat) (v : Value) : Prop := ∃ lo, w.ownsRow lo 260 2 v n xs ∧ ∀ r, v.ownBlock = some r → B r
theorem RowD.keep {w w' : World} {B : Nat → Prop} {n : Nat} {xs : List Value} {v : Value} (hw : Keep B w w') (h : RowD w B xs n v) : RowD w' B xs n v := by
  obtain ⟨lo, h1, h2⟩ := h
  refine ⟨lo, ⟨h1.1, h1.2.imp id fun ⟨g, cap, cur, e1, e2, e3, e4⟩ => ⟨g, cap, cur, e1, e2, (hw g (h2 g (by rw [e1]; rfl))).trans e3, e4⟩⟩, h2⟩
theorem RowD.mono {w : World} {B B' : Nat → Prop} {n : Nat} {xs : List Value} {v : Value} (hB : ∀ b, B b → B' b) (h : RowD w B xs n v) : RowD w B' xs n v := by
  obtain ⟨lo, h1, h2⟩ := h
  exact ⟨lo, h1, fun r hr => hB r (h2 r hr)⟩

/-- A moment's seconds and nanoseconds. -/
def secOf (n : Int) : Int := let z := wrap64 n; z / 1000000000
def nsecOf (n : Int) : Int := let z := wrap64 n; z % 1000000000
/-- The numbers of operators. -/
def idxIn (t : ByteArray) : List ByteArray → Nat
  | [] => 0
  | x :: l => if x = t then 0 else idxIn t l + 1
def opOf (t : ByteArray) : Int := (idxIn t operatorTexts : Int) + 1
def logOf (t : ByteArray) : Int := if t = ⟨#[97, 110, 100]⟩ then 1 else 2

/-- A dictionary's items: pairs of pointers' values, each in a block of its own. -/
def itemCells (w : World) (B : Nat → Prop) (k1 k2 : Int) (r1 r2 r : Nat) : Prop := B r ∧ w.heap[r]? = some (.cells #[kv k1 r1, kv k2 r2, nilS] 190 (0, 0))

/-- A node of the package's for a tree. -/
inductive AIn (w : World) (B : Nat → Prop) : Tr → Nat → Prop
  | k2 (t : ByteArray) (m : ByteArray) (l : List Tr) (s : List Nat) (el : s.length = l.length) (vl : Value) (wl : RowB w B 35 (List.zipWith (fun (x : Tr) r => pp r) l s) vl) (hl : ∀ i (h : i < l.length) (h2 : i < s.length), AIn w B l[i] s[i]) (r : Nat) (hr : B r) (row : w.heap[r]? = some (.cells #[.pointer none, nilS, nilS, .string m, .string t, vl] 88 (0, 0))) : AIn w B (.mk 2 t m 0 (l)) r
  | k3 (t : ByteArray) (m : ByteArray) (a0 : Tr) (r0 : Nat) (h0 : a0.kind ≠ 0 → AIn w B a0 r0) (l1 : List Tr) (s1 : List Nat) (e1 : s1.length = l1.length) (v1 : Value) (w1 : RowB w B 91 (List.zipWith (fun (x : Tr) r => pp r) l1 s1) v1) (h1 : ∀ i (h : i < l1.length) (h2 : i < s1.length), AIn w B l1[i] s1[i]) (l2 : List Tr) (s2 : List Nat) (e2 : s2.length = l2.length) (v2 : Value) (w2 : RowB w B 55 (List.zipWith (fun (x : Tr) r => kv x.kind r) l2 s2) v2) (h2 : ∀ i (h : i < l2.length) (h2 : i < s2.length), AIn w B l2[i] s2[i]) (r : Nat) (hr : B r) (row : w.heap[r]? = some (.cells #[.pointer none, nilS, nilS, .string t, .string m, op a0.kind r0, v1, v2, nilS] 53 (0, 0))) : AIn w B (.mk 3 t m 0 [a0, .mk 1 ⟨#[]⟩ ⟨#[]⟩ 0 l1, .mk 1 ⟨#[]⟩ ⟨#[]⟩ 0 l2]) r
  | k4 (a0 : Tr) (r0 : Nat) (h0 : AIn w B a0 r0) (r : Nat) (hr : B r) (row : w.heap[r]? = some (.cells #[.pointer none, nilS, nilS, pp r0] 96 (0, 0))) : AIn w B (.mk 4 ⟨#[]⟩ ⟨#[]⟩ 0 [a0]) r
  | k5 (a0 : Tr) (r0 : Nat) (h0 : a0.kind ≠ 0 → AIn w B a0 r0) (a1 : Tr) (r1 : Nat) (h1 : AIn w B a1 r1) (r : Nat) (hr : B r) (row : w.heap[r]? = some (.cells #[.pointer none, nilS, nilS, op a0.kind r0, pp r1] 100 (0, 0))) : AIn w B (.mk 5 ⟨#[]⟩ ⟨#[]⟩ 0 [a0, a1]) r
  | k6 (l : List Tr) (s : List Nat) (el : s.length = l.length) (vl : Value) (wl : RowB w B 55 (List.zipWith (fun (x : Tr) r => kv x.kind r) l s) vl) (hl : ∀ i (h : i < l.length) (h2 : i < s.length), AIn w B l[i] s[i]) (r : Nat) (hr : B r) (row : w.heap[r]? = some (.cells #[.pointer none, nilS, nilS, nilS, vl, nilS] 103 (0, 0))) : AIn w B (.mk 6 ⟨#[]⟩ ⟨#[]⟩ 0 (l)) r
  | k7 (t : ByteArray) (r : Nat) (hr : B r) (row : w.heap[r]? = some (.cells #[.pointer none, nilS, nilS, .string t] 106 (0, 0))) : AIn w B (.mk 7 t ⟨#[]⟩ 0 []) r
  | k8 (a0 : Tr) (r0 : Nat) (h0 : AIn w B a0 r0) (r : Nat) (hr : B r) (row : w.heap[r]? = some (.cells #[.pointer none, nilS, nilS, kv a0.kind r0] 110 (0, 0))) : AIn w B (.mk 8 ⟨#[]⟩ ⟨#[]⟩ 0 [a0]) r
  | k9 (a0 : Tr) (r0 : Nat) (h0 : AIn w B a0 r0) (r : Nat) (hr : B r) (row : w.heap[r]? = some (.cells #[.pointer none, nilS, nilS, kv a0.kind r0] 113 (0, 0))) : AIn w B (.mk 9 ⟨#[]⟩ ⟨#[]⟩ 0 [a0]) r
  | k10 (a0 : Tr) (r0 : Nat) (h0 : AIn w B a0 r0) (a1 : Tr) (r1 : Nat) (h1 : AIn w B a1 r1) (r : Nat) (hr : B r) (row : w.heap[r]? = some (.cells #[.pointer none, nilS, nilS, pp r0, kv a1.kind r1] 70 (0, 0))) : AIn w B (.mk 10 ⟨#[]⟩ ⟨#[]⟩ 0 [a0, a1]) r
  | k11 (a0 : Tr) (r0 : Nat) (h0 : AIn w B a0 r0) (a1 : Tr) (r1 : Nat) (h1 : AIn w B a1 r1) (r : Nat) (hr : B r) (row : w.heap[r]? = some (.cells #[.pointer none, nilS, nilS, pp r0, kv a1.kind r1] 118 (0, 0))) : AIn w B (.mk 11 ⟨#[]⟩ ⟨#[]⟩ 0 [a0, a1]) r
  | k12 (a0 : Tr) (r0 : Nat) (h0 : AIn w B a0 r0) (r : Nat) (hr : B r) (row : w.heap[r]? = some (.cells #[.pointer none, nilS, nilS, kv a0.kind r0] 61 (0, 0))) : AIn w B (.mk 12 ⟨#[]⟩ ⟨#[]⟩ 0 [a0]) r
  | k14 (a0 : Tr) (r0 : Nat) (h0 : AIn w B a0 r0) (r : Nat) (hr : B r) (row : w.heap[r]? = some (.cells #[.pointer none, nilS, nilS, pp r0] 133 (0, 0))) : AIn w B (.mk 14 ⟨#[]⟩ ⟨#[]⟩ 0 [a0]) r
  | k15 (a0 : Tr) (r0 : Nat) (h0 : AIn w B a0 r0) (a1 : Tr) (r1 : Nat) (h1 : a1.kind ≠ 0 → AIn w B a1 r1) (a2 : Tr) (r2 : Nat) (h2 : AIn w B a2 r2) (r : Nat) (hr : B r) (row : w.heap[r]? = some (.cells #[.pointer none, nilS, nilS, pp r0, op a1.kind r1, pp r2] 137 (0, 0))) : AIn w B (.mk 15 ⟨#[]⟩ ⟨#[]⟩ 0 [a0, a1, a2]) r
  | k16 (a0 : Tr) (r0 : Nat) (h0 : AIn w B a0 r0) (l : List Tr) (s : List Nat) (el : s.length = l.length) (vl : Value) (wl : RowB w B 68 (List.zipWith (fun (x : Tr) r => kv x.kind r) l s) vl) (hl : ∀ i (h : i < l.length) (h2 : i < s.length), AIn w B l[i] s[i]) (r : Nat) (hr : B r) (row : w.heap[r]? = some (.cells #[.pointer none, nilS, nilS, kv a0.kind r0, nilS, vl, nilS] 143 (0, 0))) : AIn w B (.mk 16 ⟨#[]⟩ ⟨#[]⟩ 0 (a0 :: l)) r
  | k17 (a0 : Tr) (r0 : Nat) (h0 : AIn w B a0 r0) (a1 : Tr) (r1 : Nat) (h1 : AIn w B a1 r1) (r : Nat) (hr : B r) (row : w.heap[r]? = some (.cells #[.pointer none, nilS, nilS, kv a0.kind r0, nilS, kv a1.kind r1, nilS] 148 (0, 0))) : AIn w B (.mk 17 ⟨#[]⟩ ⟨#[]⟩ 0 [a0, a1]) r
  | k18 (a0 : Tr) (r0 : Nat) (h0 : AIn w B a0 r0) (a1 : Tr) (r1 : Nat) (h1 : AIn w B a1 r1) (r : Nat) (hr : B r) (row : w.heap[r]? = some (.cells #[.pointer none, nilS, nilS, kv a0.kind r0, nilS, kv a1.kind r1, nilS] 151 (0, 0))) : AIn w B (.mk 18 ⟨#[]⟩ ⟨#[]⟩ 0 [a0, a1]) r
  | k19 (a0 : Tr) (r0 : Nat) (h0 : AIn w B a0 r0) (a1 : Tr) (r1 : Nat) (h1 : AIn w B a1 r1) (r : Nat) (hr : B r) (row : w.heap[r]? = some (.cells #[.pointer none, nilS, nilS, kv a0.kind r0, pp r1] 154 (0, 0))) : AIn w B (.mk 19 ⟨#[]⟩ ⟨#[]⟩ 0 [a0, a1]) r
  | k20 (l0 : List Tr) (s0 : List Nat) (e0 : s0.length = l0.length) (v0 : Value) (w0 : RowB w B 159 (List.zipWith (fun (x : Tr) r => pp r) l0 s0) v0) (h0 : ∀ i (h : i < l0.length) (h2 : i < s0.length), AIn w B l0[i] s0[i]) (a1 : Tr) (r1 : Nat) (h1 : AIn w B a1 r1) (r : Nat) (hr : B r) (row : w.heap[r]? = some (.cells #[.pointer none, nilS, nilS, nilS, v0, nilS, nilS, kv a1.kind r1] 161 (0, 0))) : AIn w B (.mk 20 ⟨#[]⟩ ⟨#[]⟩ 0 [.mk 1 ⟨#[]⟩ ⟨#[]⟩ 0 l0, a1]) r
  | k21 (t : ByteArray) (a0 : Tr) (r0 : Nat) (h0 : AIn w B a0 r0) (a1 : Tr) (r1 : Nat) (h1 : AIn w B a1 r1) (r : Nat) (hr : B r) (row : w.heap[r]? = some (.cells #[.pointer none, nilS, nilS, .int .i64 (opOf t), kv a0.kind r0, kv a1.kind r1] 166 (0, 0))) : AIn w B (.mk 21 t ⟨#[]⟩ 0 [a0, a1]) r
  | k22 (t : ByteArray) (a0 : Tr) (r0 : Nat) (h0 : AIn w B a0 r0) (r : Nat) (hr : B r) (row : w.heap[r]? = some (.cells #[.pointer none, nilS, nilS, .int .i64 (opOf t), kv a0.kind r0] 169 (0, 0))) : AIn w B (.mk 22 t ⟨#[]⟩ 0 [a0]) r
  | k23 (t : ByteArray) (a0 : Tr) (r0 : Nat) (h0 : AIn w B a0 r0) (a1 : Tr) (r1 : Nat) (h1 : AIn w B a1 r1) (r : Nat) (hr : B r) (row : w.heap[r]? = some (.cells #[.pointer none, nilS, nilS, .int .i64 (logOf t), kv a0.kind r0, kv a1.kind r1] 174 (0, 0))) : AIn w B (.mk 23 t ⟨#[]⟩ 0 [a0, a1]) r
  | k24 (a0 : Tr) (r0 : Nat) (h0 : AIn w B a0 r0) (a1 : Tr) (r1 : Nat) (h1 : AIn w B a1 r1) (a2 : Tr) (r2 : Nat) (h2 : AIn w B a2 r2) (r : Nat) (hr : B r) (row : w.heap[r]? = some (.cells #[.pointer none, nilS, nilS, nilS, kv a0.kind r0, nilS, kv a1.kind r1, nilS, kv a2.kind r2] 177 (0, 0))) : AIn w B (.mk 24 ⟨#[]⟩ ⟨#[]⟩ 0 [a0, a1, a2]) r
  | k25 (a0 : Tr) (r0 : Nat) (h0 : AIn w B a0 r0) (r : Nat) (hr : B r) (row : w.heap[r]? = some (.cells #[.pointer none, nilS, nilS, nilS, kv a0.kind r0, nilS] 180 (0, 0))) : AIn w B (.mk 25 ⟨#[]⟩ ⟨#[]⟩ 0 [a0]) r
  | k26 (l : List Tr) (s : List Nat) (el : s.length = l.length) (vl : Value) (wl : RowB w B 68 (List.zipWith (fun (x : Tr) r => kv x.kind r) l s) vl) (hl : ∀ i (h : i < l.length) (h2 : i < s.length), AIn w B l[i] s[i]) (r : Nat) (hr : B r) (row : w.heap[r]? = some (.cells #[.pointer none, nilS, nilS, nilS, vl, nilS] 183 (0, 0))) : AIn w B (.mk 26 ⟨#[]⟩ ⟨#[]⟩ 0 (l)) r
  | k27 (l : List Tr) (s : List Nat) (el : s.length = l.length) (q : List Nat) (eq : 2 * q.length = l.length) (vl : Value) (wl : RowB w B 188 (q.map pp) vl) (hi : ∀ i (h : i < q.length) (h1 : 2 * i + 1 < l.length) (h2 : 2 * i + 1 < s.length), itemCells w B l[2 * i].kind l[2 * i + 1].kind s[2 * i] s[2 * i + 1] q[i]) (hl : ∀ i (h : i < l.length) (h2 : i < s.length), AIn w B l[i] s[i]) (r : Nat) (hr : B r) (row : w.heap[r]? = some (.cells #[.pointer none, nilS, nilS, nilS, vl, nilS] 187 (0, 0))) : AIn w B (.mk 27 ⟨#[]⟩ ⟨#[]⟩ 0 (l)) r
  | k28 (a0 : Tr) (r0 : Nat) (h0 : a0.kind ≠ 0 → AIn w B a0 r0) (l : List Tr) (s : List Nat) (el : s.length = l.length) (vl : Value) (wl : RowB w B 159 (List.zipWith (fun (x : Tr) r => pp r) l s) vl) (hl : ∀ i (h : i < l.length) (h2 : i < s.length), AIn w B l[i] s[i]) (r : Nat) (hr : B r) (row : w.heap[r]? = some (.cells #[.pointer none, nilS, nilS, nilS, op a0.kind r0, vl, nilS] 193 (0, 0))) : AIn w B (.mk 28 ⟨#[]⟩ ⟨#[]⟩ 0 (a0 :: l)) r
  | k29 (a0 : Tr) (r0 : Nat) (h0 : AIn w B a0 r0) (a1 : Tr) (r1 : Nat) (h1 : a1.kind ≠ 0 → AIn w B a1 r1) (r : Nat) (hr : B r) (row : w.heap[r]? = some (.cells #[.pointer none, nilS, nilS, kv a0.kind r0, nilS, ov a1.kind r1, nilS] 195 (0, 0))) : AIn w B (.mk 29 ⟨#[]⟩ ⟨#[]⟩ 0 [a0, a1]) r
  | k30 (l : List Tr) (s : List Nat) (el : s.length = l.length) (vl : Value) (wl : RowB w B 200 (List.zipWith (fun (x : Tr) r => kv x.kind r) l s) vl) (hl : ∀ i (h : i < l.length) (h2 : i < s.length), AIn w B l[i] s[i]) (r : Nat) (hr : B r) (row : w.heap[r]? = some (.cells #[.pointer none, nilS, nilS, vl] 202 (0, 0))) : AIn w B (.mk 30 ⟨#[]⟩ ⟨#[]⟩ 0 (l)) r
  | k31 (t : ByteArray) (r : Nat) (hr : B r) (row : w.heap[r]? = some (.cells #[.pointer none, nilS, nilS, .string t] 205 (0, 0))) : AIn w B (.mk 31 t ⟨#[]⟩ 0 []) r
  | k32 (a0 : Tr) (r0 : Nat) (h0 : AIn w B a0 r0) (r : Nat) (hr : B r) (row : w.heap[r]? = some (.cells #[.pointer none, nilS, nilS, kv a0.kind r0] 207 (0, 0))) : AIn w B (.mk 32 ⟨#[]⟩ ⟨#[]⟩ 0 [a0]) r
  | k33 (t : ByteArray) (r : Nat) (hr : B r) (row : w.heap[r]? = some (.cells #[.pointer none, nilS, nilS, .string t] 65 (0, 0))) : AIn w B (.mk 33 t ⟨#[]⟩ 0 []) r
  | k34 (t : ByteArray) (r : Nat) (hr : B r) (row : w.heap[r]? = some (.cells #[.pointer none, nilS, nilS, .string t] 208 (0, 0))) : AIn w B (.mk 34 t ⟨#[]⟩ 0 []) r
  | k35 (n : Int) (r : Nat) (hr : B r) (row : w.heap[r]? = some (.cells #[.pointer none, nilS, nilS, .bool (n != 0)] 211 (0, 0))) : AIn w B (.mk 35 ⟨#[]⟩ ⟨#[]⟩ n []) r
  | k36 (n : Int) (r : Nat) (hr : B r) (row : w.heap[r]? = some (.cells #[.pointer none, nilS, nilS, .int .i64 (wrap64 n)] 214 (0, 0))) : AIn w B (.mk 36 ⟨#[]⟩ ⟨#[]⟩ n []) r
  | k37 (n : Int) (r : Nat) (hr : B r) (row : w.heap[r]? = some (.cells #[.pointer none, nilS, nilS, .int .u64 n] 217 (0, 0))) : AIn w B (.mk 37 ⟨#[]⟩ ⟨#[]⟩ n []) r
  | k38 (n : Int) (r : Nat) (hr : B r) (row : w.heap[r]? = some (.cells #[.pointer none, nilS, nilS, .float .f64 n.toNat] 222 (0, 0))) : AIn w B (.mk 38 ⟨#[]⟩ ⟨#[]⟩ n []) r
  | k39 (l : List (Int × ByteArray)) (vl : Value) (wl : RowD w B (durL l) l.length vl) (r : Nat) (hr : B r) (row : w.heap[r]? = some (.cells #[.pointer none, nilS, nilS, vl] 227 (0, 0))) : AIn w B (.mk 39 ⟨#[]⟩ ⟨#[]⟩ 0 (l.map magT)) r
  | k41 (n : Int) (r : Nat) (hr : B r) (row : w.heap[r]? = some (.cells #[.pointer none, nilS, nilS, .int .i64 (secOf n), .int .i64 (nsecOf n), .int .i64 0] 233 (0, 0))) : AIn w B (.mk 41 ⟨#[]⟩ ⟨#[]⟩ n []) r
  | k42 (t : ByteArray) (rx : Nat) (hx : B rx) (wx : w.heap[rx]? = some (.cells #[.string t] 262 (0, 0))) (r : Nat) (hr : B r) (row : w.heap[r]? = some (.cells #[.pointer none, nilS, nilS, pp rx] 238 (0, 0))) : AIn w B (.mk 42 t ⟨#[]⟩ 0 []) r
  | k43 (r : Nat) (hr : B r) (row : w.heap[r]? = some (.cells #[.pointer none, nilS, nilS] 241 (0, 0))) : AIn w B (.mk 43 ⟨#[]⟩ ⟨#[]⟩ 0 []) r

theorem AIn.keep {w w' : World} {B : Nat → Prop} (hw : Keep B w w') {t : Tr} {r : Nat} (h : AIn w B t r) : AIn w' B t r := by
  induction h with
  | k2 t m l s el vl wl hl r hr row il => exact .k2 t m l s el vl (RowB.keep hw wl) il r hr ((hw _ hr).trans row)
  | k3 t m a0 r0 h0 l1 s1 e1 v1 w1 h1 l2 s2 e2 v2 w2 h2 r hr row i0 i1 i2 => exact .k3 t m a0 r0 i0 l1 s1 e1 v1 (RowB.keep hw w1) i1 l2 s2 e2 v2 (RowB.keep hw w2) i2 r hr ((hw _ hr).trans row)
  | k4 a0 r0 h0 r hr row i0 => exact .k4 a0 r0 i0 r hr ((hw _ hr).trans row)
  | k5 a0 r0 h0 a1 r1 h1 r hr row i0 i1 => exact .k5 a0 r0 i0 a1 r1 i1 r hr ((hw _ hr).trans row)
  | k6 l s el vl wl hl r hr row il => exact .k6 l s el vl (RowB.keep hw wl) il r hr ((hw _ hr).trans row)
  | k7 t r hr row => exact .k7 t r hr ((hw _ hr).trans row)
  | k8 a0 r0 h0 r hr row i0 => exact .k8 a0 r0 i0 r hr ((hw _ hr).trans row)
  | k9 a0 r0 h0 r hr row i0 => exact .k9 a0 r0 i0 r hr ((hw _ hr).trans row)
  | k10 a0 r0 h0 a1 r1 h1 r hr row i0 i1 => exact .k10 a0 r0 i0 a1 r1 i1 r hr ((hw _ hr).trans row)
  | k11 a0 r0 h0 a1 r1 h1 r hr row i0 i1 => exact .k11 a0 r0 i0 a1 r1 i1 r hr ((hw _ hr).trans row)
  | k12 a0 r0 h0 r hr row i0 => exact .k12 a0 r0 i0 r hr ((hw _ hr).trans row)
  | k14 a0 r0 h0 r hr row i0 => exact .k14 a0 r0 i0 r hr ((hw _ hr).trans row)
  | k15 a0 r0 h0 a1 r1 h1 a2 r2 h2 r hr row i0 i1 i2 => exact .k15 a0 r0 i0 a1 r1 i1 a2 r2 i2 r hr ((hw _ hr).trans row)
  | k16 a0 r0 h0 l s el vl wl hl r hr row i0 il => exact .k16 a0 r0 i0 l s el vl (RowB.keep hw wl) il r hr ((hw _ hr).trans row)
  | k17 a0 r0 h0 a1 r1 h1 r hr row i0 i1 => exact .k17 a0 r0 i0 a1 r1 i1 r hr ((hw _ hr).trans row)
  | k18 a0 r0 h0 a1 r1 h1 r hr row i0 i1 => exact .k18 a0 r0 i0 a1 r1 i1 r hr ((hw _ hr).trans row)
  | k19 a0 r0 h0 a1 r1 h1 r hr row i0 i1 => exact .k19 a0 r0 i0 a1 r1 i1 r hr ((hw _ hr).trans row)
  | k20 l0 s0 e0 v0 w0 h0 a1 r1 h1 r hr row i0 i1 => exact .k20 l0 s0 e0 v0 (RowB.keep hw w0) i0 a1 r1 i1 r hr ((hw _ hr).trans row)
  | k21 t a0 r0 h0 a1 r1 h1 r hr row i0 i1 => exact .k21 t a0 r0 i0 a1 r1 i1 r hr ((hw _ hr).trans row)
  | k22 t a0 r0 h0 r hr row i0 => exact .k22 t a0 r0 i0 r hr ((hw _ hr).trans row)
  | k23 t a0 r0 h0 a1 r1 h1 r hr row i0 i1 => exact .k23 t a0 r0 i0 a1 r1 i1 r hr ((hw _ hr).trans row)
  | k24 a0 r0 h0 a1 r1 h1 a2 r2 h2 r hr row i0 i1 i2 => exact .k24 a0 r0 i0 a1 r1 i1 a2 r2 i2 r hr ((hw _ hr).trans row)
  | k25 a0 r0 h0 r hr row i0 => exact .k25 a0 r0 i0 r hr ((hw _ hr).trans row)
  | k26 l s el vl wl hl r hr row il => exact .k26 l s el vl (RowB.keep hw wl) il r hr ((hw _ hr).trans row)
  | k27 l s el q eq vl wl hi hl r hr row il => exact .k27 l s el q eq vl (RowB.keep hw wl) (fun i h h1 h2 => ⟨(hi i h h1 h2).1, (hw _ (hi i h h1 h2).1).trans (hi i h h1 h2).2⟩) il r hr ((hw _ hr).trans row)
  | k28 a0 r0 h0 l s el vl wl hl r hr row i0 il => exact .k28 a0 r0 i0 l s el vl (RowB.keep hw wl) il r hr ((hw _ hr).trans row)
  | k29 a0 r0 h0 a1 r1 h1 r hr row i0 i1 => exact .k29 a0 r0 i0 a1 r1 i1 r hr ((hw _ hr).trans row)
  | k30 l s el vl wl hl r hr row il => exact .k30 l s el vl (RowB.keep hw wl) il r hr ((hw _ hr).trans row)
  | k31 t r hr row => exact .k31 t r hr ((hw _ hr).trans row)
  | k32 a0 r0 h0 r hr row i0 => exact .k32 a0 r0 i0 r hr ((hw _ hr).trans row)
  | k33 t r hr row => exact .k33 t r hr ((hw _ hr).trans row)
  | k34 t r hr row => exact .k34 t r hr ((hw _ hr).trans row)
  | k35 n r hr row => exact .k35 n r hr ((hw _ hr).trans row)
  | k36 n r hr row => exact .k36 n r hr ((hw _ hr).trans row)
  | k37 n r hr row => exact .k37 n r hr ((hw _ hr).trans row)
  | k38 n r hr row => exact .k38 n r hr ((hw _ hr).trans row)
  | k39 l vl wl r hr row => exact .k39 l vl (RowD.keep hw wl) r hr ((hw _ hr).trans row)
  | k41 n r hr row => exact .k41 n r hr ((hw _ hr).trans row)
  | k42 t rx hx wx r hr row => exact .k42 t rx hx ((hw _ hx).trans wx) r hr ((hw _ hr).trans row)
  | k43 r hr row => exact .k43 r hr ((hw _ hr).trans row)

theorem AIn.mono {w : World} {B B' : Nat → Prop} (hB : ∀ b, B b → B' b) {t : Tr} {r : Nat} (h : AIn w B t r) : AIn w B' t r := by
  induction h with
  | k2 t m l s el vl wl hl r hr row il => exact .k2 t m l s el vl (RowB.mono hB wl) il r (hB _ hr) row
  | k3 t m a0 r0 h0 l1 s1 e1 v1 w1 h1 l2 s2 e2 v2 w2 h2 r hr row i0 i1 i2 => exact .k3 t m a0 r0 i0 l1 s1 e1 v1 (RowB.mono hB w1) i1 l2 s2 e2 v2 (RowB.mono hB w2) i2 r (hB _ hr) row
  | k4 a0 r0 h0 r hr row i0 => exact .k4 a0 r0 i0 r (hB _ hr) row
  | k5 a0 r0 h0 a1 r1 h1 r hr row i0 i1 => exact .k5 a0 r0 i0 a1 r1 i1 r (hB _ hr) row
  | k6 l s el vl wl hl r hr row il => exact .k6 l s el vl (RowB.mono hB wl) il r (hB _ hr) row
  | k7 t r hr row => exact .k7 t r (hB _ hr) row
  | k8 a0 r0 h0 r hr row i0 => exact .k8 a0 r0 i0 r (hB _ hr) row
  | k9 a0 r0 h0 r hr row i0 => exact .k9 a0 r0 i0 r (hB _ hr) row
  | k10 a0 r0 h0 a1 r1 h1 r hr row i0 i1 => exact .k10 a0 r0 i0 a1 r1 i1 r (hB _ hr) row
  | k11 a0 r0 h0 a1 r1 h1 r hr row i0 i1 => exact .k11 a0 r0 i0 a1 r1 i1 r (hB _ hr) row
  | k12 a0 r0 h0 r hr row i0 => exact .k12 a0 r0 i0 r (hB _ hr) row
  | k14 a0 r0 h0 r hr row i0 => exact .k14 a0 r0 i0 r (hB _ hr) row
  | k15 a0 r0 h0 a1 r1 h1 a2 r2 h2 r hr row i0 i1 i2 => exact .k15 a0 r0 i0 a1 r1 i1 a2 r2 i2 r (hB _ hr) row
  | k16 a0 r0 h0 l s el vl wl hl r hr row i0 il => exact .k16 a0 r0 i0 l s el vl (RowB.mono hB wl) il r (hB _ hr) row
  | k17 a0 r0 h0 a1 r1 h1 r hr row i0 i1 => exact .k17 a0 r0 i0 a1 r1 i1 r (hB _ hr) row
  | k18 a0 r0 h0 a1 r1 h1 r hr row i0 i1 => exact .k18 a0 r0 i0 a1 r1 i1 r (hB _ hr) row
  | k19 a0 r0 h0 a1 r1 h1 r hr row i0 i1 => exact .k19 a0 r0 i0 a1 r1 i1 r (hB _ hr) row
  | k20 l0 s0 e0 v0 w0 h0 a1 r1 h1 r hr row i0 i1 => exact .k20 l0 s0 e0 v0 (RowB.mono hB w0) i0 a1 r1 i1 r (hB _ hr) row
  | k21 t a0 r0 h0 a1 r1 h1 r hr row i0 i1 => exact .k21 t a0 r0 i0 a1 r1 i1 r (hB _ hr) row
  | k22 t a0 r0 h0 r hr row i0 => exact .k22 t a0 r0 i0 r (hB _ hr) row
  | k23 t a0 r0 h0 a1 r1 h1 r hr row i0 i1 => exact .k23 t a0 r0 i0 a1 r1 i1 r (hB _ hr) row
  | k24 a0 r0 h0 a1 r1 h1 a2 r2 h2 r hr row i0 i1 i2 => exact .k24 a0 r0 i0 a1 r1 i1 a2 r2 i2 r (hB _ hr) row
  | k25 a0 r0 h0 r hr row i0 => exact .k25 a0 r0 i0 r (hB _ hr) row
  | k26 l s el vl wl hl r hr row il => exact .k26 l s el vl (RowB.mono hB wl) il r (hB _ hr) row
  | k27 l s el q eq vl wl hi hl r hr row il => exact .k27 l s el q eq vl (RowB.mono hB wl) (fun i h h1 h2 => ⟨hB _ (hi i h h1 h2).1, (hi i h h1 h2).2⟩) il r (hB _ hr) row
  | k28 a0 r0 h0 l s el vl wl hl r hr row i0 il => exact .k28 a0 r0 i0 l s el vl (RowB.mono hB wl) il r (hB _ hr) row
  | k29 a0 r0 h0 a1 r1 h1 r hr row i0 i1 => exact .k29 a0 r0 i0 a1 r1 i1 r (hB _ hr) row
  | k30 l s el vl wl hl r hr row il => exact .k30 l s el vl (RowB.mono hB wl) il r (hB _ hr) row
  | k31 t r hr row => exact .k31 t r (hB _ hr) row
  | k32 a0 r0 h0 r hr row i0 => exact .k32 a0 r0 i0 r (hB _ hr) row
  | k33 t r hr row => exact .k33 t r (hB _ hr) row
  | k34 t r hr row => exact .k34 t r (hB _ hr) row
  | k35 n r hr row => exact .k35 n r (hB _ hr) row
  | k36 n r hr row => exact .k36 n r (hB _ hr) row
  | k37 n r hr row => exact .k37 n r (hB _ hr) row
  | k38 n r hr row => exact .k38 n r (hB _ hr) row
  | k39 l vl wl r hr row => exact .k39 l vl (RowD.mono hB wl) r (hB _ hr) row
  | k41 n r hr row => exact .k41 n r (hB _ hr) row
  | k42 t rx hx wx r hr row => exact .k42 t rx (hB _ hx) wx r (hB _ hr) row
  | k43 r hr row => exact .k43 r (hB _ hr) row

end Go.Proofs.YtkohgndmhgcgeaaGreatDoor
