/- impl.nodeOf and its kin over what impl.unnode makes. -/
import Derived.Test.YtkohgndmhgcgeaaGreatDoorAIn
import Derived.Test.YtkohgndmhgcgeaaGreatDoorOwnB
namespace Go.Proofs.YtkohgndmhgcgeaaGreatDoor
open Go Go.RowKit
set_option linter.unusedVariables false
set_option linter.unusedSimpArgs false

/-- A node of the package's is made for a tree. -/
def UnP (tr : Tr) (w : World) (e : Ending) (w' : World) : Prop := ∃ r, e = .returned (kv tr.kind r) ∧ AIn w' (fun b => w.heap.size ≤ b ∧ b < w'.heap.size) tr r ∧ Below w.heap.size w w'
def PtrP (tr : Tr) (w : World) (e : Ending) (w' : World) : Prop := ∃ r, e = .returned (pp r) ∧ AIn w' (fun b => w.heap.size ≤ b ∧ b < w'.heap.size) tr r ∧ Below w.heap.size w w'
/-- .. or nil for none. -/
def OptPP (tr : Tr) (w : World) (e : Ending) (w' : World) : Prop := ∃ r, e = .returned (op tr.kind r) ∧ (tr.kind ≠ 0 → AIn w' (fun b => w.heap.size ≤ b ∧ b < w'.heap.size) tr r) ∧ Below w.heap.size w w'
def OptIP (tr : Tr) (w : World) (e : Ending) (w' : World) : Prop := ∃ r, e = .returned (ov tr.kind r) ∧ (tr.kind ≠ 0 → AIn w' (fun b => w.heap.size ≤ b ∧ b < w'.heap.size) tr r) ∧ Below w.heap.size w w'

/-- impl.unnode makes a tree's node, wherever the tree lies. -/
def UnH (N : Nat) (tr : Tr) : Prop := ∀ v w, NodeIn w (· < N) tr v → N ≤ w.heap.size → Calls Tryz.prog 23 #[v] w (UnP tr w)

theorem AIn.up {w1 w2 : World} {lo lo1 : Nat} {t : Tr} {r : Nat} (h : AIn w1 (fun b => lo1 ≤ b ∧ b < w1.heap.size) t r) (hb : Below w1.heap.size w1 w2) (hl : lo ≤ lo1) : AIn w2 (fun b => lo ≤ b ∧ b < w2.heap.size) t r :=
  AIn.mono (B := fun b => lo1 ≤ b ∧ b < w1.heap.size) (fun b h => ⟨by omega, Nat.lt_of_lt_of_le h.2 hb.size⟩) (AIn.keep (w := w1) (fun b h => hb.block b h.2) h)

theorem run_assert_ifc {P : Program} (t xT E : TypeId) (v : Value) {want : Array _} (hu : P.underlying E = some (.interface want)) (hm : (P.info? t).map (fun i => Instr.missingMethod want i.methods) = some none) (W : World) :
    (Instr.typeAssert (.iface t v) xT E true).run P W = .ok (.tuple #[.iface t v, .bool true]) W := by
  obtain ⟨j, hj, hz⟩ := Option.map_eq_some_iff.1 hm
  simp [Instr.typeAssert, run_underlying hu, hj, hz, typeInfo]


theorem assert_Expression (k : Int) (hk : exprB k) (r : Nat) (W : World) : (Instr.typeAssert (kv k r) 73 68 true).run Tryz.prog W = .ok (.tuple #[kv k r, .bool true]) W := by
  have hc : k = 16 ∨ k = 17 ∨ k = 18 ∨ k = 19 ∨ k = 20 ∨ k = 21 ∨ k = 22 ∨ k = 23 ∨ k = 24 ∨ k = 25 ∨ k = 26 ∨ k = 27 ∨ k = 28 ∨ k = 30 ∨ k = 33 ∨ k = 34 ∨ k = 35 ∨ k = 36 ∨ k = 37 ∨ k = 38 ∨ k = 39 ∨ k = 41 ∨ k = 42 ∨ k = 43 := by unfold exprB at hk; omega
  rcases hc with rfl | rfl | rfl | rfl | rfl | rfl | rfl | rfl | rfl | rfl | rfl | rfl | rfl | rfl | rfl | rfl | rfl | rfl | rfl | rfl | rfl | rfl | rfl | rfl
  · exact run_assert_ifc 138 _ _ _ Tryz.underlying68 (by kernel_rfl) W
  · exact run_assert_ifc 115 _ _ _ Tryz.underlying68 (by kernel_rfl) W
  · exact run_assert_ifc 149 _ _ _ Tryz.underlying68 (by kernel_rfl) W
  · exact run_assert_ifc 152 _ _ _ Tryz.underlying68 (by kernel_rfl) W
  · exact run_assert_ifc 156 _ _ _ Tryz.underlying68 (by kernel_rfl) W
  · exact run_assert_ifc 162 _ _ _ Tryz.underlying68 (by kernel_rfl) W
  · exact run_assert_ifc 167 _ _ _ Tryz.underlying68 (by kernel_rfl) W
  · exact run_assert_ifc 170 _ _ _ Tryz.underlying68 (by kernel_rfl) W
  · exact run_assert_ifc 175 _ _ _ Tryz.underlying68 (by kernel_rfl) W
  · exact run_assert_ifc 178 _ _ _ Tryz.underlying68 (by kernel_rfl) W
  · exact run_assert_ifc 181 _ _ _ Tryz.underlying68 (by kernel_rfl) W
  · exact run_assert_ifc 184 _ _ _ Tryz.underlying68 (by kernel_rfl) W
  · exact run_assert_ifc 191 _ _ _ Tryz.underlying68 (by kernel_rfl) W
  · exact run_assert_ifc 196 _ _ _ Tryz.underlying68 (by kernel_rfl) W
  · exact run_assert_ifc 66 _ _ _ Tryz.underlying68 (by kernel_rfl) W
  · exact run_assert_ifc 97 _ _ _ Tryz.underlying68 (by kernel_rfl) W
  · exact run_assert_ifc 209 _ _ _ Tryz.underlying68 (by kernel_rfl) W
  · exact run_assert_ifc 212 _ _ _ Tryz.underlying68 (by kernel_rfl) W
  · exact run_assert_ifc 215 _ _ _ Tryz.underlying68 (by kernel_rfl) W
  · exact run_assert_ifc 218 _ _ _ Tryz.underlying68 (by kernel_rfl) W
  · exact run_assert_ifc 223 _ _ _ Tryz.underlying68 (by kernel_rfl) W
  · exact run_assert_ifc 228 _ _ _ Tryz.underlying68 (by kernel_rfl) W
  · exact run_assert_ifc 234 _ _ _ Tryz.underlying68 (by kernel_rfl) W
  · exact run_assert_ifc 239 _ _ _ Tryz.underlying68 (by kernel_rfl) W


theorem assert_Statement (k : Int) (hk : stmtB k ∧ k ≠ 13) (r : Nat) (W : World) : (Instr.typeAssert (kv k r) 73 55 true).run Tryz.prog W = .ok (.tuple #[kv k r, .bool true]) W := by
  have hc : k = 7 ∨ k = 8 ∨ k = 9 ∨ k = 10 ∨ k = 11 ∨ k = 12 ∨ k = 14 ∨ k = 15 := by unfold stmtB at hk; omega
  rcases hc with rfl | rfl | rfl | rfl | rfl | rfl | rfl | rfl
  · exact run_assert_ifc 104 _ _ _ Tryz.underlying55 (by kernel_rfl) W
  · exact run_assert_ifc 107 _ _ _ Tryz.underlying55 (by kernel_rfl) W
  · exact run_assert_ifc 111 _ _ _ Tryz.underlying55 (by kernel_rfl) W
  · exact run_assert_ifc 62 _ _ _ Tryz.underlying55 (by kernel_rfl) W
  · exact run_assert_ifc 114 _ _ _ Tryz.underlying55 (by kernel_rfl) W
  · exact run_assert_ifc 56 _ _ _ Tryz.underlying55 (by kernel_rfl) W
  · exact run_assert_ifc 130 _ _ _ Tryz.underlying55 (by kernel_rfl) W
  · exact run_assert_ifc 134 _ _ _ Tryz.underlying55 (by kernel_rfl) W


theorem assert_Assignment (k : Int) (hk : k = 10 ∨ k = 11) (r : Nat) (W : World) : (Instr.typeAssert (kv k r) 73 59 true).run Tryz.prog W = .ok (.tuple #[kv k r, .bool true]) W := by
  have hc : k = 10 ∨ k = 11 := by omega
  rcases hc with rfl | rfl
  · exact run_assert_ifc 62 _ _ _ Tryz.underlying59 (by kernel_rfl) W
  · exact run_assert_ifc 114 _ _ _ Tryz.underlying59 (by kernel_rfl) W


theorem assert_PropertyKey (k : Int) (hk : k = 33 ∨ k = 34) (r : Nat) (W : World) : (Instr.typeAssert (kv k r) 73 145 true).run Tryz.prog W = .ok (.tuple #[kv k r, .bool true]) W := by
  have hc : k = 33 ∨ k = 34 := by omega
  rcases hc with rfl | rfl
  · exact run_assert_ifc 66 _ _ _ Tryz.underlying145 (by kernel_rfl) W
  · exact run_assert_ifc 97 _ _ _ Tryz.underlying145 (by kernel_rfl) W


theorem assert_StringExpressionPart (k : Int) (hk : k = 31 ∨ k = 32) (r : Nat) (W : World) : (Instr.typeAssert (kv k r) 73 200 true).run Tryz.prog W = .ok (.tuple #[kv k r, .bool true]) W := by
  have hc : k = 31 ∨ k = 32 := by omega
  rcases hc with rfl | rfl
  · exact run_assert_ifc 203 _ _ _ Tryz.underlying200 (by kernel_rfl) W
  · exact run_assert_ifc 206 _ _ _ Tryz.underlying200 (by kernel_rfl) W


theorem assert_File (r : Nat) (W : World) : (Instr.typeAssert (kv 3 r) 73 35 true).run Tryz.prog W = .ok (.tuple #[pp r, .bool true]) W := run_assert_same 35 _ _ _ Tryz.underlying35 W


set_option maxHeartbeats 4000000 in
set_option maxRecDepth 100000 in
theorem nodeOf_File {N : Nat} {tr : Tr} (h : UnH N tr) (hk : tr.kind = 3) (v : Value) (w : World) (hv : NodeIn w (· < N) tr v) (hN : N ≤ w.heap.size) :
    Calls Tryz.prog 14 #[v] w (PtrP tr w) := by
  obtain ⟨k, t, m, u, ks, a, c, rfl, rfl⟩ := hv.form
  have hb0 := (Below.refl w.heap.size w).alloc (Nat.le_refl _) (.cells #[.int .i64 k, .string t, .string m, .int .u64 u, .slice a ks.length c] 25)
  have HU := Lib.hid (h _ _ (hv.keep (Keep.of_below hb0 hN)) (Nat.le_trans hN hb0.size))
  have HB0 := Lib.hid hb0
  have hk2 : k = 3 := hk
  subst hk2
  have HQ := assert_File
  unfold nodeU at HU ⊢
  clear h hv hN hb0
  go_enter Tryz.func14, Tryz.ntmps14
  go_wp2_with fail
  ((with_reducible refine HU.out.mono ?_))
  rintro e w1 ⟨r, he, hr, hb1⟩
  have he2 : e = .returned (kv 3 r) := he
  subst he2
  have HR := Lib.hid (hr.up (Below.refl _ _) HB0.out.size)
  have HB1 := Lib.hid (HB0.out.trans (hb1.mono HB0.out.size))
  clear hr hb1 he
  go_wp2
  go_ret
  exact ⟨r, rfl, HR.out, HB1.out⟩


theorem assert_PackageClause (r : Nat) (W : World) : (Instr.typeAssert (kv 4 r) 73 49 true).run Tryz.prog W = .ok (.tuple #[pp r, .bool true]) W := run_assert_same 49 _ _ _ Tryz.underlying49 W


set_option maxHeartbeats 4000000 in
set_option maxRecDepth 100000 in
theorem nodeOf_PackageClause {N : Nat} {tr : Tr} (h : UnH N tr) (hk : tr.kind = 4) (v : Value) (w : World) (hv : NodeIn w (· < N) tr v) (hN : N ≤ w.heap.size) :
    Calls Tryz.prog 33 #[v] w (PtrP tr w) := by
  obtain ⟨k, t, m, u, ks, a, c, rfl, rfl⟩ := hv.form
  have hb0 := (Below.refl w.heap.size w).alloc (Nat.le_refl _) (.cells #[.int .i64 k, .string t, .string m, .int .u64 u, .slice a ks.length c] 25)
  have HU := Lib.hid (h _ _ (hv.keep (Keep.of_below hb0 hN)) (Nat.le_trans hN hb0.size))
  have HB0 := Lib.hid hb0
  have hk2 : k = 4 := hk
  subst hk2
  have HQ := assert_PackageClause
  unfold nodeU at HU ⊢
  clear h hv hN hb0
  go_enter Tryz.func33, Tryz.ntmps33
  go_wp2_with fail
  ((with_reducible refine HU.out.mono ?_))
  rintro e w1 ⟨r, he, hr, hb1⟩
  have he2 : e = .returned (kv 4 r) := he
  subst he2
  have HR := Lib.hid (hr.up (Below.refl _ _) HB0.out.size)
  have HB1 := Lib.hid (HB0.out.trans (hb1.mono HB0.out.size))
  clear hr hb1 he
  go_wp2
  go_ret
  exact ⟨r, rfl, HR.out, HB1.out⟩


theorem assert_ImportDeclaration (r : Nat) (W : World) : (Instr.typeAssert (kv 5 r) 73 91 true).run Tryz.prog W = .ok (.tuple #[pp r, .bool true]) W := run_assert_same 91 _ _ _ Tryz.underlying91 W


set_option maxHeartbeats 4000000 in
set_option maxRecDepth 100000 in
theorem nodeOf_ImportDeclaration {N : Nat} {tr : Tr} (h : UnH N tr) (hk : tr.kind = 5) (v : Value) (w : World) (hv : NodeIn w (· < N) tr v) (hN : N ≤ w.heap.size) :
    Calls Tryz.prog 65 #[v] w (PtrP tr w) := by
  obtain ⟨k, t, m, u, ks, a, c, rfl, rfl⟩ := hv.form
  have hb0 := (Below.refl w.heap.size w).alloc (Nat.le_refl _) (.cells #[.int .i64 k, .string t, .string m, .int .u64 u, .slice a ks.length c] 25)
  have HU := Lib.hid (h _ _ (hv.keep (Keep.of_below hb0 hN)) (Nat.le_trans hN hb0.size))
  have HB0 := Lib.hid hb0
  have hk2 : k = 5 := hk
  subst hk2
  have HQ := assert_ImportDeclaration
  unfold nodeU at HU ⊢
  clear h hv hN hb0
  go_enter Tryz.func65, Tryz.ntmps65
  go_wp2_with fail
  ((with_reducible refine HU.out.mono ?_))
  rintro e w1 ⟨r, he, hr, hb1⟩
  have he2 : e = .returned (kv 5 r) := he
  subst he2
  have HR := Lib.hid (hr.up (Below.refl _ _) HB0.out.size)
  have HB1 := Lib.hid (HB0.out.trans (hb1.mono HB0.out.size))
  clear hr hb1 he
  go_wp2
  go_ret
  exact ⟨r, rfl, HR.out, HB1.out⟩


theorem assert_Identifier (r : Nat) (W : World) : (Instr.typeAssert (kv 33 r) 73 66 true).run Tryz.prog W = .ok (.tuple #[pp r, .bool true]) W := run_assert_same 66 _ _ _ Tryz.underlying66 W


set_option maxHeartbeats 4000000 in
set_option maxRecDepth 100000 in
theorem nodeOf_Identifier {N : Nat} {tr : Tr} (h : UnH N tr) (hk : tr.kind = 33) (v : Value) (w : World) (hv : NodeIn w (· < N) tr v) (hN : N ≤ w.heap.size) :
    Calls Tryz.prog 34 #[v] w (PtrP tr w) := by
  obtain ⟨k, t, m, u, ks, a, c, rfl, rfl⟩ := hv.form
  have hb0 := (Below.refl w.heap.size w).alloc (Nat.le_refl _) (.cells #[.int .i64 k, .string t, .string m, .int .u64 u, .slice a ks.length c] 25)
  have HU := Lib.hid (h _ _ (hv.keep (Keep.of_below hb0 hN)) (Nat.le_trans hN hb0.size))
  have HB0 := Lib.hid hb0
  have hk2 : k = 33 := hk
  subst hk2
  have HQ := assert_Identifier
  unfold nodeU at HU ⊢
  clear h hv hN hb0
  go_enter Tryz.func34, Tryz.ntmps34
  go_wp2_with fail
  ((with_reducible refine HU.out.mono ?_))
  rintro e w1 ⟨r, he, hr, hb1⟩
  have he2 : e = .returned (kv 33 r) := he
  subst he2
  have HR := Lib.hid (hr.up (Below.refl _ _) HB0.out.size)
  have HB1 := Lib.hid (HB0.out.trans (hb1.mono HB0.out.size))
  clear hr hb1 he
  go_wp2
  go_ret
  exact ⟨r, rfl, HR.out, HB1.out⟩


theorem assert_StringLiteral (r : Nat) (W : World) : (Instr.typeAssert (kv 34 r) 73 97 true).run Tryz.prog W = .ok (.tuple #[pp r, .bool true]) W := run_assert_same 97 _ _ _ Tryz.underlying97 W


set_option maxHeartbeats 4000000 in
set_option maxRecDepth 100000 in
theorem nodeOf_StringLiteral {N : Nat} {tr : Tr} (h : UnH N tr) (hk : tr.kind = 34) (v : Value) (w : World) (hv : NodeIn w (· < N) tr v) (hN : N ≤ w.heap.size) :
    Calls Tryz.prog 36 #[v] w (PtrP tr w) := by
  obtain ⟨k, t, m, u, ks, a, c, rfl, rfl⟩ := hv.form
  have hb0 := (Below.refl w.heap.size w).alloc (Nat.le_refl _) (.cells #[.int .i64 k, .string t, .string m, .int .u64 u, .slice a ks.length c] 25)
  have HU := Lib.hid (h _ _ (hv.keep (Keep.of_below hb0 hN)) (Nat.le_trans hN hb0.size))
  have HB0 := Lib.hid hb0
  have hk2 : k = 34 := hk
  subst hk2
  have HQ := assert_StringLiteral
  unfold nodeU at HU ⊢
  clear h hv hN hb0
  go_enter Tryz.func36, Tryz.ntmps36
  go_wp2_with fail
  ((with_reducible refine HU.out.mono ?_))
  rintro e w1 ⟨r, he, hr, hb1⟩
  have he2 : e = .returned (kv 34 r) := he
  subst he2
  have HR := Lib.hid (hr.up (Below.refl _ _) HB0.out.size)
  have HB1 := Lib.hid (HB0.out.trans (hb1.mono HB0.out.size))
  clear hr hb1 he
  go_wp2
  go_ret
  exact ⟨r, rfl, HR.out, HB1.out⟩


theorem assert_MemberExpression (r : Nat) (W : World) : (Instr.typeAssert (kv 17 r) 73 115 true).run Tryz.prog W = .ok (.tuple #[pp r, .bool true]) W := run_assert_same 115 _ _ _ Tryz.underlying115 W


set_option maxHeartbeats 4000000 in
set_option maxRecDepth 100000 in
theorem nodeOf_MemberExpression {N : Nat} {tr : Tr} (h : UnH N tr) (hk : tr.kind = 17) (v : Value) (w : World) (hv : NodeIn w (· < N) tr v) (hN : N ≤ w.heap.size) :
    Calls Tryz.prog 38 #[v] w (PtrP tr w) := by
  obtain ⟨k, t, m, u, ks, a, c, rfl, rfl⟩ := hv.form
  have hb0 := (Below.refl w.heap.size w).alloc (Nat.le_refl _) (.cells #[.int .i64 k, .string t, .string m, .int .u64 u, .slice a ks.length c] 25)
  have HU := Lib.hid (h _ _ (hv.keep (Keep.of_below hb0 hN)) (Nat.le_trans hN hb0.size))
  have HB0 := Lib.hid hb0
  have hk2 : k = 17 := hk
  subst hk2
  have HQ := assert_MemberExpression
  unfold nodeU at HU ⊢
  clear h hv hN hb0
  go_enter Tryz.func38, Tryz.ntmps38
  go_wp2_with fail
  ((with_reducible refine HU.out.mono ?_))
  rintro e w1 ⟨r, he, hr, hb1⟩
  have he2 : e = .returned (kv 17 r) := he
  subst he2
  have HR := Lib.hid (hr.up (Below.refl _ _) HB0.out.size)
  have HB1 := Lib.hid (HB0.out.trans (hb1.mono HB0.out.size))
  clear hr hb1 he
  go_wp2
  go_ret
  exact ⟨r, rfl, HR.out, HB1.out⟩


theorem assert_VariableAssignment (r : Nat) (W : World) : (Instr.typeAssert (kv 10 r) 73 62 true).run Tryz.prog W = .ok (.tuple #[pp r, .bool true]) W := run_assert_same 62 _ _ _ Tryz.underlying62 W


set_option maxHeartbeats 4000000 in
set_option maxRecDepth 100000 in
theorem nodeOf_VariableAssignment {N : Nat} {tr : Tr} (h : UnH N tr) (hk : tr.kind = 10) (v : Value) (w : World) (hv : NodeIn w (· < N) tr v) (hN : N ≤ w.heap.size) :
    Calls Tryz.prog 41 #[v] w (PtrP tr w) := by
  obtain ⟨k, t, m, u, ks, a, c, rfl, rfl⟩ := hv.form
  have hb0 := (Below.refl w.heap.size w).alloc (Nat.le_refl _) (.cells #[.int .i64 k, .string t, .string m, .int .u64 u, .slice a ks.length c] 25)
  have HU := Lib.hid (h _ _ (hv.keep (Keep.of_below hb0 hN)) (Nat.le_trans hN hb0.size))
  have HB0 := Lib.hid hb0
  have hk2 : k = 10 := hk
  subst hk2
  have HQ := assert_VariableAssignment
  unfold nodeU at HU ⊢
  clear h hv hN hb0
  go_enter Tryz.func41, Tryz.ntmps41
  go_wp2_with fail
  ((with_reducible refine HU.out.mono ?_))
  rintro e w1 ⟨r, he, hr, hb1⟩
  have he2 : e = .returned (kv 10 r) := he
  subst he2
  have HR := Lib.hid (hr.up (Below.refl _ _) HB0.out.size)
  have HB1 := Lib.hid (HB0.out.trans (hb1.mono HB0.out.size))
  clear hr hb1 he
  go_wp2
  go_ret
  exact ⟨r, rfl, HR.out, HB1.out⟩


theorem assert_Block (r : Nat) (W : World) : (Instr.typeAssert (kv 6 r) 73 101 true).run Tryz.prog W = .ok (.tuple #[pp r, .bool true]) W := run_assert_same 101 _ _ _ Tryz.underlying101 W


set_option maxHeartbeats 4000000 in
set_option maxRecDepth 100000 in
theorem nodeOf_Block {N : Nat} {tr : Tr} (h : UnH N tr) (hk : tr.kind = 6) (v : Value) (w : World) (hv : NodeIn w (· < N) tr v) (hN : N ≤ w.heap.size) :
    Calls Tryz.prog 43 #[v] w (PtrP tr w) := by
  obtain ⟨k, t, m, u, ks, a, c, rfl, rfl⟩ := hv.form
  have hb0 := (Below.refl w.heap.size w).alloc (Nat.le_refl _) (.cells #[.int .i64 k, .string t, .string m, .int .u64 u, .slice a ks.length c] 25)
  have HU := Lib.hid (h _ _ (hv.keep (Keep.of_below hb0 hN)) (Nat.le_trans hN hb0.size))
  have HB0 := Lib.hid hb0
  have hk2 : k = 6 := hk
  subst hk2
  have HQ := assert_Block
  unfold nodeU at HU ⊢
  clear h hv hN hb0
  go_enter Tryz.func43, Tryz.ntmps43
  go_wp2_with fail
  ((with_reducible refine HU.out.mono ?_))
  rintro e w1 ⟨r, he, hr, hb1⟩
  have he2 : e = .returned (kv 6 r) := he
  subst he2
  have HR := Lib.hid (hr.up (Below.refl _ _) HB0.out.size)
  have HB1 := Lib.hid (HB0.out.trans (hb1.mono HB0.out.size))
  clear hr hb1 he
  go_wp2
  go_ret
  exact ⟨r, rfl, HR.out, HB1.out⟩


theorem assert_CallExpression (r : Nat) (W : World) : (Instr.typeAssert (kv 16 r) 73 138 true).run Tryz.prog W = .ok (.tuple #[pp r, .bool true]) W := run_assert_same 138 _ _ _ Tryz.underlying138 W


set_option maxHeartbeats 4000000 in
set_option maxRecDepth 100000 in
theorem nodeOf_CallExpression {N : Nat} {tr : Tr} (h : UnH N tr) (hk : tr.kind = 16) (v : Value) (w : World) (hv : NodeIn w (· < N) tr v) (hN : N ≤ w.heap.size) :
    Calls Tryz.prog 48 #[v] w (PtrP tr w) := by
  obtain ⟨k, t, m, u, ks, a, c, rfl, rfl⟩ := hv.form
  have hb0 := (Below.refl w.heap.size w).alloc (Nat.le_refl _) (.cells #[.int .i64 k, .string t, .string m, .int .u64 u, .slice a ks.length c] 25)
  have HU := Lib.hid (h _ _ (hv.keep (Keep.of_below hb0 hN)) (Nat.le_trans hN hb0.size))
  have HB0 := Lib.hid hb0
  have hk2 : k = 16 := hk
  subst hk2
  have HQ := assert_CallExpression
  unfold nodeU at HU ⊢
  clear h hv hN hb0
  go_enter Tryz.func48, Tryz.ntmps48
  go_wp2_with fail
  ((with_reducible refine HU.out.mono ?_))
  rintro e w1 ⟨r, he, hr, hb1⟩
  have he2 : e = .returned (kv 16 r) := he
  subst he2
  have HR := Lib.hid (hr.up (Below.refl _ _) HB0.out.size)
  have HB1 := Lib.hid (HB0.out.trans (hb1.mono HB0.out.size))
  clear hr hb1 he
  go_wp2
  go_ret
  exact ⟨r, rfl, HR.out, HB1.out⟩


theorem assert_Property (r : Nat) (W : World) : (Instr.typeAssert (kv 29 r) 73 159 true).run Tryz.prog W = .ok (.tuple #[pp r, .bool true]) W := run_assert_same 159 _ _ _ Tryz.underlying159 W


set_option maxHeartbeats 4000000 in
set_option maxRecDepth 100000 in
theorem nodeOf_Property {N : Nat} {tr : Tr} (h : UnH N tr) (hk : tr.kind = 29) (v : Value) (w : World) (hv : NodeIn w (· < N) tr v) (hN : N ≤ w.heap.size) :
    Calls Tryz.prog 67 #[v] w (PtrP tr w) := by
  obtain ⟨k, t, m, u, ks, a, c, rfl, rfl⟩ := hv.form
  have hb0 := (Below.refl w.heap.size w).alloc (Nat.le_refl _) (.cells #[.int .i64 k, .string t, .string m, .int .u64 u, .slice a ks.length c] 25)
  have HU := Lib.hid (h _ _ (hv.keep (Keep.of_below hb0 hN)) (Nat.le_trans hN hb0.size))
  have HB0 := Lib.hid hb0
  have hk2 : k = 29 := hk
  subst hk2
  have HQ := assert_Property
  unfold nodeU at HU ⊢
  clear h hv hN hb0
  go_enter Tryz.func67, Tryz.ntmps67
  go_wp2_with fail
  ((with_reducible refine HU.out.mono ?_))
  rintro e w1 ⟨r, he, hr, hb1⟩
  have he2 : e = .returned (kv 29 r) := he
  subst he2
  have HR := Lib.hid (hr.up (Below.refl _ _) HB0.out.size)
  have HB1 := Lib.hid (HB0.out.trans (hb1.mono HB0.out.size))
  clear hr hb1 he
  go_wp2
  go_ret
  exact ⟨r, rfl, HR.out, HB1.out⟩


theorem assert_ObjectExpression (r : Nat) (W : World) : (Instr.typeAssert (kv 28 r) 73 191 true).run Tryz.prog W = .ok (.tuple #[pp r, .bool true]) W := run_assert_same 191 _ _ _ Tryz.underlying191 W


set_option maxHeartbeats 4000000 in
set_option maxRecDepth 100000 in
theorem nodeOf_Expression {N : Nat} {tr : Tr} (h : UnH N tr) (hk : exprB tr.kind) (v : Value) (w : World) (hv : NodeIn w (· < N) tr v) (hN : N ≤ w.heap.size) :
    Calls Tryz.prog 44 #[v] w (UnP tr w) := by
  obtain ⟨k, t, m, u, ks, a, c, rfl, rfl⟩ := hv.form
  have hb0 := (Below.refl w.heap.size w).alloc (Nat.le_refl _) (.cells #[.int .i64 k, .string t, .string m, .int .u64 u, .slice a ks.length c] 25)
  have HU := Lib.hid (h _ _ (hv.keep (Keep.of_below hb0 hN)) (Nat.le_trans hN hb0.size))
  have HB0 := Lib.hid hb0
  have HQ := assert_Expression k hk
  unfold nodeU at HU ⊢
  clear h hv hN hb0 hk
  go_enter Tryz.func44, Tryz.ntmps44
  go_wp2_with fail
  ((with_reducible refine HU.out.mono ?_))
  rintro e w1 ⟨r, he, hr, hb1⟩
  have he2 : e = .returned (kv k r) := he
  subst he2
  have HR := Lib.hid (hr.up (Below.refl _ _) HB0.out.size)
  have HB1 := Lib.hid (HB0.out.trans (hb1.mono HB0.out.size))
  clear hr hb1 he
  go_wp2
  go_ret
  exact ⟨r, rfl, HR.out, HB1.out⟩


set_option maxHeartbeats 4000000 in
set_option maxRecDepth 100000 in
theorem nodeOf_Statement {N : Nat} {tr : Tr} (h : UnH N tr) (hk : stmtB tr.kind ∧ tr.kind ≠ 13) (v : Value) (w : World) (hv : NodeIn w (· < N) tr v) (hN : N ≤ w.heap.size) :
    Calls Tryz.prog 66 #[v] w (UnP tr w) := by
  obtain ⟨k, t, m, u, ks, a, c, rfl, rfl⟩ := hv.form
  have hb0 := (Below.refl w.heap.size w).alloc (Nat.le_refl _) (.cells #[.int .i64 k, .string t, .string m, .int .u64 u, .slice a ks.length c] 25)
  have HU := Lib.hid (h _ _ (hv.keep (Keep.of_below hb0 hN)) (Nat.le_trans hN hb0.size))
  have HB0 := Lib.hid hb0
  have HQ := assert_Statement k hk
  unfold nodeU at HU ⊢
  clear h hv hN hb0 hk
  go_enter Tryz.func66, Tryz.ntmps66
  go_wp2_with fail
  ((with_reducible refine HU.out.mono ?_))
  rintro e w1 ⟨r, he, hr, hb1⟩
  have he2 : e = .returned (kv k r) := he
  subst he2
  have HR := Lib.hid (hr.up (Below.refl _ _) HB0.out.size)
  have HB1 := Lib.hid (HB0.out.trans (hb1.mono HB0.out.size))
  clear hr hb1 he
  go_wp2
  go_ret
  exact ⟨r, rfl, HR.out, HB1.out⟩


set_option maxHeartbeats 4000000 in
set_option maxRecDepth 100000 in
theorem nodeOf_Assignment {N : Nat} {tr : Tr} (h : UnH N tr) (hk : tr.kind = 10 ∨ tr.kind = 11) (v : Value) (w : World) (hv : NodeIn w (· < N) tr v) (hN : N ≤ w.heap.size) :
    Calls Tryz.prog 39 #[v] w (UnP tr w) := by
  obtain ⟨k, t, m, u, ks, a, c, rfl, rfl⟩ := hv.form
  have hb0 := (Below.refl w.heap.size w).alloc (Nat.le_refl _) (.cells #[.int .i64 k, .string t, .string m, .int .u64 u, .slice a ks.length c] 25)
  have HU := Lib.hid (h _ _ (hv.keep (Keep.of_below hb0 hN)) (Nat.le_trans hN hb0.size))
  have HB0 := Lib.hid hb0
  have HQ := assert_Assignment k hk
  unfold nodeU at HU ⊢
  clear h hv hN hb0 hk
  go_enter Tryz.func39, Tryz.ntmps39
  go_wp2_with fail
  ((with_reducible refine HU.out.mono ?_))
  rintro e w1 ⟨r, he, hr, hb1⟩
  have he2 : e = .returned (kv k r) := he
  subst he2
  have HR := Lib.hid (hr.up (Below.refl _ _) HB0.out.size)
  have HB1 := Lib.hid (HB0.out.trans (hb1.mono HB0.out.size))
  clear hr hb1 he
  go_wp2
  go_ret
  exact ⟨r, rfl, HR.out, HB1.out⟩


set_option maxHeartbeats 4000000 in
set_option maxRecDepth 100000 in
theorem nodeOf_PropertyKey {N : Nat} {tr : Tr} (h : UnH N tr) (hk : tr.kind = 33 ∨ tr.kind = 34) (v : Value) (w : World) (hv : NodeIn w (· < N) tr v) (hN : N ≤ w.heap.size) :
    Calls Tryz.prog 47 #[v] w (UnP tr w) := by
  obtain ⟨k, t, m, u, ks, a, c, rfl, rfl⟩ := hv.form
  have hb0 := (Below.refl w.heap.size w).alloc (Nat.le_refl _) (.cells #[.int .i64 k, .string t, .string m, .int .u64 u, .slice a ks.length c] 25)
  have HU := Lib.hid (h _ _ (hv.keep (Keep.of_below hb0 hN)) (Nat.le_trans hN hb0.size))
  have HB0 := Lib.hid hb0
  have HQ := assert_PropertyKey k hk
  unfold nodeU at HU ⊢
  clear h hv hN hb0 hk
  go_enter Tryz.func47, Tryz.ntmps47
  go_wp2_with fail
  ((with_reducible refine HU.out.mono ?_))
  rintro e w1 ⟨r, he, hr, hb1⟩
  have he2 : e = .returned (kv k r) := he
  subst he2
  have HR := Lib.hid (hr.up (Below.refl _ _) HB0.out.size)
  have HB1 := Lib.hid (HB0.out.trans (hb1.mono HB0.out.size))
  clear hr hb1 he
  go_wp2
  go_ret
  exact ⟨r, rfl, HR.out, HB1.out⟩


set_option maxHeartbeats 4000000 in
set_option maxRecDepth 100000 in
theorem nodeOf_StringExpressionPart {N : Nat} {tr : Tr} (h : UnH N tr) (hk : tr.kind = 31 ∨ tr.kind = 32) (v : Value) (w : World) (hv : NodeIn w (· < N) tr v) (hN : N ≤ w.heap.size) :
    Calls Tryz.prog 70 #[v] w (UnP tr w) := by
  obtain ⟨k, t, m, u, ks, a, c, rfl, rfl⟩ := hv.form
  have hb0 := (Below.refl w.heap.size w).alloc (Nat.le_refl _) (.cells #[.int .i64 k, .string t, .string m, .int .u64 u, .slice a ks.length c] 25)
  have HU := Lib.hid (h _ _ (hv.keep (Keep.of_below hb0 hN)) (Nat.le_trans hN hb0.size))
  have HB0 := Lib.hid hb0
  have HQ := assert_StringExpressionPart k hk
  unfold nodeU at HU ⊢
  clear h hv hN hb0 hk
  go_enter Tryz.func70, Tryz.ntmps70
  go_wp2_with fail
  ((with_reducible refine HU.out.mono ?_))
  rintro e w1 ⟨r, he, hr, hb1⟩
  have he2 : e = .returned (kv k r) := he
  subst he2
  have HR := Lib.hid (hr.up (Below.refl _ _) HB0.out.size)
  have HB1 := Lib.hid (HB0.out.trans (hb1.mono HB0.out.size))
  clear hr hb1 he
  go_wp2
  go_ret
  exact ⟨r, rfl, HR.out, HB1.out⟩


set_option maxHeartbeats 4000000 in
set_option maxRecDepth 100000 in
theorem maybeIdentifier_any {N : Nat} {tr : Tr} (h : tr.kind ≠ 0 → UnH N tr) (hk : tr.kind = 33 ∨ tr.kind = 0) (v : Value) (w : World) (hv : NodeIn w (· < N) tr v) (hN : N ≤ w.heap.size) :
    Calls Tryz.prog 35 #[v] w (OptPP tr w) := by
  obtain ⟨k, t, m, u, ks, a, c, rfl, rfl⟩ := hv.form
  have hb0 := (Below.refl w.heap.size w).alloc (Nat.le_refl _) (.cells #[.int .i64 k, .string t, .string m, .int .u64 u, .slice a ks.length c] 25)
  have HB0 := Lib.hid hb0
  have hk2 : k = 33 ∨ k = 0 := hk
  by_cases h0 : k = 0
  · subst h0
    unfold nodeU
    clear h hv hN hb0 hk hk2
    go_enter Tryz.func35, Tryz.ntmps35
    go_wp2
    go_ret
    exact ⟨0, rfl, fun h => absurd rfl h, HB0.out⟩
  · have h33 : k = 33 := by omega
    subst h33
    have HU := Lib.hid (nodeOf_Identifier (h h0) rfl _ _ (hv.keep (Keep.of_below hb0 hN)) (Nat.le_trans hN hb0.size))
    unfold nodeU at HU ⊢
    clear h hv hN hb0 hk hk2 h0
    go_enter Tryz.func35, Tryz.ntmps35
    go_wp2_with fail
    ((with_reducible refine HU.out.mono ?_))
    rintro e w1 ⟨r, rfl, hr, hb1⟩
    have HR := Lib.hid (hr.up (Below.refl _ _) HB0.out.size)
    have HB1 := Lib.hid (HB0.out.trans (hb1.mono HB0.out.size))
    clear hr hb1
    go_wp2
    go_ret
    exact ⟨r, rfl, fun _ => HR.out, HB1.out⟩


set_option maxHeartbeats 4000000 in
set_option maxRecDepth 100000 in
theorem maybeString_any {N : Nat} {tr : Tr} (h : tr.kind ≠ 0 → UnH N tr) (hk : tr.kind = 34 ∨ tr.kind = 0) (v : Value) (w : World) (hv : NodeIn w (· < N) tr v) (hN : N ≤ w.heap.size) :
    Calls Tryz.prog 42 #[v] w (OptPP tr w) := by
  obtain ⟨k, t, m, u, ks, a, c, rfl, rfl⟩ := hv.form
  have hb0 := (Below.refl w.heap.size w).alloc (Nat.le_refl _) (.cells #[.int .i64 k, .string t, .string m, .int .u64 u, .slice a ks.length c] 25)
  have HB0 := Lib.hid hb0
  have hk2 : k = 34 ∨ k = 0 := hk
  by_cases h0 : k = 0
  · subst h0
    unfold nodeU
    clear h hv hN hb0 hk hk2
    go_enter Tryz.func42, Tryz.ntmps42
    go_wp2
    go_ret
    exact ⟨0, rfl, fun h => absurd rfl h, HB0.out⟩
  · have h33 : k = 34 := by omega
    subst h33
    have HU := Lib.hid (nodeOf_StringLiteral (h h0) rfl _ _ (hv.keep (Keep.of_below hb0 hN)) (Nat.le_trans hN hb0.size))
    unfold nodeU at HU ⊢
    clear h hv hN hb0 hk hk2 h0
    go_enter Tryz.func42, Tryz.ntmps42
    go_wp2_with fail
    ((with_reducible refine HU.out.mono ?_))
    rintro e w1 ⟨r, rfl, hr, hb1⟩
    have HR := Lib.hid (hr.up (Below.refl _ _) HB0.out.size)
    have HB1 := Lib.hid (HB0.out.trans (hb1.mono HB0.out.size))
    clear hr hb1
    go_wp2
    go_ret
    exact ⟨r, rfl, fun _ => HR.out, HB1.out⟩


set_option maxHeartbeats 4000000 in
set_option maxRecDepth 100000 in
theorem maybeExpression_any {N : Nat} {tr : Tr} (h : tr.kind ≠ 0 → UnH N tr) (hk : tr.kind = 0 ∨ exprB tr.kind) (v : Value) (w : World) (hv : NodeIn w (· < N) tr v) (hN : N ≤ w.heap.size) :
    Calls Tryz.prog 37 #[v] w (OptIP tr w) := by
  obtain ⟨k, t, m, u, ks, a, c, rfl, rfl⟩ := hv.form
  have hb0 := (Below.refl w.heap.size w).alloc (Nat.le_refl _) (.cells #[.int .i64 k, .string t, .string m, .int .u64 u, .slice a ks.length c] 25)
  have HB0 := Lib.hid hb0
  have hk2 : k = 0 ∨ exprB k := hk
  by_cases h0 : k = 0
  · subst h0
    unfold nodeU
    clear h hv hN hb0 hk hk2
    go_enter Tryz.func37, Tryz.ntmps37
    go_wp2
    go_ret
    exact ⟨0, rfl, fun h => absurd rfl h, HB0.out⟩
  · have HU := Lib.hid (nodeOf_Expression (h h0) (hk2.resolve_left h0) _ _ (hv.keep (Keep.of_below hb0 hN)) (Nat.le_trans hN hb0.size))
    have hkb : (k == 0) = false := beq_eq_false_iff_ne.2 h0
    have HV : Hid (∀ r, ov k r = kv k r) := Lib.hid fun r => if_neg h0
    unfold nodeU at HU ⊢
    clear h hv hN hb0 hk hk2 h0
    go_enter Tryz.func37, Tryz.ntmps37
    go_wp2_with fail
    ((with_reducible refine HU.out.mono ?_))
    rintro e w1 ⟨r, he, hr, hb1⟩
    have he2 : e = .returned (kv k r) := he
    subst he2
    have HR := Lib.hid (hr.up (Below.refl _ _) HB0.out.size)
    have HB1 := Lib.hid (HB0.out.trans (hb1.mono HB0.out.size))
    clear hr hb1 he
    go_wp2
    go_ret
    exact ⟨r, congrArg _ (HV.out r).symm, fun _ => HR.out, HB1.out⟩

set_option maxHeartbeats 2000000 in
theorem exactly_any (k : Int) (t m : ByteArray) (u : Int) (a : Option Addr) (n c : Nat) (x : Int) (hx : x = n) (w : World) :
    Calls Tryz.prog 30 #[.agg #[.int .i64 k, .string t, .string m, .int .u64 u, .slice a n c], .int .i64 x] w fun e w' => e = .returned (.tuple #[]) ∧ Below w.heap.size w w' := by
  subst hx
  have HB0 := Lib.hid ((Below.refl w.heap.size w).alloc (Nat.le_refl _) (.cells #[.int .i64 k, .string t, .string m, .int .u64 u, .slice a n c] 25))
  go_enter Tryz.func30, Tryz.ntmps30
  go_wp2
  go_end0
  exact ⟨rfl, HB0.out⟩

end Go.Proofs.YtkohgndmhgcgeaaGreatDoor
