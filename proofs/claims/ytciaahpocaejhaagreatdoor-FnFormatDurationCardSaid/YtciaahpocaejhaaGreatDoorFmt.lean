/- The formatter of package ast over a strings.Builder of its own: what writeString, writeRune, get and written do, whatever is written. -/
import Derived.Test.YtciaahpocaejhaaGreatDoorRows
import Derived.Test.YtciaahpocaejhaaGreatDoorBld
import Derived.WalkKit
import Derived.WalkLawsBesides
import Derived.Outline
import Derived.BigCall
import Derived.Lib.Hide
import Derived.Lib.OthersKept
import Derived.Laws.AppendOwn
namespace Go.Proofs.YtciaahpocaejhaaGreatDoor
open Go.RowKit Go.Shelf

/-- Block b is a builder of the call's own, block bf a formatter over it; what has been written so far. -/
def FmAt (b bf : Nat) (ind : Int) (bs : List Value) (w : World) : Prop :=
  w.heap[bf]? = some (.cells #[.pointer (some ⟨b, 0, none⟩), .int .i64 ind] 100 (0, 0)) ∧ Lib.IsBuilderF 98 5 b b bs w

theorem FmAt.lt {b bf : Nat} {ind : Int} {bs : List Value} {w : World} (h : FmAt b bf ind bs w) : b < w.heap.size := by
  rcases h.2 with h | h <;> exact h.lt

theorem FmAt.ne {b bf : Nat} {ind : Int} {bs : List Value} {w : World} (h : FmAt b bf ind bs w) : bf ≠ b := by
  intro e
  subst e
  have h1 := h.1
  rcases h.2 with ⟨_, v, h2, _⟩ | ⟨_, v, h2, _⟩ <;> rw [h2] at h1 <;> cases h1

theorem FmAt.kept {b bf : Nat} {ind : Int} {bs bs' : List Value} {w w' : World} (h : FmAt b bf ind bs w) (hk : Lib.OthersKept 5 (some b) w w') (h' : Lib.BuilderAtF 98 5 b b (.pointer (some ⟨b, 0, none⟩)) bs' w') : FmAt b bf ind bs' w' :=
  ⟨hk bf _ h.1 (by simp [h.ne]) (fun c fz e => by cases e), .inr h'⟩

theorem FmAt.below {b bf : Nat} {ind : Int} {bs : List Value} {w w' : World} (h : FmAt b bf ind bs w) (hb : Below w.heap.size w w') : FmAt b bf ind bs w' := by
  have hg : w.grownBy w' none := ⟨hb.os, hb.tape, hb.output, hb.size, fun k hk _ => hb.block k hk⟩
  have lt : ∀ {k : Nat} {o : Obj}, w.heap[k]? = some o → k < w.heap.size := fun {k o} hk => by
    rcases Nat.lt_or_ge k w.heap.size with h' | h'
    · exact h'
    · simp [Array.getElem?_eq_none h'] at hk
  have at_ : ∀ p, Lib.BuilderAtF 98 5 b b p bs w → Lib.BuilderAtF 98 5 b b p bs w' := by
    rintro p ⟨hB, v, hbk, hown, hne⟩
    exact ⟨hB, v, (hb.block b (lt hbk)).trans hbk, hown.kept hg (by cases hv : v.ownBlock <;> simp), hne⟩
  exact ⟨(hb.block bf (lt h.1)).trans h.1, h.2.elim (fun x => .inl (at_ _ x)) (fun x => .inr (at_ _ x))⟩

theorem writeString_any (b bf : Nat) (ind : Int) (bs : List Value) (s : ByteArray) (w : World) (h : FmAt b bf ind bs w) (hlen : bs.length + s.size ≤ 140737488355328) :
    Calls Tryz.prog 74 #[.pointer (some ⟨bf, 0, none⟩), .string s] w fun e w' => e = .returned (.tuple #[]) ∧ FmAt b bf ind (bs ++ Lib.strCells s) w' ∧ Below b w w' := by
  have c0 : w.cell? ⟨bf, 0, none⟩ = some (.pointer (some ⟨b, 0, none⟩)) := by rw [Lib.cell_of_heap h.1]; rfl
  have HH := Lib.hid h
  have HI := Lib.hid h.2
  have hb := h.lt
  clear h
  go_enter Tryz.func74, Tryz.ntmps74
  go_wp2_with (go_at_call 100; ((with_reducible refine (bld_WriteString b b bs s _ HI.out hlen (by omega)).mono ?_)); rintro e w1 ⟨rfl, h1, hb1, hk1⟩)
  go_end0
  exact ⟨rfl, HH.out.kept hk1 h1, hb1⟩

theorem writeRune_any (b bf : Nat) (ind : Int) (bs : List Value) (r : Int) (hr0 : -2147483648 ≤ r) (hr1 : r ≤ 2147483647) (w : World) (h : FmAt b bf ind bs w) (hlen : bs.length + 4 ≤ 140737488355328) :
    Calls Tryz.prog 53 #[.pointer (some ⟨bf, 0, none⟩), .int .i32 r] w fun e w' => e = .returned (.tuple #[]) ∧ FmAt b bf ind (bs ++ Lib.runeCells r) w' ∧ Below b w w' := by
  have c0 : w.cell? ⟨bf, 0, none⟩ = some (.pointer (some ⟨b, 0, none⟩)) := by rw [Lib.cell_of_heap h.1]; rfl
  have HH := Lib.hid h
  have HI := Lib.hid h.2
  have hb := h.lt
  clear h
  go_enter Tryz.func53, Tryz.ntmps53
  go_wp2_with (go_at_call 79; ((with_reducible refine (bld_WriteRune b b bs r hr0 hr1 _ HI.out hlen (by omega)).mono ?_)); rintro e w1 ⟨rfl, h1, hb1, hk1⟩)
  go_end0
  exact ⟨rfl, HH.out.kept hk1 h1, hb1⟩

theorem get_any (b bf : Nat) (ind : Int) (l : List UInt8) (hl : l ≠ []) (w : World) (h : FmAt b bf ind (Lib.byteCells l) w) :
    Calls Tryz.prog 52 #[.pointer (some ⟨bf, 0, none⟩)] w fun e w' => e = .returned (.string ⟨l.toArray⟩) ∧ Below b w w' := by
  have c0 : w.cell? ⟨bf, 0, none⟩ = some (.pointer (some ⟨b, 0, none⟩)) := by rw [Lib.cell_of_heap h.1]; rfl
  have HH := Lib.hid h
  have HI := Lib.hid h.2
  clear h
  go_enter Tryz.func52, Tryz.ntmps52
  go_wp2_with (go_at_call 78; ((with_reducible refine (Tryz.Builder_String_k b b l _ HI.out hl).mono ?_)); rintro e w1 ⟨rfl, h1, hb1, hk1⟩)
  go_ret
  exact ⟨rfl, hb1⟩

theorem fresh_fm (w : World) : FmAt w.heap.size (w.heap.size + 1) 0 [] ((w.alloc (.cells #[.pointer none, .slice none 0 0] 98)).alloc (.cells #[.pointer (some ⟨w.heap.size, 0, none⟩), .int .i64 0] 100)) := by
  refine ⟨?_, .inl ⟨Nat.le_refl _, .slice none 0 0, ?_, ?_, by simp [Value.ownBlock]⟩⟩
  · have h := heap_alloc_new (w.alloc (.cells #[.pointer none, .slice none 0 0] 98)) (.cells #[.pointer (some ⟨w.heap.size, 0, none⟩), .int .i64 0] 100)
    rw [show (w.alloc (.cells #[.pointer none, .slice none 0 0] 98)).heap.size = w.heap.size + 1 by simp] at h
    exact h
  · rw [Below.heap_alloc _ _ _ (by simp)]
    exact heap_alloc_new w _
  · exact World.ownsRowF_of (World.ownsRow_nil _ _ _ _)

/-- What is written by a function value that bears one captured variable. -/
theorem written_any (fn : FuncId) (hent : ∀ args w, (callFunc fn args).run Tryz.prog w = .ok (.enter fn args) w) (c : Addr) (ind : Int) (l : List UInt8) (hl : l ≠ []) (w : World)
    (hfn : ∀ W, FmAt w.heap.size (w.heap.size + 1) 0 [] W → Below w.heap.size w W → Calls Tryz.prog fn #[.pointer (some ⟨w.heap.size + 1, 0, none⟩), .pointer (some c)] W fun e W' => e = .returned (.tuple #[]) ∧ FmAt w.heap.size (w.heap.size + 1) ind (Lib.byteCells l) W' ∧ Below w.heap.size W W') :
    Calls Tryz.prog 27 #[.func (.func fn) #[] #[.pointer (some c)]] w fun e w' => e = .returned (.string ⟨l.toArray⟩) ∧ Below w.heap.size w w' := by
  have HF := Lib.hid hfn
  clear hfn
  have hb0 : Below w.heap.size w ((w.alloc (.cells #[.pointer none, .slice none 0 0] 98)).alloc (.cells #[.pointer (some ⟨w.heap.size, 0, none⟩), .int .i64 0] 100)) :=
    ((Below.refl _ w).alloc (Nat.le_refl _) _).alloc (by simp) _
  go_enter Tryz.func27, Tryz.ntmps27
  go_wp2_with fail
  refine (HF.out _ (fresh_fm w) hb0).mono ?_
  rintro e w1 ⟨rfl, h1, hb1⟩
  go_wp2_with fail
  refine (get_any _ _ _ l hl _ h1).mono ?_
  rintro e w2 ⟨rfl, hb2⟩
  go_wp2
  go_ret
  exact ⟨rfl, (hb0.trans hb1).trans hb2⟩

end Go.Proofs.YtciaahpocaejhaaGreatDoor
