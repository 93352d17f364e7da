/- FnFormatComment: what FormatComment writes: two slashes and a blank, the text, a line's end. -/
import Derived.Test.YtlnimjpigghbmaaDoorFmt
namespace Go.Proofs.YtlnimjpigghbmaaDoor
open Go.RowKit Go.Shelf

/-- What a comment is written as. -/
def commentBytes (s : ByteArray) : List UInt8 := [47, 47, 32] ++ s.data.toList ++ [10]

theorem comment_cells (s : ByteArray) : ([] ++ Lib.strCells ⟨#[47, 47, 32]⟩ ++ Lib.strCells s) ++ Lib.runeCells 10 = Lib.byteCells (commentBytes s) := by
  have e : Lib.encodeRuneZ 10 = [10] := Lib.encodeRuneZ_one (by decide) (by decide)
  simp [Lib.strCells, Lib.runeCells, Lib.byteCells, commentBytes, e]

theorem writeComment_any (b bf : Nat) (ind : Int) (s : ByteArray) (w : World) (h : FmAt b bf ind [] w) (hlen : s.size ≤ 140737488351232) :
    Calls Tryd.prog 22 #[.pointer (some ⟨bf, 0, none⟩), .string s] w fun e w' => e = .returned (.tuple #[]) ∧ FmAt b bf ind (Lib.byteCells (commentBytes s)) w' ∧ Below b w w' := by
  have HH := Lib.hid h
  clear h
  go_enter Tryd.func22, Tryd.ntmps22
  go_wp2_with fail
  refine (writeString_any b bf ind [] ⟨#[47, 47, 32]⟩ _ HH.out (by decide)).mono ?_
  rintro e w1 ⟨rfl, h1, hb1⟩
  have H1 := Lib.hid h1
  clear h1
  go_wp2_with fail
  refine (writeString_any b bf ind _ s _ H1.out ?_).mono ?_
  · simp [Lib.strCells]
    omega
  rintro e w2 ⟨rfl, h2, hb2⟩
  have H2 := Lib.hid h2
  clear h2
  go_wp2_with fail
  refine (writeRune_any b bf ind _ 10 (by decide) (by decide) _ H2.out ?_).mono ?_
  · simp [Lib.strCells]
    omega
  rintro e w3 ⟨rfl, h3, hb3⟩
  rw [comment_cells] at h3
  have H3 := Lib.hid h3
  clear h3
  go_wp2
  go_end0
  exact ⟨rfl, H3.out, (hb1.trans hb2).trans hb3⟩

theorem closureComment_any (b bf cb : Nat) (ind : Int) (s : ByteArray) (w : World) (h : FmAt b bf ind [] w) (hc : w.cell? ⟨cb, 0, none⟩ = some (.string s)) (hlen : s.size ≤ 140737488351232) :
    Calls Tryd.prog 21 #[.pointer (some ⟨bf, 0, none⟩), .pointer (some ⟨cb, 0, none⟩)] w fun e w' => e = .returned (.tuple #[]) ∧ FmAt b bf ind (Lib.byteCells (commentBytes s)) w' ∧ Below b w w' := by
  have HH := Lib.hid h
  clear h
  go_enter Tryd.func21, Tryd.ntmps21
  go_wp2_with fail
  refine (writeComment_any b bf ind s _ HH.out hlen).mono ?_
  rintro e w1 ⟨rfl, h1, hb1⟩
  have H1 := Lib.hid h1
  clear h1
  go_wp2
  go_end0
  exact ⟨rfl, H1.out, hb1⟩

theorem formatComment_inner (s : ByteArray) (w : World) (hlen : s.size ≤ 140737488351232) :
    Calls Tryd.prog 14 #[.string s] w fun e w' => e = .returned (.string ⟨(commentBytes s).toArray⟩) ∧ Below w.heap.size w w' := by
  have hmf : ∀ (fn : Fn) (first cap : Array Value) (w : World), (Instr.makeFunc fn first cap).run Tryd.prog w = .ok (.func fn first cap) w := fun _ _ _ _ => rfl
  have hb0 : Below w.heap.size w (w.alloc (.cells #[.string s] 9)) := (Below.refl _ w).alloc (Nat.le_refl _) _
  have hc : (w.alloc (.cells #[.string s] 9)).cell? ⟨w.heap.size, 0, none⟩ = some (.string s) := by rw [World.cell?_alloc_at _ _ _ _ rfl]; rfl
  have H0 := Lib.hid hc
  clear hc
  go_enter Tryd.func14, Tryd.ntmps14
  go_wp2_with fail
  refine (written_any 21 (enters_of Tryd.func21 (by kernel_rfl) rfl) ⟨w.heap.size, 0, none⟩ 0 (commentBytes s) (by simp [commentBytes]) _ ?_).mono ?_
  · intro W hf hbW
    exact closureComment_any _ _ w.heap.size 0 s W hf ((hbW.cell (p := ⟨w.heap.size, 0, none⟩) (by simp)).trans H0.out) hlen
  rintro e w1 ⟨rfl, hb1⟩
  go_wp2
  go_ret
  exact ⟨rfl, hb0.trans (hb1.mono (by simp))⟩

theorem formatComment_any (s : ByteArray) (w : World) (hlen : s.size ≤ 140737488351232) :
    Calls Tryd.prog 7 #[.string s] w fun e w' => e = .returned (.string ⟨(commentBytes s).toArray⟩) ∧ Below w.heap.size w w' := by
  go_enter Tryd.func7, Tryd.ntmps7
  go_wp2_with fail
  refine (formatComment_inner s _ hlen).mono ?_
  rintro e w1 ⟨rfl, hb1⟩
  go_wp2
  go_ret
  exact ⟨rfl, hb1⟩

end Go.Proofs.YtlnimjpigghbmaaDoor
