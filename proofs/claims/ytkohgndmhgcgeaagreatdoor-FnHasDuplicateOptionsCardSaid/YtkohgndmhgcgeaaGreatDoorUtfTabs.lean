/- From what a row lists of unicode/utf8's two tables to what the shelf's contracts ask of the world. -/
import Derived.Test.YtkohgndmhgcgeaaGreatDoorRows
import Derived.Test.YtkohgndmhgcgeaaGreatDoorShelf
import Derived.Lib.LaidU8
import Derived.LaidHandle
namespace Go.Proofs.YtkohgndmhgcgeaaGreatDoor
open Go Go.Shelf Go.RowKit

theorem first_is : Rows.laid_unicode_utf8_first = Lib.firstData := by kernel_rfl
theorem accept_is : (Rows.laid_unicode_utf8_acceptRanges : DataW Unit) = Lib.acceptData := by kernel_rfl

theorem utf_tabs {W : World} (h3 : Lib.VarReads Tryz.prog W "unicode/utf8.first" Rows.laid_unicode_utf8_first) (h4 : Lib.VarReads Tryz.prog W "unicode/utf8.acceptRanges" Rows.laid_unicode_utf8_acceptRanges) : Lib.Utf8Tabs 1 2 W := by
  rw [first_is] at h3
  rw [accept_is] at h4
  exact utf8Tabs_of_reads (ρ := Tryz.lays260_ren) { Tryz.lays260 with } ⟨by kernel_rfl, by kernel_rfl, by kernel_rfl, by kernel_rfl, by kernel_rfl, by kernel_rfl, by kernel_rfl⟩ h3 h4

end Go.Proofs.YtkohgndmhgcgeaaGreatDoor
