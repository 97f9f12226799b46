/- The two tables of unicode/utf8, out of a row's list. -/
import Derived.Test.YtjpbjbcdobibbaaDoorM2
import Derived.Test.YtjpbjbcdobibbaaDoorRows
import Derived.Lib.LaidU8
set_option linter.unusedVariables false
namespace Go.Proofs.YtjpbjbcdobibbaaDoor.J
open Go.RowKit Go.Lib

theorem first_data : (Rows.laid_unicode_utf8_first : DataW Unit) = Lib.firstData := by kernel_rfl
theorem accept_data : (Rows.laid_unicode_utf8_acceptRanges : DataW Unit) = Lib.acceptData := by kernel_rfl
theorem tabs_of {W : World} (h1 : VarReads Tryd.prog W "unicode/utf8.acceptRanges" Rows.laid_unicode_utf8_acceptRanges) (h2 : VarReads Tryd.prog W "unicode/utf8.first" Rows.laid_unicode_utf8_first) : Lib.Utf8Tabs gF gA W := by
  rw [first_data] at h2
  rw [accept_data] at h1
  exact Go.Proofs.utf8Tabs_of_reads (ρ := Tryd.lays260_ren) Tryd.lays260 ⟨by kernel_rfl, by kernel_rfl, by kernel_rfl, by kernel_rfl, by kernel_rfl, by kernel_rfl, by kernel_rfl⟩ h2 h1
end Go.Proofs.YtjpbjbcdobibbaaDoor.J
