/-
  Proved: what the listed tables of the row give the walk: the decoder's two tables. No statement of the seat stands here.
-/
import Derived.Test.YtgfiigonjleeeaaFmtLaw3
import Derived.Test.YtgfiigonjleeeaaFmtRows
import Derived.ProofKit
import Derived.MakeChecks
import Derived.Lib.LaidU8
namespace Go.Proofs.YtgfiigonjleeeaaFmt
open Go.ChangeShapes Go.WideShapes Go.ChangeAt Go.RowKit
theorem first_eq : (Rows.laid_unicode_utf8_first : DataW Unit) = Lib.firstData := by kernel_rfl
theorem accept_eq : (Rows.laid_unicode_utf8_acceptRanges : DataW Unit) = Lib.acceptData := by kernel_rfl
theorem of_laid {W : World} (h : laidMetH Tryf.prog Rows.fnPseudoClassEmptyArgsIsBareNamePlusParensRow.laid W) : Lib.Utf8Tabs 1 2 W := by
  rw [MakeChecks.laidMetH_plain _ _ _ (by kernel_rfl)] at h
  have h1 := Lib.laidMet.reads (n := "unicode/utf8.first") (d := Rows.laid_unicode_utf8_first) h (by simp [Rows.fnPseudoClassEmptyArgsIsBareNamePlusParensRow])
  have h2 := Lib.laidMet.reads (n := "unicode/utf8.acceptRanges") (d := Rows.laid_unicode_utf8_acceptRanges) h (by simp [Rows.fnPseudoClassEmptyArgsIsBareNamePlusParensRow])
  rw [first_eq] at h1
  rw [accept_eq] at h2
  exact utf8Tabs_of_reads (ρ := Tryf.lays197_ren) { Tryf.lays197 with } ⟨by kernel_rfl, by kernel_rfl, by kernel_rfl, by kernel_rfl, by kernel_rfl, by kernel_rfl, by kernel_rfl⟩ h1 h2
end Go.Proofs.YtgfiigonjleeeaaFmt
