/-
  The tables of unicode/utf8, off the listed variables.
-/
import Derived.Test.YtnjaeooblfihbaaFmtTFrame
import Derived.Test.YtnjaeooblfihbaaFmtMc
import Derived.Lib.LaidU8T
namespace Go.Proofs.YtnjaeooblfihbaaFmt
open Go.RowKit

def tab_ren : Go.Shelf.Ren := ⟨fun n => n, fun | 5 => 5 | 119 => 89 | 138 => 91 | 139 => 92 | n => n, fun | 3 => 1 | 4 => 2 | n => n⟩
theorem acc_eq : (Rows.laid_unicode_utf8_acceptRanges : DataW Unit) = Lib.acceptData := by kernel_rfl
theorem first_eq : (Rows.laid_unicode_utf8_first : DataW Unit) = Lib.firstData := by kernel_rfl
theorem tabs_of_laid3 {W : World} (h : laidMetH Tryf.prog laid3 W) : Tabs W := by
  rw [MakeChecks.laidMetH_plain _ _ _ (by kernel_rfl)] at h
  have h3 : Lib.VarReads Tryf.prog W "unicode/utf8.first" Lib.firstData := first_eq ▸ Lib.laidMet.reads h (.tail _ (.tail _ (.head _)))
  have h4 : Lib.VarReads Tryf.prog W "unicode/utf8.acceptRanges" Lib.acceptData := acc_eq ▸ Lib.laidMet.reads h (.head _)
  exact utf8Tabs_of_readsT (ρ := tab_ren) ⟨by kernel_rfl, by kernel_rfl, by kernel_rfl, by kernel_rfl⟩ ⟨by kernel_rfl, by kernel_rfl, by kernel_rfl, by kernel_rfl, by kernel_rfl, by kernel_rfl, by kernel_rfl⟩ h3 h4
end Go.Proofs.YtnjaeooblfihbaaFmt
