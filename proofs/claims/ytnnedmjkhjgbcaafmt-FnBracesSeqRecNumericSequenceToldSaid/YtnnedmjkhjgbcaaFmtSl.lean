/-
  The table of powers of ten, off the listed variables.
-/
import Derived.Test.YtnnedmjkhjgbcaaFmtHFr
import Derived.Test.YtnnedmjkhjgbcaaFmtSf0
import Derived.Lib.LaidU8
namespace Go.Proofs.YtnnedmjkhjgbcaaFmt
open Go.RowKit

theorem pow10_eq : (Rows.laid_internal_strconv_uint64pow10 : DataW Unit) = Lib.tabData .u64 Lib.pow10Tab := by kernel_rfl
theorem tab_of_laid5 {W : World} (h : laidMetH Tryf.prog laid5 W) : Tab W := by
  rw [MakeChecks.laidMetH_plain _ _ _ (by kernel_rfl)] at h
  have h3 : Lib.VarReads Tryf.prog W "internal/strconv.uint64pow10" (Lib.tabData .u64 Lib.pow10Tab) := pow10_eq ▸ Lib.laidMet.reads h (.tail _ (.tail _ (.head _)))
  obtain ⟨g, t, cs, fuel, p, hg, ht, hv, hd⟩ := h3
  have hg0 : Tryf.prog.globalNamed "internal/strconv.uint64pow10" = some 2 := by kernel_rfl
  obtain rfl := Option.some.inj (hg0.symm.trans hg)
  have hty : (Tryf.prog.globals[2]?).map (·.type) = some 98 := by kernel_rfl
  obtain rfl := Option.some.inj (hty.symm.trans ht)
  have hc := Lib.cells_of_tab (P := Tryf.prog) (t := 98) (e := 23) (n := 20) (k := .u64) (by kernel_rfl) (by kernel_rfl) (by kernel_rfl) (by kernel_rfl) hd
  unfold Tab Lib.TabIs
  rw [hv, ← hc]
end Go.Proofs.YtnnedmjkhjgbcaaFmt
