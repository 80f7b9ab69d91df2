/-
  What every law of this seat needs to come from its walk to its told and tied card: how the arguments read, where io.EOF lies, a start at which the three listed variables read as listed.
-/
import Derived.Test.YtnjaeooblfihbaaFmtCards
import Derived.Test.YtnjaeooblfihbaaFmtTie
import Derived.Test.YtnjaeooblfihbaaFmtByt
import Derived.Test.YtnjaeooblfihbaaFmtLexC
import Derived.ProofKit
import Derived.OpenShut
import Derived.ShutString
import Derived.ChangeOld
import Derived.LaidMore
import Derived.Stop.LaidErr
import Derived.Stop.JoinedAt
import Derived.Stop.JoinedTold
import Derived.Deep.DeepWitnessRef
import Derived.Deep.DeepHandedRow
import Derived.Deep.DeepWitnessRowRef
import Derived.SevenTiedAt
import Derived.Lay
namespace Go.Proofs.YtnjaeooblfihbaaFmt
open Go.ChangeShapes Go.WideShapes Go.ChangeAt Go.RowKit
open Go.Extern.Stop Go.Stop Go.Extern

theorem own : ownKnob Tryf.prog.godebug = none := by kernel_rfl
theorem laidOut : laidOutB Tryf.prog = true := by kernel_rfl
theorem stops_eq : Tryf.pinned.checked.prog.stops = ["fmt.Sprintf, its operands' methods called"] := by kernel_rfl
theorem stopKnobs_eq : Tryf.pinned.checked.prog.stopKnobs = [] := by kernel_rfl
theorem quiet_os (os : Os) : Stop.quiet Tryf.pinned.checked.prog os := by
  intro k hk
  rw [stopKnobs_eq] at hk
  cases hk

abbrev laid3 : List (String × DataW Unit) := [("unicode/utf8.acceptRanges", Rows.laid_unicode_utf8_acceptRanges), ("io.EOF", Rows.laid_io_EOF), ("unicode/utf8.first", Rows.laid_unicode_utf8_first)]
theorem door_met3 (os : Os) (args : Array Value) : laidMet Tryf.prog laid3 ((World.laidAll Tryf.prog os laid3).forCall (fun _ _ => 0) ⟨#[], args, []⟩).memory :=
  laidMet_laidAll _ (by kernel_rfl) (by kernel_rfl)

/-- A slice of integers that came in: nil, or a row of cells. -/
def IsRow (k : IntKind) (w : World) (a : Option Addr) (len cap : Nat) (zs : List Int) : Prop :=
  (a = none ∧ len = 0 ∧ cap = 0 ∧ zs = []) ∨
  ∃ x, a = some x ∧ len ≤ cap ∧ cap ≤ maxLen ∧ zs.length = cap ∧ (∀ i, i < zs.length → w.cell? (x.add i) = some (.int k (zs.getD i 0))) ∧ ∀ n ∈ zs, (Lit.int k n).wf = true

theorem by_of_wf {z : Int} (h : (Lit.int .u8 z).wf = true) : By (UInt8.ofNat z.toNat) = .int .u8 z := by
  have hb := bounds_u8 h
  have : (UInt8.ofNat z.toNat).toNat = z.toNat := by
    rw [UInt8.toNat_ofNat']
    omega
  unfold By
  rw [this]
  congr 1
  omega

/-- A byte slice that came in reads as a list of bytes. -/
theorem src_of_row {w : World} {a : Option Addr} {len cap : Nat} {zs : List Int} (h : IsRow .u8 w a len cap zs) :
    ∃ l, SrcB w a len l ∧ (a = none → len = 0 ∧ cap = 0) ∧ len ≤ cap ∧ cap ≤ 9223372036854775807 := by
  rcases h with ⟨rfl, rfl, rfl, rfl⟩ | ⟨x, rfl, hl, hm, hz, hcell, hwz⟩
  · exact ⟨[], ⟨rfl, fun h => absurd h (by omega)⟩, fun _ => ⟨rfl, rfl⟩, Nat.le_refl _, by omega⟩
  · unfold maxLen at hm
    refine ⟨(zs.take len).map fun z => UInt8.ofNat z.toNat, ⟨by simp; omega, fun h0 => ?_⟩, (fun h => by cases h), hl, hm⟩
    obtain ⟨b, off, spot⟩ := x
    have hc := hcell 0 (by omega)
    have hspot : spot = none := by simpa [Addr.add] using World.cell?_spot hc
    subst hspot
    refine ⟨b, off, rfl, block_lt_of_cell (by simpa [Addr.add] using hc), fun j c hj => ?_⟩
    simp only [List.getElem?_map, List.getElem?_take] at hj
    split at hj
    · rename_i hjl
      have hjz : j < zs.length := by omega
      rw [List.getElem?_eq_getElem hjz] at hj
      have e : c = UInt8.ofNat zs[j].toNat := by simpa using hj.symm
      have := hcell j hjz
      rw [addr_add] at this
      rw [this, e, by_of_wf (hwz _ (List.getElem_mem hjz))]
      simp [List.getD_eq_getElem?_getD, List.getElem?_eq_getElem hjz]
    · cases hj

theorem star : "*" ++ "errors.errorString" = "*errors.errorString" := by decide
theorem row_err (u : TypeId) (h : Tryf.prog.typeName? 3 u = some "*errors.errorString") : u = 107 :=
  typeName_ptr_named (nm := "errors.errorString") (by rw [star]; kernel_rfl) (by kernel_rfl) (by decide) u (by rw [star]; exact h)
theorem g_eof : Tryf.prog.globalNamed "io.EOF" = some 0 := by kernel_rfl
theorem g_eof_type : (Tryf.prog.globals[0]?).map (·.type) = some 47 := by kernel_rfl
theorem str_cells : Tryf.prog.cellsOf 9 = 1 := by kernel_rfl
theorem es_cells : Tryf.prog.cellsOf 157 = 1 := by kernel_rfl

/-- What the listed variables give: io.EOF is an error of errors.New's make. -/
theorem eof_of_laid3 {W : World} (h : laidMetH Tryf.prog laid3 W) : ∃ ea, W.cell? ⟨0, 0, none⟩ = some (EOFv ea) := by
  rw [MakeChecks.laidMetH_plain _ _ _ (by kernel_rfl)] at h
  obtain ⟨a, s, hv, _⟩ := laid_sentinel h.tail g_eof g_eof_type err_und row_err ptr_und Tryf.underlying157 rfl rfl Tryf.underlying9 es_cells str_cells
  refine ⟨a, ?_⟩
  have := World.var?_cell g_eof hv 0
  simpa using this
end Go.Proofs.YtnjaeooblfihbaaFmt
