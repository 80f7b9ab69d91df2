/-
  What every law of this seat needs to come from its walk to its row: how the arguments read.
-/
import Derived.Test.YtejjmonaoajlgaaDoorCards
import Derived.Test.YtejjmonaoajlgaaDoorTie
import Derived.Test.YtejjmonaoajlgaaDoorWGen
import Derived.ProofKit
import Derived.OpenShut
import Derived.ShutString
import Derived.ChangeOld
import Derived.LaidMore
import Derived.Stop.LaidErr
import Derived.Deep.DeepHandedRow
import Derived.Deep.DeepWitnessRowRef
namespace Go.Proofs.YtejjmonaoajlgaaDoor
open Go.ChangeShapes Go.WideShapes Go.ChangeAt Go.RowKit

theorem own : ownKnob Tryd.prog.godebug = none := by kernel_rfl
theorem laidOut : laidOutB Tryd.prog = true := by kernel_rfl

/-- A slice of integers that came in: nil, or a row of cells. -/
def IsRow (k : IntKind) (w : World) (a : Option Addr) (len cap : Nat) (zs : List Int) : Prop :=
  (a = none ∧ len = 0 ∧ cap = 0 ∧ zs = []) ∨
  ∃ x, a = some x ∧ len ≤ cap ∧ cap ≤ maxLen ∧ zs.length = cap ∧ (∀ i, i < zs.length → w.cell? (x.add i) = some (.int k (zs.getD i 0))) ∧ ∀ n ∈ zs, (Lit.int k n).wf = true

theorem by_of_wf {z : Int} (h : (Lit.int .u8 z).wf = true) : By (UInt8.ofNat z.toNat) = .int .u8 z := by
  have hb := bounds_u8 h
  have : (UInt8.ofNat z.toNat).toNat = z.toNat := by
    rw [UInt8.toNat_ofNat']
    omega
  unfold By
  rw [this]
  congr 1
  omega

/-- A byte slice that came in reads as a list of bytes. -/
theorem src_of_row {w : World} {a : Option Addr} {len cap : Nat} {zs : List Int} (h : IsRow .u8 w a len cap zs) :
    ∃ l, SrcB w a len l ∧ (a = none → len = 0 ∧ cap = 0) ∧ len ≤ cap ∧ cap ≤ 9223372036854775807 := by
  rcases h with ⟨rfl, rfl, rfl, rfl⟩ | ⟨x, rfl, hl, hm, hz, hcell, hwz⟩
  · exact ⟨[], ⟨rfl, fun h => absurd h (by omega)⟩, fun _ => ⟨rfl, rfl⟩, Nat.le_refl _, by omega⟩
  · unfold maxLen at hm
    refine ⟨(zs.take len).map fun z => UInt8.ofNat z.toNat, ⟨by simp; omega, fun h0 => ?_⟩, (fun h => by cases h), hl, hm⟩
    obtain ⟨b, off, spot⟩ := x
    have hc := hcell 0 (by omega)
    have hspot : spot = none := by simpa [Addr.add] using World.cell?_spot hc
    subst hspot
    refine ⟨b, off, rfl, block_lt_of_cell (by simpa [Addr.add] using hc), fun j c hj => ?_⟩
    simp only [List.getElem?_map, List.getElem?_take] at hj
    split at hj
    · rename_i hjl
      have hjz : j < zs.length := by omega
      rw [List.getElem?_eq_getElem hjz] at hj
      have e : c = UInt8.ofNat zs[j].toNat := by simpa using hj.symm
      have := hcell j hjz
      rw [addr_add] at this
      rw [this, e, by_of_wf (hwz _ (List.getElem_mem hjz))]
      simp [List.getD_eq_getElem?_getD, List.getElem?_eq_getElem hjz]
    · cases hj

theorem door_met (os : Os) (args : Array Value) : laidMet Tryd.prog [("io.ErrShortWrite", Rows.laid_io_ErrShortWrite)] ((World.doorLaid Tryd.prog 400 os).forCall (fun _ _ => 0) ⟨#[], args, []⟩).memory :=
  laidMet_of_run' 8 (by kernel_rfl) (by kernel_rfl)
end Go.Proofs.YtejjmonaoajlgaaDoor
