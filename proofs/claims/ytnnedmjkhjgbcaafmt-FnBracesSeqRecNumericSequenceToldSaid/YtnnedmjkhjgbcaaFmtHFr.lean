/-
  What every law of this seat needs to come from its walk to its told and tied card: how the arguments read, a start at which the listed variables read as listed.
-/
import Derived.Test.YtnnedmjkhjgbcaaFmtCards
import Derived.Test.YtnnedmjkhjgbcaaFmtTie
import Derived.Test.YtnnedmjkhjgbcaaFmtHA
import Derived.ProofKit
import Derived.OpenShut
import Derived.ShutString
import Derived.SliceStrings
import Derived.ChangeOld
import Derived.LaidMore
import Derived.Stop.LaidErr
import Derived.Stop.JoinedAt
import Derived.Stop.JoinedTold
import Derived.Deep.DeepWitnessRef
import Derived.Deep.DeepHandedRow
import Derived.Deep.DeepWitnessRowRef
import Derived.SevenTiedAt
import Derived.Lay
namespace Go.Proofs.YtnnedmjkhjgbcaaFmt
open Go.ChangeShapes Go.WideShapes Go.ChangeAt Go.RowKit
open Go.Extern.Stop Go.Stop Go.Extern

theorem own : ownKnob Tryf.prog.godebug = none := by kernel_rfl
theorem laidOut : laidOutB Tryf.prog = true := by kernel_rfl
theorem stops_eq : Tryf.pinned.checked.prog.stops = ["fmt.Sprintf"] := by kernel_rfl
theorem stopKnobs_eq : Tryf.pinned.checked.prog.stopKnobs = [] := by kernel_rfl
theorem quiet_os (os : Os) : Stop.quiet Tryf.pinned.checked.prog os := by
  intro k hk
  rw [stopKnobs_eq] at hk
  cases hk

abbrev laid5 : List (String × DataW Unit) := [("math/bits.deBruijn32tab", Rows.laid_math_bits_deBruijn32tab), ("math/bits.deBruijn64tab", Rows.laid_math_bits_deBruijn64tab), ("internal/strconv.uint64pow10", Rows.laid_internal_strconv_uint64pow10), ("strconv.ErrRange", Rows.laid_strconv_ErrRange), ("strconv.ErrSyntax", Rows.laid_strconv_ErrSyntax)]
theorem door_met5 (os : Os) (args : Array Value) : laidMet Tryf.prog laid5 ((World.laidAll Tryf.prog os laid5).forCall (fun _ _ => 0) ⟨#[], args, []⟩).memory :=
  laidMet_laidAll _ (by kernel_rfl) (by kernel_rfl)

/-- A slice of strings that came in reads as a list of strings. -/
theorem rd_of_strs {H : Type} {enc : TypeId × Value → H} {w : World} {fuel len cap : Nat} {a : Option Addr} {x : DataW H × List MemPlace} (h : DataW.trod enc Tryf.prog w 0 (fun _ => true) true fuel 38 [.slice a len cap] = some x) :
    ∃ xs : List ByteArray, RdV (fun _ => True) w (.slice a len cap) (xs.map Value.string) ∧ ∀ s ∈ xs, s.size ≤ 9223372036854775807 := by
  rcases open_strings Tryf.underlying38 Tryf.underlying9 (by kernel_rfl) h with ⟨hcs, _⟩ | ⟨x, l, c, ss, hcs, _, hl, hm, hz, _, hcell, hsz⟩
  · simp at hcs
    obtain ⟨rfl, rfl, rfl⟩ := hcs
    exact ⟨[], ⟨none, 0, rfl, Nat.le_refl _, Nat.zero_le _, fun _ => rfl, fun h => absurd h (by omega), fun h => absurd h (by simp)⟩, fun s hs => by cases hs⟩
  · simp at hcs
    obtain ⟨rfl, rfl, rfl⟩ := hcs
    simp only [if_true] at hz
    have hspot : 0 < cap → ∃ g o, x = ⟨g, o, none⟩ := fun h0 => by
      have hc := hcell 0 (by omega)
      obtain ⟨b, off, spot⟩ := x
      have hs : spot = none := by simpa [Addr.add] using World.cell?_spot hc
      subst hs
      exact ⟨b, off, rfl⟩
    have htl : (ss.take len).length = len := by rw [List.length_take, hz]; omega
    refine ⟨ss.take len, ⟨some x, cap, by rw [List.length_map, htl], by rw [List.length_map, htl]; exact hl, hm, (fun h => by cases h), fun h0 => ?_, fun h0 => ?_⟩, fun s hs => ?_⟩
    · obtain ⟨g, o, rfl⟩ := hspot h0
      exact ⟨g, o, rfl⟩
    · rw [List.length_map, htl] at h0
      obtain ⟨g, o, rfl⟩ := hspot (by omega)
      refine ⟨g, o, rfl, ?_, trivial, fun j v hj => ?_⟩
      · have hc := hcell 0 (by omega)
        exact block_lt_of_cell (by simpa [Addr.add] using hc)
      · rw [List.getElem?_map, Option.map_eq_some_iff] at hj
        obtain ⟨s, hs, rfl⟩ := hj
        rw [List.getElem?_take] at hs
        split at hs
        · have hlt : j < ss.length := (List.getElem?_eq_some_iff.1 hs).1
          have := hcell j hlt
          rw [addr_add] at this
          rw [this]
          simp [List.getD_eq_getElem?_getD, hs]
        · cases hs
    · have := hsz s (List.mem_of_mem_take hs)
      unfold maxLen at this
      omega
end Go.Proofs.YtnnedmjkhjgbcaaFmt
