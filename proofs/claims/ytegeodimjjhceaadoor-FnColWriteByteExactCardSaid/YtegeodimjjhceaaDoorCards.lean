/-
  DERIVED. GIVEN WITH THE SEED: THE CARDS: each row of YtegeodimjjhceaaDoorRows.lean that lists a variable, with what it lists TIED to the program's text (the seventh form; the later family's looks); each row that meets fmt, with fmt's text TOLD by the authors' own Lean function (tested against real Go, not proved from fmt's source: count such statements apart). THE CARD IS WHAT COUNTS. Prove the row's statement (the work); the ties are given (YtegeodimjjhceaaDoorTie.lean); close each card by the builder's one call (the guide's Derived/Test/ToyasCard.lean, 'card_holds'). Laid BY PROGRAM, IN A SANDBOX (cutbox-door.mjs). By AI agents, Wed Nov 11 2026. No macro, syntax, notation, axiom, sorry.
-/
import Derived.Test.YtegeodimjjhceaaDoorRows
import GoSem.ClaimSeven
namespace Go.Proofs.YtegeodimjjhceaaDoor
namespace Rows

/-- THE TIED CARD OF 'n010_39.FnColWriteByteExact'. -/
def fnColWriteByteExactCard : Claim7 := { stood := { row := fnColWriteByteExactRow, standIns := [], harness := (true, "6cf8c83cdee4c59f7b2b2cbd50aa3cfbdc4274121bc9fe8470897700dc627a25"), looks := true }, kinds := [], alts := [], laidByText := true, laidKinds := [.sentinel], laidTests := true, laidLooks := .later }
def FnColWriteByteExactCardSaid : Prop := Claim7.holds Tryd.pinned (.plain (OpenSpec.ofChange fnColWriteByteExactSpec)) fnColWriteByteExactCard

/-- THE SECOND FORM's CARD OF 'n010_39.FnColWriteByteExact'. -/
def fnColWriteByteExactUptoCard : Claim7 := { stood := { row := fnColWriteByteExactUptoRow, standIns := [], harness := (true, "6cf8c83cdee4c59f7b2b2cbd50aa3cfbdc4274121bc9fe8470897700dc627a25"), looks := true }, kinds := [], alts := [], laidByText := true, laidKinds := [.sentinel], laidTests := true, laidLooks := .later }
def FnColWriteByteExactUptoCardSaid : Prop := Claim7.holds Tryd.pinned (.plain (OpenSpec.upto fnColWriteByteExactSpec)) fnColWriteByteExactUptoCard
end Rows
end Go.Proofs.YtegeodimjjhceaaDoor
