/-
  DERIVED. GIVEN WITH THE SEED: THE CARDS: each row of YtcemnjieahpcnaaFmtRows.lean that lists a variable, with what it lists TIED to the program's text (the seventh form; the later family's looks); each row that meets fmt, with fmt's text TOLD by the authors' own Lean function (tested against real Go, not proved from fmt's source: count such statements apart). THE CARD IS WHAT COUNTS. Prove the row's statement (the work); the ties are given (YtcemnjieahpcnaaFmtTie.lean); close each card by the builder's one call (the guide's Derived/Test/ToyasCard.lean, 'card_holds'). Laid BY PROGRAM, IN A SANDBOX (cutbox-door.mjs). By AI agents, Wed Nov 11 2026. No macro, syntax, notation, axiom, sorry.
-/
import Derived.Test.YtcemnjieahpcnaaFmtRows
import GoSem.ClaimSeven
namespace Go.Proofs.YtcemnjieahpcnaaFmt
namespace Rows

/-- THE TOLD AND TIED CARD OF 'n010_137.FnBracesTwoListsCartesian'. -/
def fnBracesTwoListsCartesianCard : Claim7 := { stood := { row := fnBracesTwoListsCartesianRow, standIns := [], harness := (true, "d77c4366470096f493ad8b5b70f0d20a1794640abcf1328bd09567fcc6bbf5ce"), looks := true }, told := true, laidByText := true, laidKinds := [.data, .data, .data, .sentinel, .sentinel], laidTests := true, laidLooks := .later, goes := false }
def FnBracesTwoListsCartesianToldSaid : Prop := Claim7.holds Tryf.pinned (.plain (OpenSpec.ofChange fnBracesTwoListsCartesianSpec)) fnBracesTwoListsCartesianCard
/-- ITS FALSE NEIGHBOUR. Refute it at one input. -/
def FnBracesTwoListsCartesianToldWrongFalsely : Prop := Claim7.holds Tryf.pinned (.plain (OpenSpec.ofChange fnBracesTwoListsCartesianWrong)) fnBracesTwoListsCartesianCard

/-- THE TOLD AND TIED CARD OF 'n010_137.FnBracesNestedListFlattens'. -/
def fnBracesNestedListFlattensCard : Claim7 := { stood := { row := fnBracesNestedListFlattensRow, standIns := [], harness := (true, "d77c4366470096f493ad8b5b70f0d20a1794640abcf1328bd09567fcc6bbf5ce"), looks := true }, told := true, laidByText := true, laidKinds := [.data, .data, .data, .sentinel, .sentinel], laidTests := true, laidLooks := .later, goes := false }
def FnBracesNestedListFlattensToldSaid : Prop := Claim7.holds Tryf.pinned (.plain (OpenSpec.ofChange fnBracesNestedListFlattensSpec)) fnBracesNestedListFlattensCard
/-- ITS FALSE NEIGHBOUR. Refute it at one input. -/
def FnBracesNestedListFlattensToldWrongFalsely : Prop := Claim7.holds Tryf.pinned (.plain (OpenSpec.ofChange fnBracesNestedListFlattensWrong)) fnBracesNestedListFlattensCard

/-- THE TOLD AND TIED CARD OF 'n010_137.FnBracesSeqRecNumericSequence'. -/
def fnBracesSeqRecNumericSequenceCard : Claim7 := { stood := { row := fnBracesSeqRecNumericSequenceRow, standIns := [], harness := (true, "d77c4366470096f493ad8b5b70f0d20a1794640abcf1328bd09567fcc6bbf5ce"), looks := true }, told := true, laidByText := true, laidKinds := [.data, .data, .data, .sentinel, .sentinel], laidTests := true, laidLooks := .later, goes := false }
def FnBracesSeqRecNumericSequenceToldSaid : Prop := Claim7.holds Tryf.pinned (.plain (OpenSpec.ofChange fnBracesSeqRecNumericSequenceSpec)) fnBracesSeqRecNumericSequenceCard
/-- ITS FALSE NEIGHBOUR. Refute it at one input. -/
def FnBracesSeqRecNumericSequenceToldWrongFalsely : Prop := Claim7.holds Tryf.pinned (.plain (OpenSpec.ofChange fnBracesSeqRecNumericSequenceWrong)) fnBracesSeqRecNumericSequenceCard

/-- THE TOLD AND TIED CARD OF 'n010_137.FnBracesSeqRecStopsWhenAsked'. -/
def fnBracesSeqRecStopsWhenAskedCard : Claim7 := { stood := { row := fnBracesSeqRecStopsWhenAskedRow, standIns := [], harness := (true, "d77c4366470096f493ad8b5b70f0d20a1794640abcf1328bd09567fcc6bbf5ce"), looks := true }, told := true, laidByText := true, laidKinds := [.data, .data, .data, .sentinel, .sentinel], laidTests := true, laidLooks := .later, goes := false }
def FnBracesSeqRecStopsWhenAskedToldSaid : Prop := Claim7.holds Tryf.pinned (.plain (OpenSpec.ofChange fnBracesSeqRecStopsWhenAskedSpec)) fnBracesSeqRecStopsWhenAskedCard
/-- ITS FALSE NEIGHBOUR. Refute it at one input. -/
def FnBracesSeqRecStopsWhenAskedToldWrongFalsely : Prop := Claim7.holds Tryf.pinned (.plain (OpenSpec.ofChange fnBracesSeqRecStopsWhenAskedWrong)) fnBracesSeqRecStopsWhenAskedCard
end Rows
end Go.Proofs.YtcemnjieahpcnaaFmt
