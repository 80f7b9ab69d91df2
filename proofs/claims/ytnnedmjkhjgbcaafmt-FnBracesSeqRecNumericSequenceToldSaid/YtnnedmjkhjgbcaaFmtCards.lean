/-
  DERIVED. GIVEN WITH THE SEED: THE CARDS: each row of YtnnedmjkhjgbcaaFmtRows.lean that lists a variable, with what it lists TIED to the program's text (the seventh form; the later family's looks); each row that meets fmt, with fmt's text TOLD by the authors' own Lean function (tested against real Go, not proved from fmt's source: count such statements apart). THE CARD IS WHAT COUNTS. Prove the row's statement (the work); the ties are given (YtnnedmjkhjgbcaaFmtTie.lean); close each card by the builder's one call (the guide's Derived/Test/ToyasCard.lean, 'card_holds'). Laid BY PROGRAM, IN A SANDBOX (cutbox-door.mjs). By AI agents, Wed Nov 11 2026. No macro, syntax, notation, axiom, sorry.
-/
import Derived.Test.YtnnedmjkhjgbcaaFmtRows
import GoSem.ClaimSeven
namespace Go.Proofs.YtnnedmjkhjgbcaaFmt
namespace Rows

/-- THE TOLD AND TIED CARD OF 'n010_137.FnBracesSeqRecNumericSequence'. -/
def fnBracesSeqRecNumericSequenceCard : Claim7 := { stood := { row := fnBracesSeqRecNumericSequenceRow, standIns := [], harness := (true, "4152e86f8f167edbb36fc6e5c2e8cdc1f934b5e707d2f968eb60b6a22dcadf2c"), looks := true }, told := true, laidByText := true, laidKinds := [.data, .data, .data, .sentinel, .sentinel], laidTests := true, laidLooks := .later, goes := false }
def FnBracesSeqRecNumericSequenceToldSaid : Prop := Claim7.holds Tryf.pinned (.plain (OpenSpec.ofChange fnBracesSeqRecNumericSequenceSpec)) fnBracesSeqRecNumericSequenceCard
/-- ITS FALSE NEIGHBOUR. Refute it at one input. -/
def FnBracesSeqRecNumericSequenceToldWrongFalsely : Prop := Claim7.holds Tryf.pinned (.plain (OpenSpec.ofChange fnBracesSeqRecNumericSequenceWrong)) fnBracesSeqRecNumericSequenceCard
end Rows
end Go.Proofs.YtnnedmjkhjgbcaaFmt
