/-
  DERIVED. GIVEN WITH THE SEED: THE CARDS: each row of YtafgbgdehpcapaaGreatFmtRows.lean that lists a variable, with what it lists TIED to the program's text (the seventh form; the later family's looks); each row that meets fmt, with fmt's text TOLD by the authors' own Lean function (tested against real Go, not proved from fmt's source: count such statements apart). THE CARD IS WHAT COUNTS. Prove the row's statement (the work); the ties are given (YtafgbgdehpcapaaGreatFmtTie.lean); close each card by the builder's one call (the guide's Derived/Test/ToyasCard.lean, 'card_holds'). Laid BY PROGRAM, IN A SANDBOX (cutbox-door.mjs). By AI agents, Wed Nov 11 2026. No macro, syntax, notation, axiom, sorry.
-/
import Derived.Test.YtafgbgdehpcapaaGreatFmtRows
import GoSem.ClaimSeven
namespace Go.Proofs.YtafgbgdehpcapaaGreatFmt
namespace Rows

/-- THE TOLD AND TIED CARD OF 'n010_137.FnBracesSeqAgreesWithBraces'. -/
def fnBracesSeqAgreesWithBracesCard : Claim7 := { stood := { row := fnBracesSeqAgreesWithBracesRow, standIns := [], harness := (true, "94d63a854c45b5f498312c1331fb52a9cc0f94e480bbeb67d7881039a22b09bf"), looks := true }, told := true, laidByText := true, laidKinds := [.data, .data, .data, .sentinel, .sentinel], laidTests := true, laidLooks := .later, goes := false }
def FnBracesSeqAgreesWithBracesToldSaid : Prop := Claim7.holds Tryz.pinned (.plain (OpenSpec.ofChange fnBracesSeqAgreesWithBracesSpec)) fnBracesSeqAgreesWithBracesCard
/-- ITS FALSE NEIGHBOUR. Refute it at one input. -/
def FnBracesSeqAgreesWithBracesToldWrongFalsely : Prop := Claim7.holds Tryz.pinned (.plain (OpenSpec.ofChange fnBracesSeqAgreesWithBracesWrong)) fnBracesSeqAgreesWithBracesCard

/-- THE TOLD AND TIED CARD OF 'n010_137.FnBracesSeqStopsAt16384'. -/
def fnBracesSeqStopsAt16384Card : Claim7 := { stood := { row := fnBracesSeqStopsAt16384Row, standIns := [], harness := (true, "94d63a854c45b5f498312c1331fb52a9cc0f94e480bbeb67d7881039a22b09bf"), looks := true }, told := true, laidByText := true, laidKinds := [.data, .data, .data, .sentinel, .sentinel], laidTests := true, laidLooks := .later, goes := false }
def FnBracesSeqStopsAt16384ToldSaid : Prop := Claim7.holds Tryz.pinned (.plain (OpenSpec.ofChange fnBracesSeqStopsAt16384Spec)) fnBracesSeqStopsAt16384Card
/-- ITS FALSE NEIGHBOUR. Refute it at one input. -/
def FnBracesSeqStopsAt16384ToldWrongFalsely : Prop := Claim7.holds Tryz.pinned (.plain (OpenSpec.ofChange fnBracesSeqStopsAt16384Wrong)) fnBracesSeqStopsAt16384Card
end Rows
end Go.Proofs.YtafgbgdehpcapaaGreatFmt
