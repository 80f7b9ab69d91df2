/-
  DERIVED. GIVEN WITH THE SEED: THE CARDS: each row of YtbkhlidamhblbaaFmtRows.lean that lists a variable, with what it lists TIED to the program's text (the seventh form; the later family's looks); each row that meets fmt, with fmt's text TOLD by the authors' own Lean function (tested against real Go, not proved from fmt's source: count such statements apart). THE CARD IS WHAT COUNTS. Prove the row's statement (the work); the ties are given (YtbkhlidamhblbaaFmtTie.lean); close each card by the builder's one call (the guide's Derived/Test/ToyasCard.lean, 'card_holds'). Laid BY PROGRAM, IN A SANDBOX (cutbox-door.mjs). By AI agents, Wed Nov 11 2026. No macro, syntax, notation, axiom, sorry.
-/
import Derived.Test.YtbkhlidamhblbaaFmtRows
import GoSem.ClaimSeven
namespace Go.Proofs.YtbkhlidamhblbaaFmt
namespace Rows

/-- THE TOLD AND TIED CARD OF 'n010_56.FnParamNameStartLongWidensShort'. -/
def fnParamNameStartLongWidensShortCard : Claim7 := { stood := { row := fnParamNameStartLongWidensShortRow, standIns := [], harness := (true, "040a7e6e1e4273ea9b715577260d05f86317587a4f89b972feb5d32494d48e33"), looks := true }, told := true, laidByText := true, laidKinds := [.data, .sentinel, .pinned], laidTests := true, laidLooks := .later, goes := false }
def FnParamNameStartLongWidensShortToldSaid : Prop := Claim7.holds Tryf.pinned (.plain (OpenSpec.ofChange fnParamNameStartLongWidensShortSpec)) fnParamNameStartLongWidensShortCard
/-- ITS FALSE NEIGHBOUR. Refute it at one input. -/
def FnParamNameStartLongWidensShortToldWrongFalsely : Prop := Claim7.holds Tryf.pinned (.plain (OpenSpec.ofChange fnParamNameStartLongWidensShortWrong)) fnParamNameStartLongWidensShortCard
end Rows
end Go.Proofs.YtbkhlidamhblbaaFmt
