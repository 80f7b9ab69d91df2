/-
  DERIVED. GIVEN WITH THE SEED: THE CARDS: each row of YtpkgpkklgkpbfaaDoorRows.lean that lists a variable, with what it lists TIED to the program's text (the seventh form; the later family's looks); each row that meets fmt, with fmt's text TOLD by the authors' own Lean function (tested against real Go, not proved from fmt's source: count such statements apart). THE CARD IS WHAT COUNTS. Prove the row's statement (the work); the ties are given (YtpkgpkklgkpbfaaDoorTie.lean); close each card by the builder's one call (the guide's Derived/Test/ToyasCard.lean, 'card_holds'). Laid BY PROGRAM, IN A SANDBOX (cutbox-door.mjs). By AI agents, Wed Nov 11 2026. No macro, syntax, notation, axiom, sorry.
-/
import Derived.Test.YtpkgpkklgkpbfaaDoorRows
import GoSem.ClaimSeven
namespace Go.Proofs.YtpkgpkklgkpbfaaDoor
namespace Rows

/-- THE TIED CARD OF 'n010_110.FnFillWindowScript'. -/
def fnFillWindowScriptCard : Claim7 := { stood := { row := fnFillWindowScriptRow, standIns := [], harness := (true, "8ac0fbd3a3d072123ac4d2dbc19fde72afd03d7e8a33ca5ea0dc075637de7dd1"), looks := true }, kinds := [], alts := [], laidByText := true, laidKinds := [.sentinel], laidTests := true, laidLooks := .later }
def FnFillWindowScriptCardSaid : Prop := Claim7.holds Tryd.pinned (.plain (OpenSpec.ofChange fnFillWindowScriptSpec)) fnFillWindowScriptCard

/-- THE TIED CARD OF 'n010_110.FnFillReadsEachByteOnce'. -/
def fnFillReadsEachByteOnceCard : Claim7 := { stood := { row := fnFillReadsEachByteOnceRow, standIns := [], harness := (true, "8ac0fbd3a3d072123ac4d2dbc19fde72afd03d7e8a33ca5ea0dc075637de7dd1"), looks := true }, kinds := [], alts := [], laidByText := true, laidKinds := [.sentinel], laidTests := true, laidLooks := .later }
def FnFillReadsEachByteOnceCardSaid : Prop := Claim7.holds Tryd.pinned (.plain (OpenSpec.ofChange fnFillReadsEachByteOnceSpec)) fnFillReadsEachByteOnceCard

/-- THE SECOND FORM's CARD OF 'n010_110.FnFillWindowScript'. -/
def fnFillWindowScriptUptoCard : Claim7 := { stood := { row := fnFillWindowScriptUptoRow, standIns := [], harness := (true, "8ac0fbd3a3d072123ac4d2dbc19fde72afd03d7e8a33ca5ea0dc075637de7dd1"), looks := true }, kinds := [], alts := [], laidByText := true, laidKinds := [.sentinel], laidTests := true, laidLooks := .later }
def FnFillWindowScriptUptoCardSaid : Prop := Claim7.holds Tryd.pinned (.plain (OpenSpec.upto fnFillWindowScriptSpec)) fnFillWindowScriptUptoCard

/-- THE SECOND FORM's CARD OF 'n010_110.FnFillReadsEachByteOnce'. -/
def fnFillReadsEachByteOnceUptoCard : Claim7 := { stood := { row := fnFillReadsEachByteOnceUptoRow, standIns := [], harness := (true, "8ac0fbd3a3d072123ac4d2dbc19fde72afd03d7e8a33ca5ea0dc075637de7dd1"), looks := true }, kinds := [], alts := [], laidByText := true, laidKinds := [.sentinel], laidTests := true, laidLooks := .later }
def FnFillReadsEachByteOnceUptoCardSaid : Prop := Claim7.holds Tryd.pinned (.plain (OpenSpec.upto fnFillReadsEachByteOnceSpec)) fnFillReadsEachByteOnceUptoCard
end Rows
end Go.Proofs.YtpkgpkklgkpbfaaDoor
