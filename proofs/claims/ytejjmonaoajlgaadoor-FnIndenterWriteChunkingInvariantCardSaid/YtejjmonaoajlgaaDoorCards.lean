/-
  DERIVED. GIVEN WITH THE SEED: THE CARDS: each row of YtejjmonaoajlgaaDoorRows.lean that lists a variable, with what it lists TIED to the program's text (the seventh form; the later family's looks); each row that meets fmt, with fmt's text TOLD by the authors' own Lean function (tested against real Go, not proved from fmt's source: count such statements apart). THE CARD IS WHAT COUNTS. Prove the row's statement (the work); the ties are given (YtejjmonaoajlgaaDoorTie.lean); close each card by the builder's one call (the guide's Derived/Test/ToyasCard.lean, 'card_holds'). Laid BY PROGRAM, IN A SANDBOX (cutbox-door.mjs). By AI agents, Wed Nov 11 2026. No macro, syntax, notation, axiom, sorry.
-/
import Derived.Test.YtejjmonaoajlgaaDoorRows
import GoSem.ClaimSeven
namespace Go.Proofs.YtejjmonaoajlgaaDoor
namespace Rows

/-- THE TIED CARD OF 'n010_58.FnIndenterWriteMatchesModel'. -/
def fnIndenterWriteMatchesModelCard : Claim7 := { stood := { row := fnIndenterWriteMatchesModelRow, standIns := [], harness := (true, "0f870a299c91479930faf01b0a25b8b410e38467305bc1c3fdc42841dd33ee61"), looks := true }, kinds := [], alts := [], laidByText := true, laidKinds := [.data, .sentinel, .pinned], laidTests := true, laidLooks := .later }
def FnIndenterWriteMatchesModelCardSaid : Prop := Claim7.holds Tryd.pinned (.plain (OpenSpec.ofChange fnIndenterWriteMatchesModelSpec)) fnIndenterWriteMatchesModelCard

/-- THE TIED CARD OF 'n010_58.FnIndenterWriteChunkingInvariant'. -/
def fnIndenterWriteChunkingInvariantCard : Claim7 := { stood := { row := fnIndenterWriteChunkingInvariantRow, standIns := [], harness := (true, "0f870a299c91479930faf01b0a25b8b410e38467305bc1c3fdc42841dd33ee61"), looks := true }, kinds := [], alts := [], laidByText := true, laidKinds := [.data, .sentinel, .pinned], laidTests := true, laidLooks := .later }
def FnIndenterWriteChunkingInvariantCardSaid : Prop := Claim7.holds Tryd.pinned (.plain (OpenSpec.ofChange fnIndenterWriteChunkingInvariantSpec)) fnIndenterWriteChunkingInvariantCard

/-- THE SECOND FORM's CARD OF 'n010_58.FnIndenterWriteMatchesModel'. -/
def fnIndenterWriteMatchesModelUptoCard : Claim7 := { stood := { row := fnIndenterWriteMatchesModelUptoRow, standIns := [], harness := (true, "0f870a299c91479930faf01b0a25b8b410e38467305bc1c3fdc42841dd33ee61"), looks := true }, kinds := [], alts := [], laidByText := true, laidKinds := [.data, .sentinel, .pinned], laidTests := true, laidLooks := .later }
def FnIndenterWriteMatchesModelUptoCardSaid : Prop := Claim7.holds Tryd.pinned (.plain (OpenSpec.upto fnIndenterWriteMatchesModelSpec)) fnIndenterWriteMatchesModelUptoCard

/-- THE SECOND FORM's CARD OF 'n010_58.FnIndenterWriteChunkingInvariant'. -/
def fnIndenterWriteChunkingInvariantUptoCard : Claim7 := { stood := { row := fnIndenterWriteChunkingInvariantUptoRow, standIns := [], harness := (true, "0f870a299c91479930faf01b0a25b8b410e38467305bc1c3fdc42841dd33ee61"), looks := true }, kinds := [], alts := [], laidByText := true, laidKinds := [.data, .sentinel, .pinned], laidTests := true, laidLooks := .later }
def FnIndenterWriteChunkingInvariantUptoCardSaid : Prop := Claim7.holds Tryd.pinned (.plain (OpenSpec.upto fnIndenterWriteChunkingInvariantSpec)) fnIndenterWriteChunkingInvariantUptoCard
end Rows
end Go.Proofs.YtejjmonaoajlgaaDoor
