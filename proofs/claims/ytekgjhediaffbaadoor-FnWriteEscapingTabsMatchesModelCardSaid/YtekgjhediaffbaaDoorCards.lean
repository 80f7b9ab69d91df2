/-
  DERIVED. GIVEN WITH THE SEED: THE CARDS: each row of YtekgjhediaffbaaDoorRows.lean that lists a variable, with what it lists TIED to the program's text (the seventh form; the later family's looks); each row that meets fmt, with fmt's text TOLD by the authors' own Lean function (tested against real Go, not proved from fmt's source: count such statements apart). THE CARD IS WHAT COUNTS. Prove the row's statement (the work); the ties are given (YtekgjhediaffbaaDoorTie.lean); close each card by the builder's one call (the guide's Derived/Test/ToyasCard.lean, 'card_holds'). Laid BY PROGRAM, IN A SANDBOX (cutbox-door.mjs). By AI agents, Wed Nov 11 2026. No macro, syntax, notation, axiom, sorry.
-/
import Derived.Test.YtekgjhediaffbaaDoorRows
import GoSem.ClaimSeven
namespace Go.Proofs.YtekgjhediaffbaaDoor
namespace Rows

/-- THE TIED CARD OF 'n010_120.FnWriteEscapingTabsMatchesModel'. -/
def fnWriteEscapingTabsMatchesModelCard : Claim7 := { stood := { row := fnWriteEscapingTabsMatchesModelRow, standIns := [], harness := (true, "578347a789a1706cd6ac49baf573ed5fce4acc05e8a0df11af3f808e2b2d75e8"), looks := true }, kinds := [], alts := [], laidByText := true, laidKinds := [.sentinel], laidTests := true, laidLooks := .later }
def FnWriteEscapingTabsMatchesModelCardSaid : Prop := Claim7.holds Tryd.pinned (.plain (OpenSpec.ofChange fnWriteEscapingTabsMatchesModelSpec)) fnWriteEscapingTabsMatchesModelCard

/-- THE TIED CARD OF 'n010_120.FnWriteStringMatchesIndentModel'. -/
def fnWriteStringMatchesIndentModelCard : Claim7 := { stood := { row := fnWriteStringMatchesIndentModelRow, standIns := [], harness := (true, "578347a789a1706cd6ac49baf573ed5fce4acc05e8a0df11af3f808e2b2d75e8"), looks := true }, kinds := [], alts := [], laidByText := true, laidKinds := [.data, .sentinel, .pinned], laidTests := true, laidLooks := .later }
def FnWriteStringMatchesIndentModelCardSaid : Prop := Claim7.holds Tryd.pinned (.plain (OpenSpec.ofChange fnWriteStringMatchesIndentModelSpec)) fnWriteStringMatchesIndentModelCard

/-- THE TIED CARD OF 'n010_120.FnSinkOfChainIsVerbatim'. -/
def fnSinkOfChainIsVerbatimCard : Claim7 := { stood := { row := fnSinkOfChainIsVerbatimRow, standIns := [], harness := (true, "578347a789a1706cd6ac49baf573ed5fce4acc05e8a0df11af3f808e2b2d75e8"), looks := true }, kinds := [], alts := [], laidByText := true, laidKinds := [.sentinel], laidTests := true, laidLooks := .later }
def FnSinkOfChainIsVerbatimCardSaid : Prop := Claim7.holds Tryd.pinned (.plain (OpenSpec.ofChange fnSinkOfChainIsVerbatimSpec)) fnSinkOfChainIsVerbatimCard

/-- THE TIED CARD OF 'n010_120.FnWriteByteMatchesIndentModel'. -/
def fnWriteByteMatchesIndentModelCard : Claim7 := { stood := { row := fnWriteByteMatchesIndentModelRow, standIns := [], harness := (true, "578347a789a1706cd6ac49baf573ed5fce4acc05e8a0df11af3f808e2b2d75e8"), looks := true }, kinds := [], alts := [], laidByText := true, laidKinds := [.data, .sentinel, .pinned], laidTests := true, laidLooks := .later }
def FnWriteByteMatchesIndentModelCardSaid : Prop := Claim7.holds Tryd.pinned (.plain (OpenSpec.ofChange fnWriteByteMatchesIndentModelSpec)) fnWriteByteMatchesIndentModelCard

/-- THE TIED CARD OF 'n010_120.FnWriteEscapingTabsEscapesEveryTab'. -/
def fnWriteEscapingTabsEscapesEveryTabCard : Claim7 := { stood := { row := fnWriteEscapingTabsEscapesEveryTabRow, standIns := [], harness := (true, "578347a789a1706cd6ac49baf573ed5fce4acc05e8a0df11af3f808e2b2d75e8"), looks := true }, kinds := [], alts := [], laidByText := true, laidKinds := [.sentinel], laidTests := true, laidLooks := .later }
def FnWriteEscapingTabsEscapesEveryTabCardSaid : Prop := Claim7.holds Tryd.pinned (.plain (OpenSpec.ofChange fnWriteEscapingTabsEscapesEveryTabSpec)) fnWriteEscapingTabsEscapesEveryTabCard

/-- THE TIED CARD OF 'n010_120.FnWriteStringSplitAnywhere'. -/
def fnWriteStringSplitAnywhereCard : Claim7 := { stood := { row := fnWriteStringSplitAnywhereRow, standIns := [], harness := (true, "578347a789a1706cd6ac49baf573ed5fce4acc05e8a0df11af3f808e2b2d75e8"), looks := true }, kinds := [], alts := [], laidByText := true, laidKinds := [.data, .sentinel, .pinned], laidTests := true, laidLooks := .later }
def FnWriteStringSplitAnywhereCardSaid : Prop := Claim7.holds Tryd.pinned (.plain (OpenSpec.ofChange fnWriteStringSplitAnywhereSpec)) fnWriteStringSplitAnywhereCard

/-- THE TIED CARD OF 'n010_120.FnSinkAfterLinesKeepsOrder'. -/
def fnSinkAfterLinesKeepsOrderCard : Claim7 := { stood := { row := fnSinkAfterLinesKeepsOrderRow, standIns := [], harness := (true, "578347a789a1706cd6ac49baf573ed5fce4acc05e8a0df11af3f808e2b2d75e8"), looks := true }, kinds := [], alts := [], laidByText := true, laidKinds := [.data, .sentinel, .pinned], laidTests := true, laidLooks := .later }
def FnSinkAfterLinesKeepsOrderCardSaid : Prop := Claim7.holds Tryd.pinned (.plain (OpenSpec.ofChange fnSinkAfterLinesKeepsOrderSpec)) fnSinkAfterLinesKeepsOrderCard

/-- THE TIED CARD OF 'n010_120.FnWriteByteNewlineExtendsOutput'. -/
def fnWriteByteNewlineExtendsOutputCard : Claim7 := { stood := { row := fnWriteByteNewlineExtendsOutputRow, standIns := [], harness := (true, "578347a789a1706cd6ac49baf573ed5fce4acc05e8a0df11af3f808e2b2d75e8"), looks := true }, kinds := [], alts := [], laidByText := true, laidKinds := [.data, .sentinel, .pinned], laidTests := true, laidLooks := .later }
def FnWriteByteNewlineExtendsOutputCardSaid : Prop := Claim7.holds Tryd.pinned (.plain (OpenSpec.ofChange fnWriteByteNewlineExtendsOutputSpec)) fnWriteByteNewlineExtendsOutputCard

/-- THE SECOND FORM's CARD OF 'n010_120.FnWriteEscapingTabsMatchesModel'. -/
def fnWriteEscapingTabsMatchesModelUptoCard : Claim7 := { stood := { row := fnWriteEscapingTabsMatchesModelUptoRow, standIns := [], harness := (true, "578347a789a1706cd6ac49baf573ed5fce4acc05e8a0df11af3f808e2b2d75e8"), looks := true }, kinds := [], alts := [], laidByText := true, laidKinds := [.sentinel], laidTests := true, laidLooks := .later }
def FnWriteEscapingTabsMatchesModelUptoCardSaid : Prop := Claim7.holds Tryd.pinned (.plain (OpenSpec.upto fnWriteEscapingTabsMatchesModelSpec)) fnWriteEscapingTabsMatchesModelUptoCard

/-- THE SECOND FORM's CARD OF 'n010_120.FnWriteStringMatchesIndentModel'. -/
def fnWriteStringMatchesIndentModelUptoCard : Claim7 := { stood := { row := fnWriteStringMatchesIndentModelUptoRow, standIns := [], harness := (true, "578347a789a1706cd6ac49baf573ed5fce4acc05e8a0df11af3f808e2b2d75e8"), looks := true }, kinds := [], alts := [], laidByText := true, laidKinds := [.data, .sentinel, .pinned], laidTests := true, laidLooks := .later }
def FnWriteStringMatchesIndentModelUptoCardSaid : Prop := Claim7.holds Tryd.pinned (.plain (OpenSpec.upto fnWriteStringMatchesIndentModelSpec)) fnWriteStringMatchesIndentModelUptoCard

/-- THE SECOND FORM's CARD OF 'n010_120.FnSinkOfChainIsVerbatim'. -/
def fnSinkOfChainIsVerbatimUptoCard : Claim7 := { stood := { row := fnSinkOfChainIsVerbatimUptoRow, standIns := [], harness := (true, "578347a789a1706cd6ac49baf573ed5fce4acc05e8a0df11af3f808e2b2d75e8"), looks := true }, kinds := [], alts := [], laidByText := true, laidKinds := [.sentinel], laidTests := true, laidLooks := .later }
def FnSinkOfChainIsVerbatimUptoCardSaid : Prop := Claim7.holds Tryd.pinned (.plain (OpenSpec.upto fnSinkOfChainIsVerbatimSpec)) fnSinkOfChainIsVerbatimUptoCard

/-- THE SECOND FORM's CARD OF 'n010_120.FnWriteByteMatchesIndentModel'. -/
def fnWriteByteMatchesIndentModelUptoCard : Claim7 := { stood := { row := fnWriteByteMatchesIndentModelUptoRow, standIns := [], harness := (true, "578347a789a1706cd6ac49baf573ed5fce4acc05e8a0df11af3f808e2b2d75e8"), looks := true }, kinds := [], alts := [], laidByText := true, laidKinds := [.data, .sentinel, .pinned], laidTests := true, laidLooks := .later }
def FnWriteByteMatchesIndentModelUptoCardSaid : Prop := Claim7.holds Tryd.pinned (.plain (OpenSpec.upto fnWriteByteMatchesIndentModelSpec)) fnWriteByteMatchesIndentModelUptoCard

/-- THE SECOND FORM's CARD OF 'n010_120.FnWriteEscapingTabsEscapesEveryTab'. -/
def fnWriteEscapingTabsEscapesEveryTabUptoCard : Claim7 := { stood := { row := fnWriteEscapingTabsEscapesEveryTabUptoRow, standIns := [], harness := (true, "578347a789a1706cd6ac49baf573ed5fce4acc05e8a0df11af3f808e2b2d75e8"), looks := true }, kinds := [], alts := [], laidByText := true, laidKinds := [.sentinel], laidTests := true, laidLooks := .later }
def FnWriteEscapingTabsEscapesEveryTabUptoCardSaid : Prop := Claim7.holds Tryd.pinned (.plain (OpenSpec.upto fnWriteEscapingTabsEscapesEveryTabSpec)) fnWriteEscapingTabsEscapesEveryTabUptoCard

/-- THE SECOND FORM's CARD OF 'n010_120.FnWriteStringSplitAnywhere'. -/
def fnWriteStringSplitAnywhereUptoCard : Claim7 := { stood := { row := fnWriteStringSplitAnywhereUptoRow, standIns := [], harness := (true, "578347a789a1706cd6ac49baf573ed5fce4acc05e8a0df11af3f808e2b2d75e8"), looks := true }, kinds := [], alts := [], laidByText := true, laidKinds := [.data, .sentinel, .pinned], laidTests := true, laidLooks := .later }
def FnWriteStringSplitAnywhereUptoCardSaid : Prop := Claim7.holds Tryd.pinned (.plain (OpenSpec.upto fnWriteStringSplitAnywhereSpec)) fnWriteStringSplitAnywhereUptoCard

/-- THE SECOND FORM's CARD OF 'n010_120.FnSinkAfterLinesKeepsOrder'. -/
def fnSinkAfterLinesKeepsOrderUptoCard : Claim7 := { stood := { row := fnSinkAfterLinesKeepsOrderUptoRow, standIns := [], harness := (true, "578347a789a1706cd6ac49baf573ed5fce4acc05e8a0df11af3f808e2b2d75e8"), looks := true }, kinds := [], alts := [], laidByText := true, laidKinds := [.data, .sentinel, .pinned], laidTests := true, laidLooks := .later }
def FnSinkAfterLinesKeepsOrderUptoCardSaid : Prop := Claim7.holds Tryd.pinned (.plain (OpenSpec.upto fnSinkAfterLinesKeepsOrderSpec)) fnSinkAfterLinesKeepsOrderUptoCard

/-- THE SECOND FORM's CARD OF 'n010_120.FnWriteByteNewlineExtendsOutput'. -/
def fnWriteByteNewlineExtendsOutputUptoCard : Claim7 := { stood := { row := fnWriteByteNewlineExtendsOutputUptoRow, standIns := [], harness := (true, "578347a789a1706cd6ac49baf573ed5fce4acc05e8a0df11af3f808e2b2d75e8"), looks := true }, kinds := [], alts := [], laidByText := true, laidKinds := [.data, .sentinel, .pinned], laidTests := true, laidLooks := .later }
def FnWriteByteNewlineExtendsOutputUptoCardSaid : Prop := Claim7.holds Tryd.pinned (.plain (OpenSpec.upto fnWriteByteNewlineExtendsOutputSpec)) fnWriteByteNewlineExtendsOutputUptoCard
end Rows
end Go.Proofs.YtekgjhediaffbaaDoor
