/-
  NARROWER THAN 'FOR EVERY INPUT', by the rows' own cells (each row's printed sentence says how): FnWriteEscapingTabsMatchesModel: laid · FnWriteStringMatchesIndentModel: laid · FnSinkOfChainIsVerbatim: laid · FnWriteByteMatchesIndentModel: laid · FnWriteEscapingTabsEscapesEveryTab: laid · FnWriteStringSplitAnywhere: laid · FnSinkAfterLinesKeepsOrder: laid · FnWriteByteNewlineExtendsOutput: laid.
  DERIVED. THE GIVEN ROWS OF THIS SEAT. 8 by the template 'for every input the law returns true; each argument reads behind the call as it read before'; 0 by the template 'total and deterministic' (their statements: YtekgjhediaffbaaDoorTotals.lean).
  GIVEN WITH THE SEED: the statements are not yours to turn. If you find one false, say at which input.
  Laid BY PROGRAM, IN A SANDBOX (cutbox-rows.mjs): the forced cells as the released guide's own fill.sh prints them over the translation cb9c499b6ed9ea3b… (all of the seat's roots in one cut). By AI agents, Wed Nov 11 2026. No macro, syntax, notation, axiom, sorry.
-/
import Derived.Test.YtekgjhediaffbaaDoorChecked
import GoSem.PinnedTables
import GoSem.Claim
import GoSem.ClaimJoined
import GoSem.ClaimMapViews
import Derived.JoinedTies
import Derived.KernelRfl
namespace Go.Proofs.YtekgjhediaffbaaDoor
/- THE CELL 'sum', in the pinned program and in every row, IS THE sha256 OF THE DUMP (.gsa) THAT YtekgjhediaffbaaDoorProg.lean LOADS. Nothing in Lean hashes anything: it is a label: what it is worth is what the hold of that sum in a sandbox is worth. -/
noncomputable def Tryd.pinned : Pinned := { name := "ytekgjhediaffbaadoor", sum := "cb9c499b6ed9ea3ba2460b3ab13e80b866c534714abb1b81412c2d494c700603", checked := Tryd.checked }
namespace Rows
def none {H : Type} : Left H := { results := [], args := [] }

/- WHAT THE LISTED PACKAGE-LEVEL VARIABLES READ AS WHEN THE CALL BEGINS. Each datum BY PROGRAM (the guide's laid-datum.mjs) off the statement by which the dump's own 'gosem.cut.vars' lays the variable. In a bare row this is a premise. The card (YtekgjhediaffbaaDoorCards.lean) ties it to the program's text. -/
def laid_io_ErrShortWrite {H : Type} : DataW H := .iface "*errors.errorString" (.ptr (.agg [.lit (.string [115, 104, 111, 114, 116, 32, 119, 114, 105, 116, 101])]))
def laid_unicode_utf8_acceptRanges {H : Type} : DataW H := .agg [.agg [.lit (.int .u8 128), .lit (.int .u8 191)], .agg [.lit (.int .u8 160), .lit (.int .u8 191)], .agg [.lit (.int .u8 128), .lit (.int .u8 159)], .agg [.lit (.int .u8 144), .lit (.int .u8 191)], .agg [.lit (.int .u8 128), .lit (.int .u8 143)], .agg [.lit (.int .u8 0), .lit (.int .u8 0)], .agg [.lit (.int .u8 0), .lit (.int .u8 0)], .agg [.lit (.int .u8 0), .lit (.int .u8 0)], .agg [.lit (.int .u8 0), .lit (.int .u8 0)], .agg [.lit (.int .u8 0), .lit (.int .u8 0)], .agg [.lit (.int .u8 0), .lit (.int .u8 0)], .agg [.lit (.int .u8 0), .lit (.int .u8 0)], .agg [.lit (.int .u8 0), .lit (.int .u8 0)], .agg [.lit (.int .u8 0), .lit (.int .u8 0)], .agg [.lit (.int .u8 0), .lit (.int .u8 0)], .agg [.lit (.int .u8 0), .lit (.int .u8 0)]]
/-- One of Go's own tables, pinned by name: the form's constant. -/
def laid_unicode_utf8_first : DataW Unit := Go.Pinned.utf8First

/-- 'n010_120.FnWriteEscapingTabsMatchesModel': WHATEVER THE INPUT: true; the input reads as it did. -/
def fnWriteEscapingTabsMatchesModelSpec : ChangeSpec := { name := "fnWriteEscapingTabsMatchesModel", fn := fun _ => fun
  | [d] => { results := [.lit (.bool true)], args := [d] }
  | _ => none }
def fnWriteEscapingTabsMatchesModelRow : OpenClaim := { program := "ytekgjhediaffbaadoor", sum := "cb9c499b6ed9ea3ba2460b3ab13e80b866c534714abb1b81412c2d494c700603", func := "mvdan.cc/sh/v3/n010_120.FnWriteEscapingTabsMatchesModel", spec := "fnWriteEscapingTabsMatchesModel", unfollowed := true, recurses := true, named := ["io.ErrShortWrite"], apart := false, laid := [("io.ErrShortWrite", laid_io_ErrShortWrite)] }
def FnWriteEscapingTabsMatchesModelSaid : Prop := fnWriteEscapingTabsMatchesModelRow.holds Tryd.pinned (OpenSpec.ofChange fnWriteEscapingTabsMatchesModelSpec)

/-- ITS FALSE NEIGHBOUR: 'it returns false'. Refute it at one input. -/
def fnWriteEscapingTabsMatchesModelWrong : ChangeSpec := { name := "fnWriteEscapingTabsMatchesModel", fn := fun _ => fun
  | [d] => { results := [.lit (.bool false)], args := [d] }
  | _ => none }
def FnWriteEscapingTabsMatchesModelWrongFalsely : Prop := fnWriteEscapingTabsMatchesModelRow.holds Tryd.pinned (OpenSpec.ofChange fnWriteEscapingTabsMatchesModelWrong)

/-- 'n010_120.FnWriteStringMatchesIndentModel': WHATEVER THE INPUT: true; the input reads as it did. -/
def fnWriteStringMatchesIndentModelSpec : ChangeSpec := { name := "fnWriteStringMatchesIndentModel", fn := fun _ => fun
  | [d1, d2] => { results := [.lit (.bool true)], args := [d1, d2] }
  | _ => none }
def fnWriteStringMatchesIndentModelRow : OpenClaim := { program := "ytekgjhediaffbaadoor", sum := "cb9c499b6ed9ea3ba2460b3ab13e80b866c534714abb1b81412c2d494c700603", func := "mvdan.cc/sh/v3/n010_120.FnWriteStringMatchesIndentModel", spec := "fnWriteStringMatchesIndentModel", unfollowed := true, recurses := true, named := ["unicode/utf8.first", "unicode/utf8.acceptRanges", "io.ErrShortWrite"], apart := false, laid := [("unicode/utf8.acceptRanges", laid_unicode_utf8_acceptRanges), ("io.ErrShortWrite", laid_io_ErrShortWrite), ("unicode/utf8.first", laid_unicode_utf8_first)] }
def FnWriteStringMatchesIndentModelSaid : Prop := fnWriteStringMatchesIndentModelRow.holds Tryd.pinned (OpenSpec.ofChange fnWriteStringMatchesIndentModelSpec)

/-- ITS FALSE NEIGHBOUR: 'it returns false'. Refute it at one input. -/
def fnWriteStringMatchesIndentModelWrong : ChangeSpec := { name := "fnWriteStringMatchesIndentModel", fn := fun _ => fun
  | [d1, d2] => { results := [.lit (.bool false)], args := [d1, d2] }
  | _ => none }
def FnWriteStringMatchesIndentModelWrongFalsely : Prop := fnWriteStringMatchesIndentModelRow.holds Tryd.pinned (OpenSpec.ofChange fnWriteStringMatchesIndentModelWrong)

/-- 'n010_120.FnSinkOfChainIsVerbatim': WHATEVER THE INPUT: true; the input reads as it did. -/
def fnSinkOfChainIsVerbatimSpec : ChangeSpec := { name := "fnSinkOfChainIsVerbatim", fn := fun _ => fun
  | [d1, d2] => { results := [.lit (.bool true)], args := [d1, d2] }
  | _ => none }
def fnSinkOfChainIsVerbatimRow : OpenClaim := { program := "ytekgjhediaffbaadoor", sum := "cb9c499b6ed9ea3ba2460b3ab13e80b866c534714abb1b81412c2d494c700603", func := "mvdan.cc/sh/v3/n010_120.FnSinkOfChainIsVerbatim", spec := "fnSinkOfChainIsVerbatim", unfollowed := true, recurses := true, named := ["io.ErrShortWrite"], apart := false, laid := [("io.ErrShortWrite", laid_io_ErrShortWrite)] }
def FnSinkOfChainIsVerbatimSaid : Prop := fnSinkOfChainIsVerbatimRow.holds Tryd.pinned (OpenSpec.ofChange fnSinkOfChainIsVerbatimSpec)

/-- ITS FALSE NEIGHBOUR: 'it returns false'. Refute it at one input. -/
def fnSinkOfChainIsVerbatimWrong : ChangeSpec := { name := "fnSinkOfChainIsVerbatim", fn := fun _ => fun
  | [d1, d2] => { results := [.lit (.bool false)], args := [d1, d2] }
  | _ => none }
def FnSinkOfChainIsVerbatimWrongFalsely : Prop := fnSinkOfChainIsVerbatimRow.holds Tryd.pinned (OpenSpec.ofChange fnSinkOfChainIsVerbatimWrong)

/-- 'n010_120.FnWriteByteMatchesIndentModel': WHATEVER THE INPUT: true; the input reads as it did. -/
def fnWriteByteMatchesIndentModelSpec : ChangeSpec := { name := "fnWriteByteMatchesIndentModel", fn := fun _ => fun
  | [d1, d2] => { results := [.lit (.bool true)], args := [d1, d2] }
  | _ => none }
def fnWriteByteMatchesIndentModelRow : OpenClaim := { program := "ytekgjhediaffbaadoor", sum := "cb9c499b6ed9ea3ba2460b3ab13e80b866c534714abb1b81412c2d494c700603", func := "mvdan.cc/sh/v3/n010_120.FnWriteByteMatchesIndentModel", spec := "fnWriteByteMatchesIndentModel", unfollowed := true, recurses := true, named := ["unicode/utf8.first", "unicode/utf8.acceptRanges", "io.ErrShortWrite"], apart := false, laid := [("unicode/utf8.acceptRanges", laid_unicode_utf8_acceptRanges), ("io.ErrShortWrite", laid_io_ErrShortWrite), ("unicode/utf8.first", laid_unicode_utf8_first)] }
def FnWriteByteMatchesIndentModelSaid : Prop := fnWriteByteMatchesIndentModelRow.holds Tryd.pinned (OpenSpec.ofChange fnWriteByteMatchesIndentModelSpec)

/-- ITS FALSE NEIGHBOUR: 'it returns false'. Refute it at one input. -/
def fnWriteByteMatchesIndentModelWrong : ChangeSpec := { name := "fnWriteByteMatchesIndentModel", fn := fun _ => fun
  | [d1, d2] => { results := [.lit (.bool false)], args := [d1, d2] }
  | _ => none }
def FnWriteByteMatchesIndentModelWrongFalsely : Prop := fnWriteByteMatchesIndentModelRow.holds Tryd.pinned (OpenSpec.ofChange fnWriteByteMatchesIndentModelWrong)

/-- 'n010_120.FnWriteEscapingTabsEscapesEveryTab': WHATEVER THE INPUT: true; the input reads as it did. -/
def fnWriteEscapingTabsEscapesEveryTabSpec : ChangeSpec := { name := "fnWriteEscapingTabsEscapesEveryTab", fn := fun _ => fun
  | [d] => { results := [.lit (.bool true)], args := [d] }
  | _ => none }
def fnWriteEscapingTabsEscapesEveryTabRow : OpenClaim := { program := "ytekgjhediaffbaadoor", sum := "cb9c499b6ed9ea3ba2460b3ab13e80b866c534714abb1b81412c2d494c700603", func := "mvdan.cc/sh/v3/n010_120.FnWriteEscapingTabsEscapesEveryTab", spec := "fnWriteEscapingTabsEscapesEveryTab", unfollowed := true, recurses := true, named := ["io.ErrShortWrite"], apart := false, laid := [("io.ErrShortWrite", laid_io_ErrShortWrite)] }
def FnWriteEscapingTabsEscapesEveryTabSaid : Prop := fnWriteEscapingTabsEscapesEveryTabRow.holds Tryd.pinned (OpenSpec.ofChange fnWriteEscapingTabsEscapesEveryTabSpec)

/-- ITS FALSE NEIGHBOUR: 'it returns false'. Refute it at one input. -/
def fnWriteEscapingTabsEscapesEveryTabWrong : ChangeSpec := { name := "fnWriteEscapingTabsEscapesEveryTab", fn := fun _ => fun
  | [d] => { results := [.lit (.bool false)], args := [d] }
  | _ => none }
def FnWriteEscapingTabsEscapesEveryTabWrongFalsely : Prop := fnWriteEscapingTabsEscapesEveryTabRow.holds Tryd.pinned (OpenSpec.ofChange fnWriteEscapingTabsEscapesEveryTabWrong)

/-- 'n010_120.FnWriteStringSplitAnywhere': WHATEVER THE INPUT: true; the input reads as it did. -/
def fnWriteStringSplitAnywhereSpec : ChangeSpec := { name := "fnWriteStringSplitAnywhere", fn := fun _ => fun
  | [d1, d2, d3] => { results := [.lit (.bool true)], args := [d1, d2, d3] }
  | _ => none }
def fnWriteStringSplitAnywhereRow : OpenClaim := { program := "ytekgjhediaffbaadoor", sum := "cb9c499b6ed9ea3ba2460b3ab13e80b866c534714abb1b81412c2d494c700603", func := "mvdan.cc/sh/v3/n010_120.FnWriteStringSplitAnywhere", spec := "fnWriteStringSplitAnywhere", unfollowed := true, recurses := true, named := ["unicode/utf8.first", "unicode/utf8.acceptRanges", "io.ErrShortWrite"], apart := false, laid := [("unicode/utf8.acceptRanges", laid_unicode_utf8_acceptRanges), ("io.ErrShortWrite", laid_io_ErrShortWrite), ("unicode/utf8.first", laid_unicode_utf8_first)] }
def FnWriteStringSplitAnywhereSaid : Prop := fnWriteStringSplitAnywhereRow.holds Tryd.pinned (OpenSpec.ofChange fnWriteStringSplitAnywhereSpec)

/-- ITS FALSE NEIGHBOUR: 'it returns false'. Refute it at one input. -/
def fnWriteStringSplitAnywhereWrong : ChangeSpec := { name := "fnWriteStringSplitAnywhere", fn := fun _ => fun
  | [d1, d2, d3] => { results := [.lit (.bool false)], args := [d1, d2, d3] }
  | _ => none }
def FnWriteStringSplitAnywhereWrongFalsely : Prop := fnWriteStringSplitAnywhereRow.holds Tryd.pinned (OpenSpec.ofChange fnWriteStringSplitAnywhereWrong)

/-- 'n010_120.FnSinkAfterLinesKeepsOrder': WHATEVER THE INPUT: true; the input reads as it did. -/
def fnSinkAfterLinesKeepsOrderSpec : ChangeSpec := { name := "fnSinkAfterLinesKeepsOrder", fn := fun _ => fun
  | [d1, d2, d3, d4] => { results := [.lit (.bool true)], args := [d1, d2, d3, d4] }
  | _ => none }
def fnSinkAfterLinesKeepsOrderRow : OpenClaim := { program := "ytekgjhediaffbaadoor", sum := "cb9c499b6ed9ea3ba2460b3ab13e80b866c534714abb1b81412c2d494c700603", func := "mvdan.cc/sh/v3/n010_120.FnSinkAfterLinesKeepsOrder", spec := "fnSinkAfterLinesKeepsOrder", unfollowed := true, recurses := true, named := ["unicode/utf8.first", "unicode/utf8.acceptRanges", "io.ErrShortWrite"], apart := false, laid := [("unicode/utf8.acceptRanges", laid_unicode_utf8_acceptRanges), ("io.ErrShortWrite", laid_io_ErrShortWrite), ("unicode/utf8.first", laid_unicode_utf8_first)] }
def FnSinkAfterLinesKeepsOrderSaid : Prop := fnSinkAfterLinesKeepsOrderRow.holds Tryd.pinned (OpenSpec.ofChange fnSinkAfterLinesKeepsOrderSpec)

/-- ITS FALSE NEIGHBOUR: 'it returns false'. Refute it at one input. -/
def fnSinkAfterLinesKeepsOrderWrong : ChangeSpec := { name := "fnSinkAfterLinesKeepsOrder", fn := fun _ => fun
  | [d1, d2, d3, d4] => { results := [.lit (.bool false)], args := [d1, d2, d3, d4] }
  | _ => none }
def FnSinkAfterLinesKeepsOrderWrongFalsely : Prop := fnSinkAfterLinesKeepsOrderRow.holds Tryd.pinned (OpenSpec.ofChange fnSinkAfterLinesKeepsOrderWrong)

/-- 'n010_120.FnWriteByteNewlineExtendsOutput': WHATEVER THE INPUT: true; the input reads as it did. -/
def fnWriteByteNewlineExtendsOutputSpec : ChangeSpec := { name := "fnWriteByteNewlineExtendsOutput", fn := fun _ => fun
  | [d1, d2] => { results := [.lit (.bool true)], args := [d1, d2] }
  | _ => none }
def fnWriteByteNewlineExtendsOutputRow : OpenClaim := { program := "ytekgjhediaffbaadoor", sum := "cb9c499b6ed9ea3ba2460b3ab13e80b866c534714abb1b81412c2d494c700603", func := "mvdan.cc/sh/v3/n010_120.FnWriteByteNewlineExtendsOutput", spec := "fnWriteByteNewlineExtendsOutput", unfollowed := true, recurses := true, named := ["unicode/utf8.first", "unicode/utf8.acceptRanges", "io.ErrShortWrite"], apart := false, laid := [("unicode/utf8.acceptRanges", laid_unicode_utf8_acceptRanges), ("io.ErrShortWrite", laid_io_ErrShortWrite), ("unicode/utf8.first", laid_unicode_utf8_first)] }
def FnWriteByteNewlineExtendsOutputSaid : Prop := fnWriteByteNewlineExtendsOutputRow.holds Tryd.pinned (OpenSpec.ofChange fnWriteByteNewlineExtendsOutputSpec)

/-- ITS FALSE NEIGHBOUR: 'it returns false'. Refute it at one input. -/
def fnWriteByteNewlineExtendsOutputWrong : ChangeSpec := { name := "fnWriteByteNewlineExtendsOutput", fn := fun _ => fun
  | [d1, d2] => { results := [.lit (.bool false)], args := [d1, d2] }
  | _ => none }
def FnWriteByteNewlineExtendsOutputWrongFalsely : Prop := fnWriteByteNewlineExtendsOutputRow.holds Tryd.pinned (OpenSpec.ofChange fnWriteByteNewlineExtendsOutputWrong)

/- THE SECOND FORM. 'bulk': how many values and letters a reading holds, each counted each time it is reached (what is shared counts as often as it is met; a slice's spare places count too). A statement '..UptoSaid' is the law's where the arguments, and the package variables that the reading takes, are together of bulk at most 1048576: NARROWER than '..Said'. Prove '..Said' where nothing that the law and all that it calls make is longer than what came in: it says more and counts as full. Else prove '..UptoSaid'. A law counts once. -/
mutual
def uptoBulk {H : Type} : DataW H → Nat
  | .lit (.string bytes) => bytes.length + 1
  | .lit _ => 1
  | .nil => 1
  | .ptr d => uptoBulk d + 1
  | .slice elems spare => uptoBulkAll elems + uptoBulkAll spare + 1
  | .agg parts => uptoBulkAll parts + 1
  | .iface _ d => uptoBulk d + 1
  | .map entries => uptoBulkEntries entries + 1
  | .held _ => 1
def uptoBulkAll {H : Type} : List (DataW H) → Nat
  | [] => 0
  | d :: r => uptoBulk d + uptoBulkAll r
def uptoBulkEntries {H : Type} : List (Lit × DataW H) → Nat
  | [] => 0
  | x :: r => uptoBulkEntry x + uptoBulkEntries r
def uptoBulkEntry {H : Type} : Lit × DataW H → Nat
  | (.string bytes, d) => bytes.length + uptoBulk d + 1
  | (_, d) => uptoBulk d + 1
 end
def uptoSmall : (H : Type) → List (DataW H) → Bool := fun _ ds => decide (uptoBulkAll ds ≤ 1048576)
def OpenSpec.upto (s : _root_.Go.ChangeSpec) : _root_.Go.OpenSpec := { _root_.Go.OpenSpec.ofChange s with cond := some uptoSmall }

/-- 'n010_120.FnWriteEscapingTabsMatchesModel', WHERE WHAT IT READS IS OF BULK AT MOST 1048576: true; the input reads as it did. -/
def fnWriteEscapingTabsMatchesModelUptoRow : OpenClaim := { program := "ytekgjhediaffbaadoor", sum := "cb9c499b6ed9ea3ba2460b3ab13e80b866c534714abb1b81412c2d494c700603", func := "mvdan.cc/sh/v3/n010_120.FnWriteEscapingTabsMatchesModel", spec := "fnWriteEscapingTabsMatchesModel", unfollowed := true, recurses := true, named := ["io.ErrShortWrite"], apart := false, laid := [("io.ErrShortWrite", laid_io_ErrShortWrite)], narrowed := true }
def FnWriteEscapingTabsMatchesModelUptoSaid : Prop := fnWriteEscapingTabsMatchesModelUptoRow.holds Tryd.pinned (OpenSpec.upto fnWriteEscapingTabsMatchesModelSpec)

/-- 'n010_120.FnWriteStringMatchesIndentModel', WHERE WHAT IT READS IS OF BULK AT MOST 1048576: true; the input reads as it did. -/
def fnWriteStringMatchesIndentModelUptoRow : OpenClaim := { program := "ytekgjhediaffbaadoor", sum := "cb9c499b6ed9ea3ba2460b3ab13e80b866c534714abb1b81412c2d494c700603", func := "mvdan.cc/sh/v3/n010_120.FnWriteStringMatchesIndentModel", spec := "fnWriteStringMatchesIndentModel", unfollowed := true, recurses := true, named := ["unicode/utf8.first", "unicode/utf8.acceptRanges", "io.ErrShortWrite"], apart := false, laid := [("unicode/utf8.acceptRanges", laid_unicode_utf8_acceptRanges), ("io.ErrShortWrite", laid_io_ErrShortWrite), ("unicode/utf8.first", laid_unicode_utf8_first)], narrowed := true }
def FnWriteStringMatchesIndentModelUptoSaid : Prop := fnWriteStringMatchesIndentModelUptoRow.holds Tryd.pinned (OpenSpec.upto fnWriteStringMatchesIndentModelSpec)

/-- 'n010_120.FnSinkOfChainIsVerbatim', WHERE WHAT IT READS IS OF BULK AT MOST 1048576: true; the input reads as it did. -/
def fnSinkOfChainIsVerbatimUptoRow : OpenClaim := { program := "ytekgjhediaffbaadoor", sum := "cb9c499b6ed9ea3ba2460b3ab13e80b866c534714abb1b81412c2d494c700603", func := "mvdan.cc/sh/v3/n010_120.FnSinkOfChainIsVerbatim", spec := "fnSinkOfChainIsVerbatim", unfollowed := true, recurses := true, named := ["io.ErrShortWrite"], apart := false, laid := [("io.ErrShortWrite", laid_io_ErrShortWrite)], narrowed := true }
def FnSinkOfChainIsVerbatimUptoSaid : Prop := fnSinkOfChainIsVerbatimUptoRow.holds Tryd.pinned (OpenSpec.upto fnSinkOfChainIsVerbatimSpec)

/-- 'n010_120.FnWriteByteMatchesIndentModel', WHERE WHAT IT READS IS OF BULK AT MOST 1048576: true; the input reads as it did. -/
def fnWriteByteMatchesIndentModelUptoRow : OpenClaim := { program := "ytekgjhediaffbaadoor", sum := "cb9c499b6ed9ea3ba2460b3ab13e80b866c534714abb1b81412c2d494c700603", func := "mvdan.cc/sh/v3/n010_120.FnWriteByteMatchesIndentModel", spec := "fnWriteByteMatchesIndentModel", unfollowed := true, recurses := true, named := ["unicode/utf8.first", "unicode/utf8.acceptRanges", "io.ErrShortWrite"], apart := false, laid := [("unicode/utf8.acceptRanges", laid_unicode_utf8_acceptRanges), ("io.ErrShortWrite", laid_io_ErrShortWrite), ("unicode/utf8.first", laid_unicode_utf8_first)], narrowed := true }
def FnWriteByteMatchesIndentModelUptoSaid : Prop := fnWriteByteMatchesIndentModelUptoRow.holds Tryd.pinned (OpenSpec.upto fnWriteByteMatchesIndentModelSpec)

/-- 'n010_120.FnWriteEscapingTabsEscapesEveryTab', WHERE WHAT IT READS IS OF BULK AT MOST 1048576: true; the input reads as it did. -/
def fnWriteEscapingTabsEscapesEveryTabUptoRow : OpenClaim := { program := "ytekgjhediaffbaadoor", sum := "cb9c499b6ed9ea3ba2460b3ab13e80b866c534714abb1b81412c2d494c700603", func := "mvdan.cc/sh/v3/n010_120.FnWriteEscapingTabsEscapesEveryTab", spec := "fnWriteEscapingTabsEscapesEveryTab", unfollowed := true, recurses := true, named := ["io.ErrShortWrite"], apart := false, laid := [("io.ErrShortWrite", laid_io_ErrShortWrite)], narrowed := true }
def FnWriteEscapingTabsEscapesEveryTabUptoSaid : Prop := fnWriteEscapingTabsEscapesEveryTabUptoRow.holds Tryd.pinned (OpenSpec.upto fnWriteEscapingTabsEscapesEveryTabSpec)

/-- 'n010_120.FnWriteStringSplitAnywhere', WHERE WHAT IT READS IS OF BULK AT MOST 1048576: true; the input reads as it did. -/
def fnWriteStringSplitAnywhereUptoRow : OpenClaim := { program := "ytekgjhediaffbaadoor", sum := "cb9c499b6ed9ea3ba2460b3ab13e80b866c534714abb1b81412c2d494c700603", func := "mvdan.cc/sh/v3/n010_120.FnWriteStringSplitAnywhere", spec := "fnWriteStringSplitAnywhere", unfollowed := true, recurses := true, named := ["unicode/utf8.first", "unicode/utf8.acceptRanges", "io.ErrShortWrite"], apart := false, laid := [("unicode/utf8.acceptRanges", laid_unicode_utf8_acceptRanges), ("io.ErrShortWrite", laid_io_ErrShortWrite), ("unicode/utf8.first", laid_unicode_utf8_first)], narrowed := true }
def FnWriteStringSplitAnywhereUptoSaid : Prop := fnWriteStringSplitAnywhereUptoRow.holds Tryd.pinned (OpenSpec.upto fnWriteStringSplitAnywhereSpec)

/-- 'n010_120.FnSinkAfterLinesKeepsOrder', WHERE WHAT IT READS IS OF BULK AT MOST 1048576: true; the input reads as it did. -/
def fnSinkAfterLinesKeepsOrderUptoRow : OpenClaim := { program := "ytekgjhediaffbaadoor", sum := "cb9c499b6ed9ea3ba2460b3ab13e80b866c534714abb1b81412c2d494c700603", func := "mvdan.cc/sh/v3/n010_120.FnSinkAfterLinesKeepsOrder", spec := "fnSinkAfterLinesKeepsOrder", unfollowed := true, recurses := true, named := ["unicode/utf8.first", "unicode/utf8.acceptRanges", "io.ErrShortWrite"], apart := false, laid := [("unicode/utf8.acceptRanges", laid_unicode_utf8_acceptRanges), ("io.ErrShortWrite", laid_io_ErrShortWrite), ("unicode/utf8.first", laid_unicode_utf8_first)], narrowed := true }
def FnSinkAfterLinesKeepsOrderUptoSaid : Prop := fnSinkAfterLinesKeepsOrderUptoRow.holds Tryd.pinned (OpenSpec.upto fnSinkAfterLinesKeepsOrderSpec)

/-- 'n010_120.FnWriteByteNewlineExtendsOutput', WHERE WHAT IT READS IS OF BULK AT MOST 1048576: true; the input reads as it did. -/
def fnWriteByteNewlineExtendsOutputUptoRow : OpenClaim := { program := "ytekgjhediaffbaadoor", sum := "cb9c499b6ed9ea3ba2460b3ab13e80b866c534714abb1b81412c2d494c700603", func := "mvdan.cc/sh/v3/n010_120.FnWriteByteNewlineExtendsOutput", spec := "fnWriteByteNewlineExtendsOutput", unfollowed := true, recurses := true, named := ["unicode/utf8.first", "unicode/utf8.acceptRanges", "io.ErrShortWrite"], apart := false, laid := [("unicode/utf8.acceptRanges", laid_unicode_utf8_acceptRanges), ("io.ErrShortWrite", laid_io_ErrShortWrite), ("unicode/utf8.first", laid_unicode_utf8_first)], narrowed := true }
def FnWriteByteNewlineExtendsOutputUptoSaid : Prop := fnWriteByteNewlineExtendsOutputUptoRow.holds Tryd.pinned (OpenSpec.upto fnWriteByteNewlineExtendsOutputSpec)

end Rows
end Go.Proofs.YtekgjhediaffbaaDoor
