/-
  What the laws of this seat need to come from their walk to their row, where the listed variables are three: a start at which they read as listed.
-/
import Derived.Test.YtejjmonaoajlgaaDoorWFrame
import Derived.Lay
namespace Go.Proofs.YtejjmonaoajlgaaDoor
open Go.ChangeShapes Go.WideShapes Go.ChangeAt Go.RowKit
abbrev laid3 : List (String × DataW Unit) := [("unicode/utf8.acceptRanges", Rows.laid_unicode_utf8_acceptRanges), ("io.ErrShortWrite", Rows.laid_io_ErrShortWrite), ("unicode/utf8.first", Rows.laid_unicode_utf8_first)]
theorem door_met3 (os : Os) (args : Array Value) : laidMet Tryd.prog laid3 ((World.laidAll Tryd.prog os laid3).forCall (fun _ _ => 0) ⟨#[], args, []⟩).memory :=
  laidMet_laidAll _ (by kernel_rfl) (by kernel_rfl)
end Go.Proofs.YtejjmonaoajlgaaDoor
