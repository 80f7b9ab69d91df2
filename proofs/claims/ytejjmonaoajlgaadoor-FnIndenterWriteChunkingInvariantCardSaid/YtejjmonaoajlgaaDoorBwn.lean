/-
  bufio.NewWriter over a bytes.Buffer.
-/
import Derived.Test.YtejjmonaoajlgaaDoorBw
namespace Go.Proofs.YtejjmonaoajlgaaDoor
open Go.RowKit

theorem assert_w (b q : Nat) (w : World) : (Instr.typeAssert (bufV b q) 54 38 true).run Tryd.prog w = .ok (.tuple #[.pointer none, .bool false]) w := by kernel_rfl

/-- A writer that has just been made. -/
theorem wb_new (w : World) (wv : Value) : Wb ((w.alloc (.cells (zs 4096).toArray 5)).alloc (.cells (wbCells w.heap.size 0 wv).toArray 58)) (w.heap.size + 1) w.heap.size wv [] := by
  refine ⟨?_, ⟨zs 4096, ?_, List.length_replicate .., rfl⟩, by simp, by omega⟩
  · have h := heap_alloc_new (w.alloc (.cells (zs 4096).toArray 5)) (.cells (wbCells w.heap.size 0 wv).toArray 58)
    simpa using h
  · rw [Below.heap_alloc _ _ _ (by simp)]; exact heap_alloc_new _ _

set_option maxRecDepth 100000 in
theorem newwriter (w : World) (b q : Nat) :
    Calls Tryd.prog 14 #[bufV b q] w fun e w' => e = .returned (.pointer (some ⟨w.heap.size + 1, 0, none⟩)) ∧ Wb w' (w.heap.size + 1) w.heap.size (bufV b q) [] ∧ Kept [] w w' ∧ w'.heap.size = w.heap.size + 2 := by
  have q1 := fun w => assert_w b q w
  have q2 : ∀ w, (Instr.makeSlice 22 (.int .i64 4096) (.int .i64 4096)).run Tryd.prog w = .ok (.slice (some ⟨w.heap.size, 0, none⟩) 4096 4096) (w.alloc (.cells (zs 4096).toArray 5)) := fun w => make_u8 4096 (by omega) w
  have hin : Calls Tryd.prog 19 #[bufV b q, .int .i64 4096] w fun e w' => e = .returned (.pointer (some ⟨w.heap.size + 1, 0, none⟩)) ∧ Wb w' (w.heap.size + 1) w.heap.size (bufV b q) [] ∧ Kept [] w w' ∧ w'.heap.size = w.heap.size + 2 := by
    go_enter Tryd.func19, Tryd.ntmps19
    go_wp2_with fail
    go_ret
    refine ⟨by simp, ?_, ((Kept.refl _ _).alloc _).alloc _, by simp⟩
    exact wb_new w _
  have HIN := Lib.hid hin; clear hin
  go_enter Tryd.func14, Tryd.ntmps14
  go_wp2_with fail
  refine HIN.out.mono ?_
  rintro e w' ⟨rfl, h⟩
  have H := Lib.hid h; clear h
  go_wp2_with fail
  go_ret
  exact ⟨rfl, H.out⟩
end Go.Proofs.YtejjmonaoajlgaaDoor
