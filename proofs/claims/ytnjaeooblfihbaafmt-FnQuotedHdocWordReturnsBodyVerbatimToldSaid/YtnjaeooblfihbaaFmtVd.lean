/-
  lit() and wordOne(): a literal and a word of it, off new batches.
-/
import Derived.Test.YtnjaeooblfihbaaFmtQf
import Derived.Laws.MakeOwn
namespace Go.Proofs.YtnjaeooblfihbaaFmt
open Go.RowKit

theorem row_new {w w' : World} {a : Array Value} {t : TypeId} (k : Kept [] (w.alloc (.cells a t)) w') : w'.heap[w.heap.size]? = some (.cells a t (0, 0)) := (k.block _ (by simp) (by simp)).trans (heap_alloc_new w _)

def litZ : Array Value := #[.int .u32 0, .int .u32 0, .int .u32 0, .int .u32 0, .string ⟨#[]⟩]
theorem mk_lits (w : World) : (Instr.makeSlice 55 (.int .i64 32) (.int .i64 32)).run Tryf.prog w = .ok (.slice (some ⟨w.heap.size, 0, none⟩) 32 32) (w.alloc (.cells (madeCells litZ 160) 64)) := by kernel_rfl
def wordZ : Array Value := #[.slice none 0 0, .nilIface]
theorem mk_words (w : World) : (Instr.makeSlice 56 (.int .i64 32) (.int .i64 32)).run Tryf.prog w = .ok (.slice (some ⟨w.heap.size, 0, none⟩) 32 32) (w.alloc (.cells (madeCells wordZ 64) 106)) := by kernel_rfl

set_option maxRecDepth 100000 in
set_option maxHeartbeats 1600000 in
theorem lit_new {w : World} {pb : Nat} {p : Pc} (hp : PB w pb p) (o b wd ln cl : Int) (h12 : p.offs = .int .i64 o) (h2 : p.bsp = .int .u64 b) (h4 : p.w = .int .i64 wd) (h13 : p.line = .int .i64 ln) (h14 : p.col = .int .i64 cl) (o1 : 0 ≤ o) (o2 : o ≤ 1000000000) (b1 : 0 ≤ b) (b2 : b ≤ 100000) (d1 : 0 ≤ wd) (d2 : wd ≤ 8) (l1 : 0 ≤ ln) (l2 : ln ≤ 1000000000100) (k1 : 0 ≤ cl) (k2 : cl ≤ 1000000000100)
    (hb : p.litBatch = nilS) (x y : Int) (S : ByteArray) :
    Calls Tryf.prog 39 #[.pointer (some ⟨pb, 0, none⟩), .agg #[.int .u32 x, .int .u32 y], .string S] w fun e w' => ∃ g, e = .returned (.pointer (some ⟨g, 0, none⟩)) ∧ w.heap.size ≤ g ∧ w'.cell? ⟨g, 4, none⟩ = some (.string S) ∧ (∃ v, PB w' pb { p with litBatch := v }) ∧ Kept [pb] w w' := by
  have c37 := hp.c_litBatch
  rw [hb] at c37
  have hlt := hp.lt
  have hm := mk_lits
  have fz := hp.frozen
  unfold nilS at c37
  have r0 : (madeCells litZ 160)[0]? = some (.int .u32 0) := by kernel_rfl
  have r1 : (madeCells litZ 160)[1]? = some (.int .u32 0) := by kernel_rfl
  have r2 : (madeCells litZ 160)[2]? = some (.int .u32 0) := by kernel_rfl
  have r3 : (madeCells litZ 160)[3]? = some (.int .u32 0) := by kernel_rfl
  have r4 : (madeCells litZ 160)[4]? = some (.string ⟨#[]⟩) := by kernel_rfl
  obtain ⟨R, hR⟩ : ∃ R, R = madeCells litZ 160 := ⟨_, rfl⟩
  rw [← hR] at r0 r1 r2 r3 r4
  simp only [← hR] at hm
  have HP := Lib.hid hp
  clear hp hR hb
  go_enter Tryf.func39, Tryf.ntmps39
  go_wp2_with (go_at_call 33; (refine Calls.mono (nextpos_any (p := { p with litBatch := .slice (some ⟨w.heap.size + 1, 5, none⟩) 31 31 }) (by exact ((HP.out.s_litBatch (.slice (some ⟨w.heap.size + 1, 0, none⟩) 32 32)).s_litBatch _).kept (S := []) (((Kept.refl _ _).alloc _).alloc _) (by simp)) o b wd ln cl h12 h2 h4 h13 h14 o1 o2 b1 b2 d1 d2 l1 l2 k1 k2) ?_); rintro e w2 ⟨⟨x', y', rfl⟩, hk⟩; have hpb := row_new hk; have q1 : w2.heap[w.heap.size + 1]? = some (.cells ((R.setIfInBounds 0 (.int .u32 x)).setIfInBounds 1 (.int .u32 y)) 64 (0, 0)) := (by simpa [World.setCell] using hpb); have d2' := (cell_of_row _ _ 2 _ _ _ q1).trans (show _ = some (Value.int .u32 0) by simpa using r2); have d3' := (cell_of_row _ _ 3 _ _ _ q1).trans (show _ = some (Value.int .u32 0) by simpa using r3); have d4' := (cell_of_row _ _ 4 _ _ _ q1).trans (show _ = some (Value.string ⟨#[]⟩) by simpa using r4); have ff : ∀ i, w2.frozen? ⟨w.heap.size + 1, i, none⟩ = false := fun i => frozen_of_row _ _ _ _ _ q1; have HK := Lib.hid hk; have Q1 := Lib.hid q1; clear hpb q1 hk)
  go_ret
  have hn : w.heap.size + 1 < w2.heap.size := heap_lt Q1.out
  have k3 : Kept [w.heap.size + 1] w2 (((w2.setCell ⟨w.heap.size + 1, 2, none⟩ (.int .u32 x')).setCell ⟨w.heap.size + 1, 3, none⟩ (.int .u32 y')).setCell ⟨w.heap.size + 1, 4, none⟩ (.string S)) := (((Kept.refl _ _).setCell (by simp) _).setCell (by simp) _).setCell (by simp) _
  have hpW := (((HP.out.s_litBatch (.slice (some ⟨w.heap.size + 1, 0, none⟩) 32 32)).s_litBatch (.slice (some ⟨w.heap.size + 1, 5, none⟩) 31 31)).kept (S := []) (((Kept.refl _ _).alloc (.cells #[.int .u32 x, .int .u32 y] 50)).alloc (.cells ((R.setIfInBounds 0 (.int .u32 x)).setIfInBounds 1 (.int .u32 y)) 64)) (by simp)).kept HK.out (by simp)
  have kw : Kept [pb] w w2 := ((((((Kept.refl [pb] w).setCell (by simp) _).setCell (by simp) _).alloc _).alloc _).trans (HK.out.weaken (S' := [pb]) (by simp)))
  refine ⟨_, rfl, by omega, ?_, ⟨_, hpW.kept k3 (by simp; omega)⟩, (kw.weaken (S' := [pb, w.heap.size + 1]) (by simp)).trans (k3.weaken (by simp)) |>.weaken (fun x hx => by simp at hx; rcases hx with h | h; exact .inl (by simp [h]); exact .inr (by omega))⟩
  have q2 := heap_setCell_same _ _ 2 _ _ (.int .u32 x') Q1.out
  have q3 := heap_setCell_same _ _ 3 _ _ (.int .u32 y') q2
  have q4 := heap_setCell_same _ _ 4 _ _ (.string S) q3
  rw [cell_of_row _ _ 4 _ _ _ q4]
  have hz : 4 < R.size := (Array.getElem?_eq_some_iff.1 r4).1
  simp [hz]

theorem sl_arr1 (g : Nat) (w : World) : (Instr.sliceAt 104 (.pointer (some ⟨g, 1, none⟩)) none (some (.int .i64 1)) none).run Tryf.prog w = .ok (.slice (some ⟨g, 1, none⟩) 1 1) w := by kernel_rfl

set_option maxRecDepth 100000 in
set_option maxHeartbeats 1600000 in
theorem wordone_new {w : World} {pb : Nat} {p : Pc} (hp : PB w pb p) (hb : p.wordBatch = nilS) (T : TypeId) (A : Option Addr) :
    Calls Tryf.prog 38 #[.pointer (some ⟨pb, 0, none⟩), .iface T (.pointer A)] w fun e w' => ∃ g, e = .returned (.pointer (some ⟨g, 0, none⟩)) ∧ w.heap.size ≤ g ∧ w'.cell? ⟨g, 0, none⟩ = some (.slice (some ⟨g, 1, none⟩) 1 1) ∧ w'.cell? ⟨g, 1, none⟩ = some (.iface T (.pointer A)) ∧ (∃ v, PB w' pb { p with wordBatch := v }) ∧ Kept [pb] w w' := by
  have c38 := hp.c_wordBatch
  rw [hb] at c38
  have hlt := hp.lt
  have hm := mk_words
  have hs := sl_arr1
  have fz := hp.frozen
  unfold nilS at c38
  have r0 : (madeCells wordZ 64)[0]? = some (.slice none 0 0) := by kernel_rfl
  have r1 : (madeCells wordZ 64)[1]? = some .nilIface := by kernel_rfl
  obtain ⟨R, hR⟩ : ∃ R, R = madeCells wordZ 64 := ⟨_, rfl⟩
  rw [← hR] at r0 r1
  simp only [← hR] at hm
  have z0 : 0 < R.size := (Array.getElem?_eq_some_iff.1 r0).1
  have z1 : 1 < R.size := (Array.getElem?_eq_some_iff.1 r1).1
  have HP := Lib.hid hp
  clear hp hR hb
  go_enter Tryf.func38, Tryf.ntmps38
  go_wp2_with fail
  go_ret
  have q1 : ((((w.setCell ⟨pb, 38, none⟩ (.slice (some ⟨w.heap.size, 0, none⟩) 32 32)).setCell ⟨pb, 38, none⟩ (.slice (some ⟨w.heap.size, 2, none⟩) 31 31)).alloc (.cells ((R.setIfInBounds 0 (.slice (some ⟨w.heap.size, 1, none⟩) 1 1)).setIfInBounds 1 (.iface T (.pointer A))) 106)).heap[w.heap.size]? = some (.cells ((R.setIfInBounds 0 (.slice (some ⟨w.heap.size, 1, none⟩) 1 1)).setIfInBounds 1 (.iface T (.pointer A))) 106 (0, 0))) := by
    have := heap_alloc_new ((w.setCell ⟨pb, 38, none⟩ (.slice (some ⟨w.heap.size, 0, none⟩) 32 32)).setCell ⟨pb, 38, none⟩ (.slice (some ⟨w.heap.size, 2, none⟩) 31 31)) (.cells ((R.setIfInBounds 0 (.slice (some ⟨w.heap.size, 1, none⟩) 1 1)).setIfInBounds 1 (.iface T (.pointer A))) 106)
    simpa [World.setCell] using this
  refine ⟨w.heap.size, rfl, Nat.le_refl _, ?_, ?_, ⟨_, ((HP.out.s_wordBatch (.slice (some ⟨w.heap.size, 0, none⟩) 32 32)).s_wordBatch _).kept (S := []) ((Kept.refl _ _).alloc _) (by simp)⟩, (((Kept.refl [pb] w).setCell (by simp) _).setCell (by simp) _).alloc _⟩
  · rw [cell_of_row _ _ 0 _ _ _ q1]
    simp [z0]
  · rw [cell_of_row _ _ 1 _ _ _ q1]
    simp [z1]
end Go.Proofs.YtnjaeooblfihbaaFmt
