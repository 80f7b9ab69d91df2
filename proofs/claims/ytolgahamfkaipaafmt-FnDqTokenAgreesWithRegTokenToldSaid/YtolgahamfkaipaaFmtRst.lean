/-
  reset: a parser as NewParser makes it, made ready.
-/
import Derived.Test.YtolgahamfkaipaaFmtRa
import Derived.BigRegion
namespace Go.Proofs.YtolgahamfkaipaaFmt
open Go.RowKit

/-- What reset leaves of a parser. -/
def Pc.reset (p : Pc) (pb : Nat) : Pc := { p with tok := .int .u32 0, val := .string ⟨#[]⟩, eqlOffs := .int .i64 0, bs := nilS, bsp := .int .u64 0, offs := .int .i64 0, line := .int .i64 1, col := .int .i64 1, r := .int .i32 0, w := .int .i64 0, err := .nilIface, readErr := .nilIface, readEOF := .bool false, quote := .int .u32 1, forbidNested := .bool false, openNodes := .int .i64 0, recErr := .int .i64 0, heredocs := nilS, buriedHdocs := .int .i64 0, hdocStops := nilS, parsingDoc := .bool false, openBquotes := .int .i64 0, openBquoteDbls := .int .i64 0, accComs := nilS, curComs := .pointer (some ⟨pb, 35, none⟩), litBatch := nilS, wordBatch := nilS, litBs := nilS }
theorem sl54 (w : World) : (Instr.sliceAt 54 (.slice none 0 0) none (some (.int .i64 0)) none).run Tryf.prog w = .ok (.slice none 0 0) w := by kernel_rfl

set_option maxRecDepth 100000 in
set_option maxHeartbeats 1600000 in
theorem reset_new {w : World} {pb : Nat} {p : Pc} (hp : PB w pb p) (hh : p.heredocs = nilS) :
    Calls Tryf.prog 27 #[.pointer (some ⟨pb, 0, none⟩)] w fun e w' => e = .returned (.tuple #[]) ∧ PB w' pb (p.reset pb) ∧ Kept [pb] w w' ∧ w'.heap.size = w.heap.size := by
  have hf := hp.frozen
  have c10 := hp.c_tok
  have c11 := hp.c_val
  have c18 := hp.c_eqlOffs
  have c1 := hp.c_bs
  have c2 := hp.c_bsp
  have c12 := hp.c_offs
  have c13 := hp.c_line
  have c14 := hp.c_col
  have c3 := hp.c_r
  have c4 := hp.c_w
  have c7 := hp.c_err
  have c8 := hp.c_readErr
  have c9 := hp.c_readEOF
  have c17 := hp.c_quote
  have c24 := hp.c_forbidNested
  have c29 := hp.c_openNodes
  have c22 := hp.c_recErr
  have c26 : w.cell? ⟨pb, 26, none⟩ = some (.slice none 0 0) := by rw [hp.c_heredocs, hh]; rfl
  have c25 := hp.c_buriedHdocs
  have c27 := hp.c_hdocStops
  have c28 := hp.c_parsingDoc
  have c30 := hp.c_openBquotes
  have c31 := hp.c_openBquoteDbls
  have c35 := hp.c_accComs
  have c36 := hp.c_curComs
  have c37 := hp.c_litBatch
  have c38 := hp.c_wordBatch
  have c2087 := hp.c_litBs
  have q1 := fun w => sl54 w
  have H := Lib.hid hp
  clear hp hh
  go_enter Tryf.func27, Tryf.ntmps27
  go_wp2
  obtain ⟨W1, hW1⟩ : ∃ W1, W1 = ((((((((((((((((((((((((w.setCell ⟨pb, 10, none⟩ (.int .u32 0)).setCell ⟨pb, 11, none⟩ (.string ⟨#[]⟩)).setCell ⟨pb, 18, none⟩ (.int .i64 0)).setCell ⟨pb, 1, none⟩ (.slice none 0 0)).setCell ⟨pb, 2, none⟩ (.int .u64 0)).setCell ⟨pb, 12, none⟩ (.int .i64 0)).setCell ⟨pb, 13, none⟩ (.int .i64 1)).setCell ⟨pb, 14, none⟩ (.int .i64 1)).setCell ⟨pb, 3, none⟩ (.int .i32 0)).setCell ⟨pb, 4, none⟩ (.int .i64 0)).setCell ⟨pb, 7, none⟩ (.nilIface)).setCell ⟨pb, 8, none⟩ (.nilIface)).setCell ⟨pb, 9, none⟩ (.bool false)).setCell ⟨pb, 17, none⟩ (.int .u32 1)).setCell ⟨pb, 24, none⟩ (.bool false)).setCell ⟨pb, 29, none⟩ (.int .i64 0)).setCell ⟨pb, 22, none⟩ (.int .i64 0)).setCell ⟨pb, 26, none⟩ (.slice none 0 0)).setCell ⟨pb, 25, none⟩ (.int .i64 0)).setCell ⟨pb, 27, none⟩ (.slice none 0 0)).setCell ⟨pb, 28, none⟩ (.bool false)).setCell ⟨pb, 30, none⟩ (.int .i64 0)).setCell ⟨pb, 31, none⟩ (.int .i64 0)).setCell ⟨pb, 35, none⟩ (.slice none 0 0)) := ⟨_, rfl⟩
  have hp1 : PB W1 pb { p with tok := .int .u32 0, val := .string ⟨#[]⟩, eqlOffs := .int .i64 0, bs := nilS, bsp := .int .u64 0, offs := .int .i64 0, line := .int .i64 1, col := .int .i64 1, r := .int .i32 0, w := .int .i64 0, err := .nilIface, readErr := .nilIface, readEOF := .bool false, quote := .int .u32 1, forbidNested := .bool false, openNodes := .int .i64 0, recErr := .int .i64 0, heredocs := nilS, buriedHdocs := .int .i64 0, hdocStops := nilS, parsingDoc := .bool false, openBquotes := .int .i64 0, openBquoteDbls := .int .i64 0, accComs := nilS } := by rw [hW1]; exact ((((((((((((((((((((((((H.out.s_tok (.int .u32 0)).s_val (.string ⟨#[]⟩)).s_eqlOffs (.int .i64 0)).s_bs (nilS)).s_bsp (.int .u64 0)).s_offs (.int .i64 0)).s_line (.int .i64 1)).s_col (.int .i64 1)).s_r (.int .i32 0)).s_w (.int .i64 0)).s_err (.nilIface)).s_readErr (.nilIface)).s_readEOF (.bool false)).s_quote (.int .u32 1)).s_forbidNested (.bool false)).s_openNodes (.int .i64 0)).s_recErr (.int .i64 0)).s_heredocs (nilS)).s_buriedHdocs (.int .i64 0)).s_hdocStops (nilS)).s_parsingDoc (.bool false)).s_openBquotes (.int .i64 0)).s_openBquoteDbls (.int .i64 0)).s_accComs (nilS))
  have hk1 : Kept [pb] w W1 := by rw [hW1]; exact (((((((((((((((((((((((((Kept.refl _ _).setCell (p := ⟨pb, 10, none⟩) (by simp) _).setCell (p := ⟨pb, 11, none⟩) (by simp) _).setCell (p := ⟨pb, 18, none⟩) (by simp) _).setCell (p := ⟨pb, 1, none⟩) (by simp) _).setCell (p := ⟨pb, 2, none⟩) (by simp) _).setCell (p := ⟨pb, 12, none⟩) (by simp) _).setCell (p := ⟨pb, 13, none⟩) (by simp) _).setCell (p := ⟨pb, 14, none⟩) (by simp) _).setCell (p := ⟨pb, 3, none⟩) (by simp) _).setCell (p := ⟨pb, 4, none⟩) (by simp) _).setCell (p := ⟨pb, 7, none⟩) (by simp) _).setCell (p := ⟨pb, 8, none⟩) (by simp) _).setCell (p := ⟨pb, 9, none⟩) (by simp) _).setCell (p := ⟨pb, 17, none⟩) (by simp) _).setCell (p := ⟨pb, 24, none⟩) (by simp) _).setCell (p := ⟨pb, 29, none⟩) (by simp) _).setCell (p := ⟨pb, 22, none⟩) (by simp) _).setCell (p := ⟨pb, 26, none⟩) (by simp) _).setCell (p := ⟨pb, 25, none⟩) (by simp) _).setCell (p := ⟨pb, 27, none⟩) (by simp) _).setCell (p := ⟨pb, 28, none⟩) (by simp) _).setCell (p := ⟨pb, 30, none⟩) (by simp) _).setCell (p := ⟨pb, 31, none⟩) (by simp) _).setCell (p := ⟨pb, 35, none⟩) (by simp) _)
  have hz1 : W1.heap.size = w.heap.size := by rw [hW1]; simp [World.setCell]
  rw [← hW1]
  have c35 := hp1.c_accComs
  have c36 := hp1.c_curComs
  have c37 := hp1.c_litBatch
  have c38 := hp1.c_wordBatch
  have c2087 := hp1.c_litBs
  have hf1 := hp1.frozen
  have HP1 := Lib.hid hp1; have HK1 := Lib.hid hk1; have HZ1 := Lib.hid hz1
  clear hp1 hk1 hz1 hW1 c10 c11 c18 c1 c2 c12 c13 c14 c3 c4 c7 c8 c9 c17 c24 c29 c22 c26 c25 c27 c28 c30 c31 hf
  go_region
  all_goals (
    go_wp2
    go_end0)
  all_goals
    exact ⟨rfl, (((((HP1.out.s_accComs _).s_curComs _).s_litBatch _).s_wordBatch _).s_litBs _).drew, HK1.out.trans (((((((Kept.refl _ _).setCell (p := ⟨pb, 35, none⟩) (by simp) _).setCell (p := ⟨pb, 36, none⟩) (by simp) _).setCell (p := ⟨pb, 37, none⟩) (by simp) _).setCell (p := ⟨pb, 38, none⟩) (by simp) _).setCell (p := ⟨pb, 2087, none⟩) (by simp) _).drew), by simp [World.setCell]; exact HZ1.out⟩
end Go.Proofs.YtolgahamfkaipaaFmt
