/-
  A fresh parser: NewParser with no options, and n010_110's fresh lexer over a byte slice.
-/
import Derived.Test.YtpkgpkklgkpbfaaFmtByt
import Derived.Test.YtpkgpkklgkpbfaaFmtLexD
namespace Go.Proofs.YtpkgpkklgkpbfaaFmt
open Go.RowKit

theorem newreader (w : World) (A : Option Addr) (n c : Nat) :
    Calls Tryf.prog 13 #[.slice A n c] w fun e w' => e = .returned (.pointer (some ⟨w.heap.size, 0, none⟩)) ∧ w' = w.alloc (.cells #[.slice A n c, .int .i64 0, .int .i64 (-1)] 66) := by
  go_enter Tryf.func13, Tryf.ntmps13
  go_wp2
  go_ret
  exact ⟨rfl, rfl⟩

def Pc.new : Pc := { Pc.zero with lang := .int .i64 1 }
set_option maxRecDepth 100000 in
theorem built_new : Tryf.prog.built 54 [(19, .int .i64 1)] = some Pc.new.list.toArray := by kernel_rfl

theorem wpList_parser_new {w : World} {ops : Array Oper} {rest : List Oper} {o : Oper} {a : Act} {Q : Exit → Act → World → Prop} (hgd : o.guard = none)
    (ho : o.op = .build 54 #[(19, .const (.int .i64 1))]) (h : wpList Tryf.prog ops Q rest (a.put o.dst (.agg Pc.new.list.toArray)) w) : wpList Tryf.prog ops Q (o :: rest) a w := by
  refine wpList_plain hgd fun K hK => ?_
  have e : (Tryf.prog.built 54 ((#[(19, .const (.int .i64 1))] : Array (Nat × Operand)).map fun (i, x) => (i, a.eval x)).toList) = some Pc.new.list.toArray := by
    have e2 : ((#[(19, .const (.int .i64 1))] : Array (Nat × Operand)).map fun (i, x) => (i, a.eval x)).toList = [(19, .int .i64 1)] := by simp; rfl
    rw [e2]
    exact built_new
  refine wp_build _ _ ho (by rw [e]; rfl) (hK _ _ ?_)
  rw [e]
  exact h

set_option maxRecDepth 100000 in
theorem newparser (w : World) :
    Calls Tryf.prog 12 #[.slice none 0 0] w fun e w' => e = .returned (.pointer (some ⟨w.heap.size, 0, none⟩)) ∧ PB w' w.heap.size Pc.new ∧ Kept [] w w' ∧ w'.heap.size = w.heap.size + 1 := by
  go_enter Tryf.func12, Tryf.ntmps12
  go_wp2_with (refine wpList_parser_new rfl rfl ?_)
  refine wp_loop_once ?_
  go_wp2_with fail
  go_ret
  exact ⟨rfl, ⟨heap_alloc_new _ _, by simp [Pc.new, Pc.zero], by simp [Pc.new, Pc.zero]⟩, (Kept.refl _ _).alloc _, by simp⟩

/-- A fresh lexer: its parser at pb, its reader at rb, its file at fb; ob levels of backquotes open. -/
def Pc.lexer (pb rb fb : Nat) (ob : Int) : Pc := { Pc.new with src := .iface 32 (.pointer (some ⟨rb, 0, none⟩)), f := .pointer (some ⟨fb, 0, none⟩), line := .int .i64 1, col := .int .i64 1, quote := .int .u32 1, openBquotes := .int .i64 ob, curComs := .pointer (some ⟨pb, 35, none⟩) }

theorem newlexer_end {w w1 w2 : World} {A : Option Addr} {n c : Nat} {ob : Int} {l : List UInt8} {ea : Addr} {o : Obj} (h : SrcB w A n l) (hg : w.cell? ⟨0, 0, none⟩ = some (EOFv ea)) (hk1 : Kept [] w w1) (hz : w1.heap.size = w.heap.size + 1)
    (hp : PB w2 w.heap.size (Pc.lexer w.heap.size w1.heap.size (w1.heap.size + 1) ob)) (hk : Kept [w.heap.size] w1 w2) (hn : n < 10000000) (hc : n ≤ c) (hz2 : w2.heap.size = w1.heap.size) :
    Lx ((w2.alloc (.cells #[.slice A n c, .int .i64 0, .int .i64 (-1)] 66)).alloc o) (w.heap.size + 3) w.heap.size (w.heap.size + 1) ea (Pc.lexer w.heap.size (w.heap.size + 1) (w.heap.size + 2) ob) [] l 0 ∧ Kept [] w ((w2.alloc (.cells #[.slice A n c, .int .i64 0, .int .i64 (-1)] 66)).alloc o) := by
  have hgl : 0 < w.heap.size := block_lt_of_cell hg
  have hka : Kept [] w2 ((w2.alloc (.cells #[.slice A n c, .int .i64 0, .int .i64 (-1)] 66)).alloc o) := ((Kept.refl _ _).alloc _).alloc _
  have hk3 := ((hk1.weaken (S' := [w.heap.size]) (by simp)).trans (hk.trans (hka.weaken (by simp)))).weaken (S' := []) (by simp)
  have hl1 := h.1
  rw [hz] at hp
  refine ⟨{ hpb := hp.kept hka (by simp), hsrc := rfl, hbs := .inr ⟨rfl, rfl⟩, hbuf := rfl, hfit := by simp, hbsp := rfl, hrd := ?_, hne := by omega, hlt := by omega, heof := (hk3.cell (p := ⟨0, 0, none⟩) hgl (by simp)).trans hg, hg1 := by omega, hg2 := by omega }, hk3⟩
  refine ⟨A, n, c, 0, -1, l, ?_, hl1, fun h0 => ?_, by omega, hc, by omega, rfl, by omega, by simp; omega⟩
  · have e : w.heap.size + 1 = w2.heap.size := by omega
    rw [e]
    exact heap_alloc2_old _ _ _
  · obtain ⟨g, o', rfl, hg1, hcc⟩ := h.2 h0
    exact ⟨g, o', rfl, by omega, by omega, by omega, fun j x hj => (hk3.cell (p := ⟨g, o' + j, none⟩) hg1 (by simp)).trans (hcc j x hj)⟩

set_option maxRecDepth 100000 in
set_option maxHeartbeats 800000 in
theorem newlexer (w : World) (A : Option Addr) (n c : Nat) (ob : Int) (l : List UInt8) (ea : Addr) (h : SrcB w A n l) (hn : n < 10000000) (hc : n ≤ c) (hg : w.cell? ⟨0, 0, none⟩ = some (EOFv ea)) :
    Calls Tryf.prog 6 #[.slice A n c, .int .i64 ob, .bool false] w fun e w' => e = .returned (.pointer (some ⟨w.heap.size, 0, none⟩)) ∧
      Lx w' (w.heap.size + 3) w.heap.size (w.heap.size + 1) ea (Pc.lexer w.heap.size (w.heap.size + 1) (w.heap.size + 2) ob) [] l 0 ∧ Kept [] w w' := by
  have HS := Lib.hid h
  have HG := Lib.hid hg
  clear h hg
  go_enter Tryf.func6, Tryf.ntmps6
  go_wp2_with (go_at_call 12; refine (newparser _).mono ?_; rintro e w1 ⟨rfl, hp1, hk1, hz1⟩; refine Hid.out ?_)
  refine Lib.hid ?_
  have HP1 := Lib.hid hp1
  have HK1 := Lib.hid hk1
  have HZ1 := Lib.hid hz1
  have c0 := hp1.c_src
  have c1 := hp1.c_bs
  have c2 := hp1.c_bsp
  have c3 := hp1.c_r
  have c4 := hp1.c_w
  have c5 := hp1.c_f
  have c7 := hp1.c_err
  have c8 := hp1.c_readErr
  have c9 := hp1.c_readEOF
  have c10 := hp1.c_tok
  have c12 := hp1.c_offs
  have c13 := hp1.c_line
  have c14 := hp1.c_col
  have c17 := hp1.c_quote
  have c30 := hp1.c_openBquotes
  have c31 := hp1.c_openBquoteDbls
  have c36 := hp1.c_curComs
  have c87 := hp1.c_litBs
  have hf := hp1.frozen
  have hlt : w.heap.size < w1.heap.size := by omega
  clear hp1 hk1 hz1
  go_wp2_with (go_at_call 13; refine (newreader _ _ _ _).mono ?_; rintro e w2 ⟨rfl, rfl⟩)
  go_ret
  have hz := HZ1.out
  refine ⟨rfl, ?_⟩
  have hp := (((((((((((((((((HP1.out.s_src (.iface 32 (.pointer (some ⟨w1.heap.size, 0, none⟩)))).s_f (.pointer (some ⟨w1.heap.size + 1, 0, none⟩))).s_bs nilS).s_bsp (.int .u64 0)).s_offs (.int .i64 0)).s_line (.int .i64 1)).s_col (.int .i64 1)).s_r (.int .i32 0)).s_w (.int .i64 0)).s_err .nilIface).s_readErr .nilIface).s_readEOF (.bool false)).s_tok (.int .u32 0)).s_quote (.int .u32 1)).s_openBquotes (.int .i64 ob)).s_openBquoteDbls (.int .i64 0)).s_litBs nilS).s_curComs (.pointer (some ⟨w.heap.size, 35, none⟩))
  have hk : Kept [w.heap.size] w1 _ := ((((((((((((((((((Kept.refl [w.heap.size] w1).setCell (p := ⟨w.heap.size, 0, none⟩) (by simp) (.iface 32 (.pointer (some ⟨w1.heap.size, 0, none⟩)))).setCell (p := ⟨w.heap.size, 5, none⟩) (by simp) (.pointer (some ⟨w1.heap.size + 1, 0, none⟩))).setCell (p := ⟨w.heap.size, 1, none⟩) (by simp) nilS).setCell (p := ⟨w.heap.size, 2, none⟩) (by simp) (.int .u64 0)).setCell (p := ⟨w.heap.size, 12, none⟩) (by simp) (.int .i64 0)).setCell (p := ⟨w.heap.size, 13, none⟩) (by simp) (.int .i64 1)).setCell (p := ⟨w.heap.size, 14, none⟩) (by simp) (.int .i64 1)).setCell (p := ⟨w.heap.size, 3, none⟩) (by simp) (.int .i32 0)).setCell (p := ⟨w.heap.size, 4, none⟩) (by simp) (.int .i64 0)).setCell (p := ⟨w.heap.size, 7, none⟩) (by simp) .nilIface).setCell (p := ⟨w.heap.size, 8, none⟩) (by simp) .nilIface).setCell (p := ⟨w.heap.size, 9, none⟩) (by simp) (.bool false)).setCell (p := ⟨w.heap.size, 10, none⟩) (by simp) (.int .u32 0)).setCell (p := ⟨w.heap.size, 17, none⟩) (by simp) (.int .u32 1)).setCell (p := ⟨w.heap.size, 30, none⟩) (by simp) (.int .i64 ob)).setCell (p := ⟨w.heap.size, 31, none⟩) (by simp) (.int .i64 0)).setCell (p := ⟨w.heap.size, 2087, none⟩) (by simp) nilS).setCell (p := ⟨w.heap.size, 36, none⟩) (by simp) (.pointer (some ⟨w.heap.size, 35, none⟩))
  have hsz := hk.size
  exact newlexer_end HS.out HG.out HK1.out hz hp hk hn hc (by simp)
end Go.Proofs.YtpkgpkklgkpbfaaFmt
