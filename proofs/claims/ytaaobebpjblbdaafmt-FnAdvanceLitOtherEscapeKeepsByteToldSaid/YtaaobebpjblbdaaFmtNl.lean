/-
  n010_42: a fresh parser, reset, over a byte slice, in a state and a language.
-/
import Derived.Test.YtaaobebpjblbdaaFmtRst
import Derived.Test.YtaaobebpjblbdaaFmtSl
namespace Go.Proofs.YtaaobebpjblbdaaFmt
open Go.RowKit

theorem newreader (w : World) (A : Option Addr) (n c : Nat) :
    Calls Tryf.prog 22 #[.slice A n c] w fun e w' => e = .returned (.pointer (some ⟨w.heap.size, 0, none⟩)) ∧ w' = w.alloc (.cells #[.slice A n c, .int .i64 0, .int .i64 (-1)] 69) := by
  go_enter Tryf.func22, Tryf.ntmps22
  go_wp2
  go_ret
  exact ⟨rfl, rfl⟩

def Pc.new : Pc := { Pc.zero with lang := .int .i64 1 }
set_option maxRecDepth 100000 in
theorem built_new : Tryf.prog.built 62 [(19, .int .i64 1)] = some Pc.new.list.toArray := by kernel_rfl

theorem wpList_parser_new {w : World} {ops : Array Oper} {rest : List Oper} {o : Oper} {a : Act} {Q : Exit → Act → World → Prop} (hgd : o.guard = none)
    (ho : o.op = .build 62 #[(19, .const (.int .i64 1))]) (h : wpList Tryf.prog ops Q rest (a.put o.dst (.agg Pc.new.list.toArray)) w) : wpList Tryf.prog ops Q (o :: rest) a w := by
  refine wpList_plain hgd fun K hK => ?_
  have e : (Tryf.prog.built 62 ((#[(19, .const (.int .i64 1))] : Array (Nat × Operand)).map fun (i, x) => (i, a.eval x)).toList) = some Pc.new.list.toArray := by
    have e2 : ((#[(19, .const (.int .i64 1))] : Array (Nat × Operand)).map fun (i, x) => (i, a.eval x)).toList = [(19, .int .i64 1)] := by simp; rfl
    rw [e2]
    exact built_new
  refine wp_build _ _ ho (by rw [e]; rfl) (hK _ _ ?_)
  rw [e]
  exact h

set_option maxRecDepth 100000 in
theorem newparser (w : World) :
    Calls Tryf.prog 20 #[.slice none 0 0] w fun e w' => e = .returned (.pointer (some ⟨w.heap.size, 0, none⟩)) ∧ PB w' w.heap.size Pc.new ∧ Kept [] w w' ∧ w'.heap.size = w.heap.size + 1 := by
  go_enter Tryf.func20, Tryf.ntmps20
  go_wp2_with (refine wpList_parser_new rfl rfl ?_)
  refine wp_loop_once ?_
  go_wp2_with fail
  go_ret
  exact ⟨rfl, ⟨heap_alloc_new _ _, by simp [Pc.new, Pc.zero], by simp [Pc.new, Pc.zero]⟩, (Kept.refl _ _).alloc _, by simp⟩

def Pc.q42 (pb : Nat) (qv lv : Int) : Pc := { Pc.new.reset pb with src := .iface 41 (.pointer (some ⟨pb + 1, 0, none⟩)), quote := .int .u32 qv, lang := .int .i64 lv }

theorem newlexer_end {w w1 w2 : World} {A : Option Addr} {n c : Nat} {l : List UInt8} {ea : Addr} {qv lv : Int} (h : SrcB w A n l) (hg : w.cell? ⟨0, 0, none⟩ = some (EOFv ea)) (hk1 : Kept [] w w1) (hn : n < 10000000) (hc : n ≤ c)
    (hp : PB w2 w.heap.size (Pc.q42 w.heap.size qv lv)) (hr : w2.heap[w.heap.size + 1]? = some (.cells #[.slice A n c, .int .i64 0, .int .i64 (-1)] 69 (0, 0))) (hk : Kept [w.heap.size] w1 w2) :
    LexS w2 (w.heap.size + 2) w.heap.size (w.heap.size + 1) ea (Pc.q42 w.heap.size qv lv) 0 l none 0 ∧ Kept [] w w2 := by
  have hgl : 0 < w.heap.size := block_lt_of_cell hg
  have hk3 : Kept [w.heap.size] w w2 := (hk1.weaken (by simp)).trans hk
  have hk0 : Kept [] w w2 := hk3.weaken (by simp)
  have hl1 := h.1
  have hz2 : w.heap.size + 2 ≤ w2.heap.size := heap_lt hr
  have hmd : Md w2 (w.heap.size + 2) w.heap.size (w.heap.size + 1) ea (Pc.q42 w.heap.size qv lv) [] l 0 0 l := by
    refine ⟨{ hpb := hp, hsrc := rfl, hbs := .inr ⟨rfl, rfl⟩, hbuf := rfl, hfit := by simp, hbsp := rfl, hrd := ?_, hne := by omega, hlt := by omega, heof := (hk0.cell (p := ⟨0, 0, none⟩) hgl (by simp)).trans hg, hg1 := by omega, hg2 := by omega }, .inl ⟨rfl, rfl⟩, rfl, by omega, by simp; omega, by simp, by simp⟩
    refine ⟨A, n, c, 0, -1, l, hr, hl1, fun h0 => ?_, by omega, hc, by omega, rfl, by omega, hz2⟩
    obtain ⟨g, o', rfl, hg1, hcc⟩ := h.2 h0
    exact ⟨g, o', rfl, by omega, by omega, by omega, fun j x hj => (hk0.cell (p := ⟨g, o' + j, none⟩) hg1 (by simp)).trans (hcc j x hj)⟩
  exact ⟨⟨_, 0, 1, 1, rfl, rfl, rfl, rfl, rfl, rfl, by omega, by omega, fun h => by omega, by omega, by omega, by omega, by omega, by omega, by omega, hz2, rfl, (fun l hl => by cases hl), .inl ⟨by decide, _, _, _, _, hmd⟩⟩, hk0⟩

set_option maxRecDepth 100000 in
set_option maxHeartbeats 800000 in
theorem newlexer (w : World) (A : Option Addr) (n c : Nat) (l : List UInt8) (ea : Addr) (qv lv : Int) (h : SrcB w A n l) (hn : n < 10000000) (hc : n ≤ c) (hg : w.cell? ⟨0, 0, none⟩ = some (EOFv ea)) :
    Calls Tryf.prog 11 #[.slice A n c, .int .u32 qv, .int .i64 lv] w fun e w' => e = .returned (.pointer (some ⟨w.heap.size, 0, none⟩)) ∧
      LexS w' (w.heap.size + 2) w.heap.size (w.heap.size + 1) ea (Pc.q42 w.heap.size qv lv) 0 l none 0 ∧ Kept [] w w' := by
  have HS := Lib.hid h
  have HG := Lib.hid hg
  clear h hg
  go_enter Tryf.func11, Tryf.ntmps11
  go_wp2_with (first | (go_at_call 20; refine (newparser _).mono ?_; rintro e w1 ⟨rfl, hp1, hk1, hz1⟩; have HP1 := Lib.hid hp1; have HK1 := Lib.hid hk1; have HZ1 := Lib.hid hz1; clear hp1 hk1 hz1) | (go_at_call 21; refine (reset_new HP1.out rfl).mono ?_; rintro e w2 ⟨rfl, hp2, hk2, hz2⟩; have c0 := hp2.c_src; have c17 := hp2.c_quote; have c20 := hp2.c_lang; have hf := hp2.frozen; have hlt : w.heap.size < w2.heap.size := (by have := HZ1.out; omega); have HP2 := Lib.hid hp2; have HK2 := Lib.hid hk2; have HZ2 := Lib.hid hz2; clear hp2 hk2 hz2) | (go_at_call 22; refine (newreader _ _ _ _).mono ?_; rintro e w3 ⟨rfl, rfl⟩))
  go_ret
  have hz : _ = w.heap.size + 1 := HZ2.out.trans HZ1.out
  refine ⟨rfl, newlexer_end HS.out HG.out HK1.out hn hc ?_ ?_ ?_⟩
  · have := (((HP2.out.s_src (.iface 41 (.pointer (some ⟨w.heap.size + 1, 0, none⟩)))).s_quote (.int .u32 qv)).s_lang (.int .i64 lv)).kept (S := []) ((Kept.refl _ _).alloc (.cells #[.slice A n c, .int .i64 0, .int .i64 (-1)] 69)) (by simp)
    rw [hz]
    exact this
  · rw [← hz]
    have := heap_alloc_new ((w2.setCell ⟨w.heap.size, 0, none⟩ (.iface 41 (.pointer (some ⟨w2.heap.size, 0, none⟩)))).setCell ⟨w.heap.size, 17, none⟩ (.int .u32 qv) |>.setCell ⟨w.heap.size, 20, none⟩ (.int .i64 lv)) (.cells #[.slice A n c, .int .i64 0, .int .i64 (-1)] 69)
    simpa using this
  · exact HK2.out.trans (((((Kept.refl _ _).setCell (by simp) _).setCell (by simp) _).setCell (by simp) _).alloc _)
end Go.Proofs.YtaaobebpjblbdaaFmt
