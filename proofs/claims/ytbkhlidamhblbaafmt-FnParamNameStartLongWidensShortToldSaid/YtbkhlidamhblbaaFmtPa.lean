/-
  n010_56: a fresh bash parser by way of the option Variant.
-/
import Derived.Test.YtbkhlidamhblbaaFmtRst
import Derived.Test.YtbkhlidamhblbaaFmtSt
namespace Go.Proofs.YtbkhlidamhblbaaFmt
open Go.RowKit

theorem newreader (w : World) (s : ByteArray) :
    Calls Tryf.prog 14 #[.string s] w fun e w' => e = .returned (.pointer (some ⟨w.heap.size, 0, none⟩)) ∧ w' = w.alloc (.cells #[.string s, .int .i64 0, .int .i64 (-1)] 81) := by
  go_enter Tryf.func14, Tryf.ntmps14
  go_wp2
  go_ret
  exact ⟨rfl, rfl⟩

def Pc.new : Pc := { Pc.zero with lang := .int .i64 1 }
set_option maxRecDepth 100000 in
theorem built_new : Tryf.prog.built 66 [(19, .int .i64 1)] = some Pc.new.list.toArray := by kernel_rfl

theorem wpList_parser_new {w : World} {ops : Array Oper} {rest : List Oper} {o : Oper} {a : Act} {Q : Exit → Act → World → Prop} (hgd : o.guard = none)
    (ho : o.op = .build 66 #[(19, .const (.int .i64 1))]) (h : wpList Tryf.prog ops Q rest (a.put o.dst (.agg Pc.new.list.toArray)) w) : wpList Tryf.prog ops Q (o :: rest) a w := by
  refine wpList_plain hgd fun K hK => ?_
  have e : (Tryf.prog.built 66 ((#[(19, .const (.int .i64 1))] : Array (Nat × Operand)).map fun (i, x) => (i, a.eval x)).toList) = some Pc.new.list.toArray := by
    have e2 : ((#[(19, .const (.int .i64 1))] : Array (Nat × Operand)).map fun (i, x) => (i, a.eval x)).toList = [(19, .int .i64 1)] := by simp; rfl
    rw [e2]
    exact built_new
  refine wp_build _ _ ho (by rw [e]; rfl) (hK _ _ ?_)
  rw [e]
  exact h

theorem mk_func (fn : Fn) (first cap : Array Value) (w : World) : (Instr.makeFunc fn first cap).run Tryf.prog w = .ok (.func fn first cap) w := by kernel_rfl

def VarV (z : Nat) : Value := .func (.func 19) #[] #[.pointer (some ⟨z, 0, none⟩)]
set_option maxRecDepth 100000 in
theorem variant_any (w : World) :
    Calls Tryf.prog 12 #[.int .i64 1] w fun e w' => e = .returned (VarV w.heap.size) ∧ w'.cell? ⟨w.heap.size, 0, none⟩ = some (.int .i64 1) ∧ Kept [] w w' := by
  have hmf := mk_func
  go_enter Tryf.func12, Tryf.ntmps12
  go_wp2_with fail
  go_ret
  exact ⟨rfl, row_cell (L := [.int .i64 1]) (heap_alloc_new w _) 0, (Kept.refl _ _).alloc _⟩

set_option maxRecDepth 100000 in
theorem variant1_any {w : World} {pb z : Nat} {p : Pc} (hp : PB w pb p) (hz : w.cell? ⟨z, 0, none⟩ = some (.int .i64 1)) :
    Calls Tryf.prog 19 #[.pointer (some ⟨pb, 0, none⟩), .pointer (some ⟨z, 0, none⟩)] w fun e w' => e = .returned (.tuple #[]) ∧ PB w' pb { p with lang := .int .i64 1 } ∧ Kept [pb] w w' ∧ w'.heap.size = w.heap.size := by
  have c20 := hp.c_lang
  have hf := hp.frozen
  have HP := Lib.hid hp
  clear hp
  go_enter Tryf.func19, Tryf.ntmps19
  go_wp2_with fail
  go_end0
  exact ⟨rfl, HP.out.s_lang _, (Kept.refl _ _).setCell (by simp) _, by simp [World.setCell]⟩

set_option maxRecDepth 100000 in
theorem newparser_v {w : World} {g z : Nat} (hg : w.cell? ⟨g, 0, none⟩ = some (VarV z)) (hz : w.cell? ⟨z, 0, none⟩ = some (.int .i64 1)) :
    Calls Tryf.prog 11 #[.slice (some ⟨g, 0, none⟩) 1 1] w fun e w' => e = .returned (.pointer (some ⟨w.heap.size, 0, none⟩)) ∧ PB w' w.heap.size Pc.new ∧ Kept [] w w' ∧ w'.heap.size = w.heap.size + 1 := by
  have hlg := block_lt_of_cell hg
  have hlz := block_lt_of_cell hz
  unfold VarV at hg
  go_enter Tryf.func11, Tryf.ntmps11
  go_wp2_with (refine wpList_parser_new rfl rfl ?_)
  have k0 := (Kept.refl [] w).alloc (.cells Pc.new.list.toArray 66)
  have hp0 : PB (w.alloc (.cells Pc.new.list.toArray 66)) w.heap.size Pc.new := ⟨heap_alloc_new _ _, by simp [Pc.new, Pc.zero], by simp [Pc.new, Pc.zero]⟩
  have d1 := (k0.cell (p := ⟨g, 0, none⟩) hlg (by simp)).trans hg
  have d2 := (k0.cell (p := ⟨z, 0, none⟩) hlz (by simp)).trans hz
  have HV := Lib.hid (variant1_any hp0 d2)
  have K0 := Lib.hid k0
  have hzw : (w.alloc (.cells Pc.new.list.toArray 66)).heap.size = w.heap.size + 1 := by simp
  have HZW := Lib.hid hzw
  clear hg hz k0 hp0 d2 hzw
  refine wp_loop_rounds 2 ?_
  rw [rounds_succ]
  go_wp2_with (go_at_call 19; refine HV.out.mono ?_; rintro e w1 ⟨rfl, hp1, hk1, hz1⟩; have HP1 := Lib.hid hp1; have HK1 := Lib.hid hk1; have HZ1 := Lib.hid hz1; clear hp1 hk1 hz1)
  rw [rounds_succ]
  go_wp2_with fail
  go_ret
  exact ⟨rfl, HP1.out, ((K0.out.weaken (S' := [w.heap.size]) (by simp)).trans HK1.out).weaken (by simp), HZ1.out.trans HZW.out⟩

def Pc.q56 (pb rb : Nat) (fv : Value) (qv : Int) : Pc := { Pc.new.reset pb with src := .iface 74 (.pointer (some ⟨rb, 0, none⟩)), f := fv, quote := .int .u32 qv }

theorem start_lex {w w2 : World} {s : ByteArray} {pb rb : Nat} {fv : Value} {qv : Int} {ea : Addr} (hg : w.cell? ⟨0, 0, none⟩ = some (EOFv ea)) (hs : s.size < 10000000) (hp : PB w2 pb (Pc.q56 pb rb fv qv)) (hr : w2.heap[rb]? = some (.cells #[.string s, .int .i64 0, .int .i64 (-1)] 81 (0, 0))) (hpr : pb < rb) (hw : w.heap.size ≤ pb) (hk : Kept [] w w2) :
    LexS w2 (rb + 1) pb rb ea (Pc.q56 pb rb fv qv) 0 s.data.toList none 0 := by
  have hgl : 0 < w.heap.size := block_lt_of_cell hg
  have hz2 : rb + 1 ≤ w2.heap.size := heap_lt hr
  have hsz : s.data.toList.length = s.size := rfl
  have hmd : Md w2 (rb + 1) pb rb ea (Pc.q56 pb rb fv qv) [] s.data.toList 0 0 s.data.toList := by
    refine ⟨{ hpb := hp, hsrc := rfl, hbs := .inr ⟨rfl, rfl⟩, hbuf := rfl, hfit := by simp, hbsp := rfl, hrd := ?_, hne := by omega, hlt := by omega, heof := (hk.cell (p := ⟨0, 0, none⟩) hgl (by simp)).trans hg, hg1 := by omega, hg2 := by omega }, .inl ⟨rfl, rfl⟩, rfl, by omega, by simp; omega, by simp, by simp⟩
    exact ⟨s, 0, -1, hr, by omega, by omega, by simp, by omega, hz2, rfl⟩
  exact ⟨_, 0, 1, 1, rfl, rfl, rfl, rfl, rfl, rfl, by omega, by omega, fun h => by omega, by omega, by omega, by omega, by omega, by omega, by omega, hz2, rfl, (fun l hl => by cases hl), .inl ⟨by decide, _, _, _, _, hmd⟩⟩

/-- peek in the middle of the input. -/
theorem peek_s {w : World} {B pb rb : Nat} {ea : Addr} {q : Pc} {r : Int} {u : List UInt8} {lit : Option (List UInt8)} {k : Nat} (h : LexS w B pb rb ea q r u lit k) (hr : r ≠ 1114112) (hnl : lit = none) :
    Calls Tryf.prog 16 #[.pointer (some ⟨pb, 0, none⟩)] w fun e w' => e = .returned (By (hd2 u).1) ∧ LexS w' B pb rb ea q r u lit k ∧ Kept [rb, pb] w w' := by
  subst hnl
  obtain ⟨p, wd, ln, col, hb, h1, h2, h3, h4, h5, w1, w2, w3, l1, l2, c1, c2, b1, b2, b3, hl, hll, ⟨_, win, rest, bsp, offs, hm⟩ | ⟨he, _⟩⟩ := h
  · refine (peek_md hm r h1 hr).mono ?_
    rintro e w' ⟨rfl, hpk⟩
    obtain ⟨p', win', rest', bsp', offs', hm', hs', hk', _⟩ := hpk.out
    refine ⟨rfl, ⟨p', wd, ln, col, ((by unfold Pc.base; rw [core_of_side hs'] : p'.base = p.base)).trans hb, (congrArg Pc.r hs').trans h1, (congrArg Pc.w hs').trans h2, (congrArg Pc.line hs').trans h3, (congrArg Pc.col hs').trans h4, (congrArg Pc.openBquotes hs').trans h5, w1, w2, w3, l1, l2, c1, c2, b1, b2, Nat.le_trans b3 hk'.size, (congrArg Pc.litBs hs').trans hl, hll, .inl ⟨hr, win', rest', bsp', offs', hm'⟩⟩, hk'⟩
  · exact absurd he hr
end Go.Proofs.YtbkhlidamhblbaaFmt
