/-
  n010_119: a fresh parser of a dialect, over a byte slice.
-/
import Derived.Test.YtolgahamfkaipaaFmtRst
import Derived.Test.YtolgahamfkaipaaFmtTf
namespace Go.Proofs.YtolgahamfkaipaaFmt
open Go.RowKit Go.Stop Go.Extern

theorem newreader (w : World) (A : Option Addr) (n c : Nat) :
    Calls Tryf.prog 28 #[.slice A n c] w fun e w' => e = .returned (.pointer (some ⟨w.heap.size, 0, none⟩)) ∧ w' = w.alloc (.cells #[.slice A n c, .int .i64 0, .int .i64 (-1)] 69) := by
  go_enter Tryf.func28, Tryf.ntmps28
  go_wp2
  go_ret
  exact ⟨rfl, rfl⟩

def Pc.new : Pc := { Pc.zero with lang := .int .i64 1 }
set_option maxRecDepth 100000 in
theorem built_new : Tryf.prog.built 61 [(19, .int .i64 1)] = some Pc.new.list.toArray := by kernel_rfl

theorem wpList_parser_new {w : World} {ops : Array Oper} {rest : List Oper} {o : Oper} {a : Act} {Q : Exit → Act → World → Prop} (hgd : o.guard = none)
    (ho : o.op = .build 61 #[(19, .const (.int .i64 1))]) (h : wpList Tryf.prog ops Q rest (a.put o.dst (.agg Pc.new.list.toArray)) w) : wpList Tryf.prog ops Q (o :: rest) a w := by
  refine wpList_plain hgd fun K hK => ?_
  have e : (Tryf.prog.built 61 ((#[(19, .const (.int .i64 1))] : Array (Nat × Operand)).map fun (i, x) => (i, a.eval x)).toList) = some Pc.new.list.toArray := by
    have e2 : ((#[(19, .const (.int .i64 1))] : Array (Nat × Operand)).map fun (i, x) => (i, a.eval x)).toList = [(19, .int .i64 1)] := by simp; rfl
    rw [e2]
    exact built_new
  refine wp_build _ _ ho (by rw [e]; rfl) (hK _ _ ?_)
  rw [e]
  exact h

theorem mk_func (fn : Fn) (first cap : Array Value) (w : World) : (Instr.makeFunc fn first cap).run Tryf.prog w = .ok (.func fn first cap) w := by kernel_rfl

def VarV (z : Nat) : Value := .func (.func 35) #[] #[.pointer (some ⟨z, 0, none⟩)]
/-- The five dialects. -/
def Dia (lv : Int) : Prop := lv = 1 ∨ lv = 2 ∨ lv = 4 ∨ lv = 8 ∨ lv = 16
set_option maxRecDepth 100000 in
theorem variant_any (w : World) (lv : Int) (hl : Dia lv) :
    Calls Tryf.prog 26 #[.int .i64 lv] w fun e w' => e = .returned (VarV w.heap.size) ∧ w'.cell? ⟨w.heap.size, 0, none⟩ = some (.int .i64 lv) ∧ Kept [] w w' := by
  have hmf := mk_func
  rcases hl with rfl | rfl | rfl | rfl | rfl
  all_goals (
    go_enter Tryf.func26, Tryf.ntmps26
    go_wp2_with fail
    go_ret
    exact ⟨rfl, row_cell (L := [_]) (heap_alloc_new w _) 0, (Kept.refl _ _).alloc _⟩)

set_option maxRecDepth 100000 in
theorem variant1_any {w : World} {pb z : Nat} {p : Pc} {lv : Int} (hp : PB w pb p) (hz : w.cell? ⟨z, 0, none⟩ = some (.int .i64 lv)) :
    Calls Tryf.prog 35 #[.pointer (some ⟨pb, 0, none⟩), .pointer (some ⟨z, 0, none⟩)] w fun e w' => e = .returned (.tuple #[]) ∧ PB w' pb { p with lang := .int .i64 lv } ∧ Kept [pb] w w' ∧ w'.heap.size = w.heap.size := by
  have c20 := hp.c_lang
  have hf := hp.frozen
  have HP := Lib.hid hp
  clear hp
  go_enter Tryf.func35, Tryf.ntmps35
  go_wp2_with fail
  go_end0
  exact ⟨rfl, HP.out.s_lang _, (Kept.refl _ _).setCell (by simp) _, by simp [World.setCell]⟩

def Pc.newL (lv : Int) : Pc := { Pc.new with lang := .int .i64 lv }
set_option maxRecDepth 100000 in
theorem newparser_v {w : World} {g z zn : Nat} {lv : Int} (hzn : w.heap.size = zn) (hg : w.cell? ⟨g, 0, none⟩ = some (VarV z)) (hz : w.cell? ⟨z, 0, none⟩ = some (.int .i64 lv)) :
    Calls Tryf.prog 25 #[.slice (some ⟨g, 0, none⟩) 1 1] w fun e w' => e = .returned (.pointer (some ⟨zn, 0, none⟩)) ∧ PB w' zn (Pc.newL lv) ∧ Kept [] w w' ∧ w'.heap.size = zn + 1 := by
  subst hzn
  have hlg := block_lt_of_cell hg
  have hlz := block_lt_of_cell hz
  unfold VarV at hg
  go_enter Tryf.func25, Tryf.ntmps25
  go_wp2_with (refine wpList_parser_new rfl rfl ?_)
  have k0 := (Kept.refl [] w).alloc (.cells Pc.new.list.toArray 61)
  have hp0 : PB (w.alloc (.cells Pc.new.list.toArray 61)) w.heap.size Pc.new := ⟨heap_alloc_new _ _, by simp [Pc.new, Pc.zero], by simp [Pc.new, Pc.zero]⟩
  have d1 := (k0.cell (p := ⟨g, 0, none⟩) hlg (by simp)).trans hg
  have d2 := (k0.cell (p := ⟨z, 0, none⟩) hlz (by simp)).trans hz
  have HV := Lib.hid (variant1_any hp0 d2)
  have K0 := Lib.hid k0
  have hzw : (w.alloc (.cells Pc.new.list.toArray 61)).heap.size = w.heap.size + 1 := by simp
  have HZW := Lib.hid hzw
  clear hg hz k0 hp0 d2 hzw
  refine wp_loop_rounds 2 ?_
  rw [rounds_succ]
  go_wp2_with (go_at_call 35; refine HV.out.mono ?_; rintro e w1 ⟨rfl, hp1, hk1, hz1⟩; have HP1 := Lib.hid hp1; have HK1 := Lib.hid hk1; have HZ1 := Lib.hid hz1; clear hp1 hk1 hz1)
  rw [rounds_succ]
  go_wp2_with fail
  go_ret
  exact ⟨rfl, HP1.out, ((K0.out.weaken (S' := [w.heap.size]) (by simp)).trans HK1.out).weaken (by simp), HZ1.out.trans HZW.out⟩

def Pc.q119 (pb fb rb : Nat) (lv : Int) : Pc := { (Pc.newL lv).reset pb with src := .iface 62 (.pointer (some ⟨rb, 0, none⟩)), f := .pointer (some ⟨fb, 0, none⟩) }

theorem Tabs.kept {w w' : World} {S : List Nat} (h : Tabs w) (k : Kept S w w') (hS : ∀ x ∈ S, w.heap.size ≤ x) : Tabs w' := by
  refine ⟨fun c hc => ?_, fun i hi => ⟨?_, ?_⟩⟩
  · have h1 := h.1 c hc
    have := block_lt_of_cell h1
    exact (k.cell this (fun hm => by have := hS _ hm; omega)).trans h1
  · have h1 := (h.2 i hi).1
    have := block_lt_of_cell h1
    exact (k.cell this (fun hm => by have := hS _ hm; omega)).trans h1
  · have h1 := (h.2 i hi).2
    have := block_lt_of_cell h1
    exact (k.cell this (fun hm => by have := hS _ hm; omega)).trans h1

theorem start_c {w w2 : World} {A : Option Addr} {n c : Nat} {l : List UInt8} {pb fb rb : Nat} {lv : Int} {ea : Addr} {F : Interp} (hs : SrcB w A n l) (hn : n < 10000000) (hc : n ≤ c) (hg : w.cell? ⟨0, 0, none⟩ = some (EOFv ea)) (hT : Tabs w) (hF : F.answers w.tape) (hp : PB w2 pb (Pc.q119 pb fb rb lv)) (hf : w2.cell? ⟨fb, 0, none⟩ = some (.string ⟨#[]⟩)) (hr : w2.heap[rb]? = some (.cells #[.slice A n c, .int .i64 0, .int .i64 (-1)] 69 (0, 0))) (h1 : pb < fb) (h2 : fb < rb) (hw : w.heap.size ≤ pb) (hk : Kept [] w w2) (hcl : Cl l 6) :
    LexC w2 (rb + 1) pb rb fb ea F lv 0 l 0 1 6 := by
  have hgl : 0 < w.heap.size := block_lt_of_cell hg
  have hl1 := hs.1
  have hz2 : rb + 1 ≤ w2.heap.size := heap_lt hr
  have hmd : Md w2 (rb + 1) pb rb ea (Pc.q119 pb fb rb lv) [] l 0 0 l := by
    refine ⟨{ hpb := hp, hsrc := rfl, hbs := .inr ⟨rfl, rfl⟩, hbuf := rfl, hfit := by simp, hbsp := rfl, hrd := ?_, hne := by omega, hlt := by omega, heof := (hk.cell (p := ⟨0, 0, none⟩) hgl (by simp)).trans hg, hg1 := by omega, hg2 := by omega }, .inl ⟨rfl, rfl⟩, rfl, by omega, by simp; omega, by simp, by simp⟩
    refine ⟨A, n, c, 0, -1, l, hr, hl1, fun h0 => ?_, by omega, hc, by omega, rfl, by omega, hz2⟩
    obtain ⟨g, o', rfl, hg1, hcc⟩ := hs.2 h0
    exact ⟨g, o', rfl, by omega, by omega, by omega, fun j x hj => (hk.cell (p := ⟨g, o' + j, none⟩) hg1 (by simp)).trans (hcc j x hj)⟩
  refine ⟨_, 1, rfl, rfl, rfl, rfl, rfl, rfl, rfl, by omega, by omega, by omega, by omega, by omega, by omega, by omega, by omega, by omega, hz2, (by exact rfl), ?_, ⟨rfl, rfl, rfl, by omega, by omega, ⟨_, hf⟩, by rw [← hk.tape] at hF; exact hF, ⟨0, rfl, by omega, by omega⟩, ⟨1, rfl, by omega, by omega⟩, ⟨1, rfl, by omega, by omega⟩⟩, ⟨_, _, _, _, hmd⟩, hcl⟩
  rintro w' ⟨S, kS, hS⟩
  exact hT.kept ((hk.weaken (S' := S) (by simp)).trans kS) (fun x hx => by rcases hS x hx with h | h | h <;> omega)

theorem start_world {w w1 w2 w3 W : World} {A : Option Addr} {n c : Nat} {l : List UInt8} {ea : Addr} {F : Interp} {lv : Int} (hs : SrcB w A n l) (hn : n < 10000000) (hc : n ≤ c) (hg : w.cell? ⟨0, 0, none⟩ = some (EOFv ea)) (hT : Tabs w) (hF : F.answers w.tape) (hcl : Cl l 6) (hk1 : Kept [] w w1) (hk2 : Kept [] w1 w2) (hz2 : w2.heap.size = w1.heap.size + 1 + 1) (hp3 : PB w3 (w1.heap.size + 1) ((Pc.newL lv).reset (w1.heap.size + 1))) (hk3 : Kept [w1.heap.size + 1] w2 w3) (hz3 : w3.heap.size = w2.heap.size)
    (hW : W = (((w3.setCell ⟨w1.heap.size + 1, 5, none⟩ (.pointer (some ⟨w1.heap.size + 1 + 1, 0, none⟩))).setCell ⟨w1.heap.size + 1, 0, none⟩ (.iface 62 (.pointer (some ⟨w1.heap.size + 1 + 1 + 1, 0, none⟩)))).alloc (.cells #[.string ⟨#[]⟩, .slice none 0 0, .slice none 0 0] 44)).alloc (.cells #[.slice A n c, .int .i64 0, .int .i64 (-1)] 69)) :
    LexC W (w1.heap.size + 1 + 1 + 1 + 1) (w1.heap.size + 1) (w1.heap.size + 1 + 1 + 1) (w1.heap.size + 1 + 1) ea F lv 0 l 0 1 6 ∧ Kept [] w W := by
  have hz1 := hk1.size
  have k3 : Kept [w1.heap.size + 1] w2 W := by
    rw [hW]
    exact ((((hk3.setCell (by simp) _).setCell (by simp) _).alloc _).alloc _)
  have kw : Kept [] w W := (((hk1.trans hk2).weaken (S' := [w1.heap.size + 1]) (by simp)).trans k3).weaken (fun x hx => .inr (by simp at hx; omega))
  refine ⟨start_c hs hn hc hg hT hF ?_ ?_ ?_ (by omega) (by omega) (by omega) kw hcl, kw⟩
  · rw [hW]
    have := ((hp3.s_f (.pointer (some ⟨w1.heap.size + 1 + 1, 0, none⟩))).s_src (.iface 62 (.pointer (some ⟨w1.heap.size + 1 + 1 + 1, 0, none⟩)))).kept (S := []) (((Kept.refl _ _).alloc (.cells #[.string ⟨#[]⟩, .slice none 0 0, .slice none 0 0] 44)).alloc (.cells #[.slice A n c, .int .i64 0, .int .i64 (-1)] 69)) (by simp)
    exact this
  · have e : w1.heap.size + 1 + 1 = ((w3.setCell ⟨w1.heap.size + 1, 5, none⟩ (.pointer (some ⟨w1.heap.size + 1 + 1, 0, none⟩))).setCell ⟨w1.heap.size + 1, 0, none⟩ (.iface 62 (.pointer (some ⟨w1.heap.size + 1 + 1 + 1, 0, none⟩)))).heap.size := by simp [World.setCell]; omega
    rw [hW]
    refine ((Kept.refl [] _).alloc _).cell (p := ⟨w1.heap.size + 1 + 1, 0, none⟩) (by rw [e]; simp [World.setCell]) (by simp) |>.trans ?_
    have h0 := row_cell (L := [.string ⟨#[]⟩, .slice none 0 0, .slice none 0 0]) (heap_alloc_new ((w3.setCell ⟨w1.heap.size + 1, 5, none⟩ (.pointer (some ⟨w1.heap.size + 1 + 1, 0, none⟩))).setCell ⟨w1.heap.size + 1, 0, none⟩ (.iface 62 (.pointer (some ⟨w1.heap.size + 1 + 1 + 1, 0, none⟩)))) (.cells #[.string ⟨#[]⟩, .slice none 0 0, .slice none 0 0] 44)) 0
    rw [← e] at h0
    exact h0
  · rw [hW]
    have := heap_alloc_new (((w3.setCell ⟨w1.heap.size + 1, 5, none⟩ (.pointer (some ⟨w1.heap.size + 1 + 1, 0, none⟩))).setCell ⟨w1.heap.size + 1, 0, none⟩ (.iface 62 (.pointer (some ⟨w1.heap.size + 1 + 1 + 1, 0, none⟩)))).alloc (.cells #[.string ⟨#[]⟩, .slice none 0 0, .slice none 0 0] 44)) (.cells #[.slice A n c, .int .i64 0, .int .i64 (-1)] 69)
    simpa [hz3, hz2] using this

set_option maxRecDepth 100000 in
set_option maxHeartbeats 1600000 in
/-- A fresh lexer. -/
theorem newlexer_c {w : World} {A : Option Addr} {n c : Nat} {l : List UInt8} {ea : Addr} {F : Interp} {lv : Int} (hl : Dia lv) (hs : SrcB w A n l) (hn : n < 10000000) (hc : n ≤ c) (hg : w.cell? ⟨0, 0, none⟩ = some (EOFv ea)) (hT : Tabs w) (hF : F.answers w.tape) (hcl : Cl l 6) :
    Calls Tryf.prog 16 #[.int .i64 lv, .slice A n c] w fun e w' => ∃ (B pb rb fb : Nat), e = .returned (.pointer (some ⟨pb, 0, none⟩)) ∧ LexC w' B pb rb fb ea F lv 0 l 0 1 6 ∧ w.heap.size ≤ pb ∧ w.heap.size ≤ rb ∧ w.heap.size ≤ B ∧ Kept [] w w' := by
  have hgl : 0 < w.heap.size := block_lt_of_cell hg
  have HW := Lib.hid (fun (w1 w2 w3 W : World) => start_world (lv := lv) (w1 := w1) (w2 := w2) (w3 := w3) (W := W) hs hn hc hg hT hF hcl)
  have HV := Lib.hid (fun w => variant_any w lv hl)
  clear hs hg hT hF hcl hl
  go_enter Tryf.func16, Tryf.ntmps16
  go_wp2_with (first
    | (go_at_call 26; refine (HV.out _).mono ?_; rintro e w1 ⟨rfl, hz1, hk1⟩; dsimp only [VarV]; have HZ1 := Lib.hid hz1; have HK1 := Lib.hid hk1; have hl1 := block_lt_of_cell hz1; clear hz1 hk1)
    | (go_at_call 25; refine (newparser_v (z := w.heap.size) (zn := w1.heap.size + 1) (lv := lv) (by simp) (row_cell (L := [VarV w.heap.size]) (heap_alloc_new w1 _) 0) ((((Kept.refl [] w1).alloc _).cell (p := ⟨w.heap.size, 0, none⟩) hl1 (by simp)).trans HZ1.out)).mono ?_; rintro e w2 ⟨rfl, hp2, hk2, hz2⟩; have HP2 := Lib.hid hp2; have HK2 := Lib.hid (((Kept.refl [] w1).alloc _).trans hk2); clear hp2 hk2)
    | (go_at_call 27; refine (reset_new HP2.out rfl).mono ?_; rintro e w3 ⟨rfl, hp3, hk3, hz3⟩; have c0 := hp3.c_src; have c5 := hp3.c_f; have hf := hp3.frozen; have HP3 := Lib.hid hp3; have HK3 := Lib.hid hk3; clear hp3 hk3)
    | (go_at_call 28; refine (newreader _ _ _ _).mono ?_; rintro e w4 ⟨rfl, rfl⟩))
  go_ret
  have hz1 := HK1.out.size
  obtain ⟨h1, h2⟩ := HW.out _ _ _ _ HK1.out HK2.out hz2 HP3.out HK3.out hz3 rfl
  exact ⟨_, _, _, _, rfl, h1, by omega, by omega, by omega, h2⟩
end Go.Proofs.YtolgahamfkaipaaFmt
