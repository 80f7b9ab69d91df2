/-
  nextPos, whatever it answers; errPass; posErr (its text is whatever fmt answers).
-/
import Derived.Test.YtolgahamfkaipaaFmtRa
import Derived.Handy
import Derived.IntWalk
import Derived.WalkSpells
import Derived.BigRegion
import Derived.Deep.RegionWith
import Derived.Deep.RegionHeld3
import Derived.Stop.CallBack
import Derived.Stop.IfaceNil
import Derived.RegionCalls
namespace Go.Proofs.YtolgahamfkaipaaFmt
section
open Go.RowKit Go.Extern.Stop Go.Stop Go.Extern

set_option maxRecDepth 100000 in
theorem newpos_any (a b c : Int) (ha : 0 ≤ a) (hb : 0 ≤ b) (hc : 0 ≤ c) (w : World) :
    Calls Tryf.prog 49 #[.int .u64 a, .int .u64 b, .int .u64 c] w fun e w' => ∃ x y, e = .returned (.agg #[.int .u32 x, .int .u32 y]) ∧ w' = w.alloc (.cells #[.int .u32 x, .int .u32 y] 52) := by
  go_enter Tryf.func49, Tryf.ntmps49
  go_wp2_with fail
  all_goals (
    refine bodyPost_ret (by simp [results, Tryf.results49, go_sem]; try rfl) rfl ?_
    exact ⟨_, _, rfl, rfl⟩)
theorem wrap_nn (x : Int) : 0 ≤ IntKind.u64.wrap x := by
  unfold IntKind.wrap
  simp only [IntKind.bits, IntKind.signed, Bool.false_and, Bool.false_eq_true, if_false]
  omega

set_option maxRecDepth 100000 in
set_option maxHeartbeats 1600000 in
theorem nextpos_any {w : World} {pb : Nat} {p : Pc} (hp : PB w pb p) (o b wd ln cl : Int) (h12 : p.offs = .int .i64 o) (h2 : p.bsp = .int .u64 b) (h4 : p.w = .int .i64 wd) (h13 : p.line = .int .i64 ln) (h14 : p.col = .int .i64 cl) (o1 : 0 ≤ o) (o2 : o ≤ 1000000000) (b1 : 0 ≤ b) (b2 : b ≤ 100000) (d1 : 0 ≤ wd) (d2 : wd ≤ 8) (l1 : 0 ≤ ln) (l2 : ln ≤ 1000000000100) (k1 : 0 ≤ cl) (k2 : cl ≤ 1000000000100) :
    Calls Tryf.prog 44 #[.pointer (some ⟨pb, 0, none⟩)] w fun e w' => (∃ x y, e = .returned (.agg #[.int .u32 x, .int .u32 y])) ∧ Kept [] w w' := by
  have c12 := hp.c_offs; have c2 := hp.c_bsp; have c4 := hp.c_w; have c13 := hp.c_line; have c14 := hp.c_col
  rw [h12] at c12; rw [h2] at c2; rw [h4] at c4; rw [h13] at c13; rw [h14] at c14
  have hlt := block_lt_of_cell c12
  clear hp h12 h2 h4 h13 h14
  go_enter Tryf.func44, Tryf.ntmps44
  go_wp2_with fail
  have e1 : IntKind.i64.wrap b = b := IntWalk.i64_in _ (by omega)
  have e2 : IntKind.i64.wrap (o + b) = o + b := IntWalk.i64_in _ (by omega)
  have e3 : IntKind.i64.wrap (o + b - wd) = o + b - wd := IntWalk.i64_in _ (by omega)
  go_region
  all_goals (go_wp2_with (go_at_call 49; refine (newpos_any _ _ _ (by first | omega | exact wrap_nn _) (by omega) (by omega) _).mono ?_; rintro e w' ⟨x, y, rfl, rfl⟩))
  all_goals (
    refine bodyPost_ret (by simp [results, Tryf.results44, go_sem]; try rfl) rfl ?_
    exact ⟨⟨_, _, rfl⟩, (((Kept.refl _ _).alloc _).alloc _).drew⟩)


/-- errPass at the first error: the input is taken for read. -/
theorem errpass {w : World} {pb : Nat} {p : Pc} (hp : PB w pb p) (herr : p.err = .nilIface) {A : Option Addr} {n c : Nat} (hbs : p.bs = .slice A n c) (hn : n ≤ 100000) (v : Value) (T : TypeId) :
    Calls Tryf.prog 47 #[.pointer (some ⟨pb, 0, none⟩), .iface T v] w fun e w' => e = .returned (.tuple #[]) ∧ PB w' pb { p with err := .iface T v, bsp := .int .u64 (n + 1 : Nat), r := .int .i32 1114112, w := .int .i64 1, tok := .int .u32 1 } ∧ Kept [pb] w w' := by
  have c7 := hp.c_err; have c1 := hp.c_bs; have c2 := hp.c_bsp; have c3 := hp.c_r; have c4 := hp.c_w; have c10 := hp.c_tok
  have fz := hp.frozen
  rw [herr] at c7; rw [hbs] at c1
  have hw1 : IntKind.u64.wrap (n : Int) = n := IntWalk.u64_in _ (by omega)
  have hw2 : IntKind.u64.wrap ((n : Int) + 1) = (n : Int) + 1 := IntWalk.u64_in _ (by omega)
  have H := Lib.hid hp
  clear hp herr hbs
  go_enter Tryf.func47, Tryf.ntmps47
  go_wp2_with fail
  go_end0
  have e : (n : Int) + 1 = ((n + 1 : Nat) : Int) := by omega
  rw [e]
  exact ⟨rfl, ((((H.out.s_err _).s_bsp _).s_r _).s_w _).s_tok _, (((((Kept.refl _ _).setCell (p := ⟨pb, 7, none⟩) (by simp) _).setCell (p := ⟨pb, 2, none⟩) (by simp) _).setCell (p := ⟨pb, 3, none⟩) (by simp) _).setCell (p := ⟨pb, 4, none⟩) (by simp) _).setCell (p := ⟨pb, 10, none⟩) (by simp) _⟩

end
section
open Go.RowKit Go.Extern.Stop Go.Stop Go.Extern

theorem spr_call (args : Array Value) (w : World) : (callFunc 34 args).run Tryf.prog w = (FmtCalls.sprintf #[9, 87] #[9] args).run Tryf.prog w :=
  run_callFunc_next Tryf.func34 (by kernel_rfl) (by kernel_rfl) (by kernel_rfl) args w
theorem spr_guard (name : String) (w : World) : (FmtStop.guard name).run Tryf.prog w = .ok () w := by kernel_rfl
theorem nextTurns : Extern.next FmtCalls.turnsRow = some (FmtCalls.begun #[] #[]) := by kernel_rfl
theorem spr_row (F : Interp) (w : World) (hF0 : F.answers w.tape) (f : ByteArray) (R : Value → World → Prop) (h : ∀ s, R (.string s) w.drew) : Rows Tryf.prog FmtCalls.turnsRow (FmtCalls.save 0 0 (.slice none 0 0) f [] []) w R := by
  have hF := answers_open hF0
  apply rows_value nextTurns
  case hr =>
    go_simp
    exact ⟨rfl, rfl⟩
  case h => exact h _

/-- The load of the token: so named that it waits for its turn. -/
def tokLoad : Op := Op.load 50 (Operand.tmp 22)
@[go_sem] theorem tokLoad_eq : tokLoad = Op.load 50 (Operand.tmp 22) := rfl
/-- The guarded move, likewise. -/
def guMove : Op := Op.move (Operand.tmp 0)
@[go_sem] theorem guMove_eq : guMove = Op.move (Operand.tmp 0) := rfl

set_option maxRecDepth 100000 in
set_option maxHeartbeats 4000000 in
/-- posErr at the first error, no operand: whatever text fmt answers. -/
theorem poserr {w : World} {pb fb : Nat} {p : Pc} (hp : PB w pb p) (herr : p.err = .nilIface) {A : Option Addr} {n c : Nat} (hbs : p.bs = .slice A n c) (hn : n ≤ 100000) (htok : p.tok = .int .u32 0) (hf : p.f = .pointer (some ⟨fb, 0, none⟩)) {nm : ByteArray} (cf : w.cell? ⟨fb, 0, none⟩ = some (.string nm)) (F : Interp) (hF : F.answers w.tape) (nfp : fb ≠ pb) (x y : Int) :
    Calls Tryf.prog 43 #[.pointer (some ⟨pb, 0, none⟩), .agg #[.int .u32 x, .int .u32 y], (.string ⟨#[105, 110, 118, 97, 108, 105, 100, 32, 85, 84, 70, 45, 56, 32, 101, 110, 99, 111, 100, 105, 110, 103]⟩), .slice none 0 0] w fun e w' => e = .returned (.tuple #[]) ∧ (∃ v, PB w' pb { p with err := v, bsp := .int .u64 (n + 1 : Nat), r := .int .i32 1114112, w := .int .i64 1, tok := .int .u32 1 }) ∧ Kept [pb] w w' := by
  have hlt := hp.lt
  have hflt : fb < w.heap.size := block_lt_of_cell cf
  obtain ⟨W0, hW0⟩ : ∃ W0, W0 = w.alloc (.cells #[.int .u32 x, .int .u32 y] 52) := ⟨_, rfl⟩
  have k0 : Kept [] w W0 := by rw [hW0]; exact (Kept.refl _ _).alloc _
  have d0 : W0.cell? ⟨w.heap.size, 0, none⟩ = some (.int .u32 x) := by rw [hW0]; simp [cell_of_row _ _ _ _ _ _ (heap_alloc_new w _)]
  have d1 : W0.cell? ⟨w.heap.size, 1, none⟩ = some (.int .u32 y) := by rw [hW0]; simp [cell_of_row _ _ _ _ _ _ (heap_alloc_new w _)]
  have hz : w.heap.size < W0.heap.size := by rw [hW0]; simp
  have hfm : Go.Extern.FmtStop.printed? ⟨#[105, 110, 118, 97, 108, 105, 100, 32, 85, 84, 70, 45, 56, 32, 101, 110, 99, 111, 100, 105, 110, 103]⟩ 0 = some [] := by kernel_rfl
  have hpp := hp.kept k0 (by simp)
  have g10 : W0.cell? ⟨pb, 10, none⟩ = some (.int .u32 0) := by rw [hpp.c_tok, htok]
  have g5 : W0.cell? ⟨pb, 5, none⟩ = some (.pointer (some ⟨fb, 0, none⟩)) := by rw [hpp.c_f, hf]
  have gf : W0.cell? ⟨fb, 0, none⟩ = some (.string nm) := (k0.cell (p := ⟨fb, 0, none⟩) hflt (by simp)).trans cf
  have hF0 : F.answers W0.tape := by rw [k0.tape]; exact hF
  have hz0 : W0.heap.size = w.heap.size + 1 := by rw [hW0]; simp
  have HE := Lib.hid (fun (w' : World) (k : Kept [] W0 w') (v : Value) (T : TypeId) => errpass (hp.kept (k0.trans k) (by simp)) herr hbs hn v T)
  have K0 := Lib.hid k0
  have HW := Lib.hid hW0
  have HF5 := Lib.hid hf
  have hlt0 : pb < W0.heap.size := by omega
  have hflt0 : fb < W0.heap.size := by omega
  have HS := Lib.hid (fun (w' : World) (k : Kept [] W0 w') => (show Kept [pb] W0 w' ∧ w'.cell? ⟨pb, 5, none⟩ = some (.pointer (some ⟨fb, 0, none⟩)) ∧ w'.cell? ⟨fb, 0, none⟩ = some (.string nm) ∧ w'.cell? ⟨w.heap.size, 0, none⟩ = some (.int .u32 x) ∧ w'.cell? ⟨w.heap.size, 1, none⟩ = some (.int .u32 y) from ⟨k.weaken (by simp), (k.cell (p := ⟨pb, 5, none⟩) hlt0 (by simp)).trans g5, (k.cell (p := ⟨fb, 0, none⟩) hflt0 (by simp)).trans gf, (k.cell (p := ⟨w.heap.size, 0, none⟩) hz (by simp)).trans d0, (k.cell (p := ⟨w.heap.size, 1, none⟩) hz (by simp)).trans d1⟩))
  have HS8 := Lib.hid (fun (w1 w8 : World) (k : Kept [] W0 w1) (k8 : Kept [pb] w1 w8) (q : Pc) (hq : PB w8 pb q) (hqf : q.f = p.f) => (show Kept [pb] W0 w8 ∧ w8.cell? ⟨pb, 5, none⟩ = some (.pointer (some ⟨fb, 0, none⟩)) ∧ w8.cell? ⟨fb, 0, none⟩ = some (.string nm) ∧ w8.cell? ⟨w.heap.size, 0, none⟩ = some (.int .u32 x) ∧ w8.cell? ⟨w.heap.size, 1, none⟩ = some (.int .u32 y) from by
    have kk : Kept [pb] W0 w8 := (k.weaken (by simp)).trans k8
    exact ⟨kk, by rw [hq.c_f, hqf, HF5.out], (kk.cell (p := ⟨fb, 0, none⟩) hflt0 (by simp; exact nfp)).trans gf, (kk.cell (p := ⟨w.heap.size, 0, none⟩) hz (by simp; omega)).trans d0, (kk.cell (p := ⟨w.heap.size, 1, none⟩) hz (by simp; omega)).trans d1⟩))
  clear hp herr hbs htok hf hF cf k0 hW0 hpp
  go_enter Tryf.func43, Tryf.ntmps43
  go_wp2_with fail
  rw [← HW.out]
  rw [← tokLoad_eq]
  conv in (occs := 4) Op.move (Operand.tmp 0) => rw [← guMove_eq]
  have q1 := spr_call; have q2 := spr_guard
  first | go_region_held3 (fun w' => Kept [pb] W0 w' ∧ w'.cell? ⟨pb, 5, none⟩ = some (.pointer (some ⟨fb, 0, none⟩)) ∧ w'.cell? ⟨fb, 0, none⟩ = some (.string nm) ∧ w'.cell? ⟨w.heap.size, 0, none⟩ = some (.int .u32 x) ∧ w'.cell? ⟨w.heap.size, 1, none⟩ = some (.int .u32 y)) (first | assumption | exact HS.out _ ((Kept.refl _ _).drew) | exact HS.out _ ((Kept.refl _ _).drew).drew) (first | (go_at_call 47; refine (HE.out _ (by first | exact ((Kept.refl _ _).drew).drew | exact (Kept.refl _ _).drew | exact Kept.refl _ _) _ _).mono ?_; rintro e w8 ⟨rfl, hp8, hk8⟩; dsimp only; have hS8 := HS8.out _ _ (by first | exact ((Kept.refl _ _).drew).drew | exact (Kept.refl _ _).drew | exact Kept.refl _ _) hk8 _ hp8 rfl) | (go_simp; apply spr_row F; (case hF0 => exact hF0); intro s; try dsimp only) | (apply spr_row F; (case hF0 => exact hF0); intro s; try dsimp only)) | fail
  all_goals (
    go_wp2_with fail
    go_end0
    exact ⟨rfl, ⟨_, hp8⟩, (K0.out.weaken (by simp)).trans (Kept.trans (by first | exact ((Kept.refl _ _).drew).drew | exact (Kept.refl _ _).drew | exact Kept.refl _ _) hk8)⟩)
end
end Go.Proofs.YtolgahamfkaipaaFmt
