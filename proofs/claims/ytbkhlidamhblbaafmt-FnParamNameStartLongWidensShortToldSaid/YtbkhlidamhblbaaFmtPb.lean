/-
  n010_56: the lexer at its start; a letter of a parameter's name.
-/
import Derived.Test.YtbkhlidamhblbaaFmtPa
namespace Go.Proofs.YtbkhlidamhblbaaFmt
open Go.RowKit

theorem newparser_z {w : World} {g z zn : Nat} (hzn : w.heap.size = zn) (hg : w.cell? ⟨g, 0, none⟩ = some (VarV z)) (hz : w.cell? ⟨z, 0, none⟩ = some (.int .i64 1)) :
    Calls Tryf.prog 11 #[.slice (some ⟨g, 0, none⟩) 1 1] w fun e w' => e = .returned (.pointer (some ⟨zn, 0, none⟩)) ∧ PB w' zn Pc.new ∧ Kept [] w w' ∧ w'.heap.size = zn + 1 := by
  subst hzn
  exact newparser_v hg hz

theorem start_world {w w1 w2 w3 W : World} {s : ByteArray} {ea : Addr} (hg : w.cell? ⟨0, 0, none⟩ = some (EOFv ea)) (hs : s.size < 10000000) (hk1 : Kept [] w w1) (hk2 : Kept [] w1 w2) (hz2 : w2.heap.size = w1.heap.size + 1 + 1) (hp3 : PB w3 (w1.heap.size + 1) (Pc.new.reset (w1.heap.size + 1))) (hk3 : Kept [w1.heap.size + 1] w2 w3) (hz3 : w3.heap.size = w2.heap.size)
    (hW : W = ((((w3.setCell ⟨w1.heap.size + 1, 5, none⟩ (.pointer (some ⟨w1.heap.size + 1 + 1, 0, none⟩))).setCell ⟨w1.heap.size + 1, 0, none⟩ (.iface 74 (.pointer (some ⟨w1.heap.size + 1 + 1 + 1, 0, none⟩)))).setCell ⟨w1.heap.size + 1, 17, none⟩ (.int .u32 2)).alloc (.cells #[.string ⟨#[]⟩, .slice none 0 0, .slice none 0 0] 73)).alloc (.cells #[.string s, .int .i64 0, .int .i64 (-1)] 81)) :
    LexS W (w1.heap.size + 1 + 1 + 1 + 1) (w1.heap.size + 1) (w1.heap.size + 1 + 1 + 1) ea (Pc.q56 (w1.heap.size + 1) (w1.heap.size + 1 + 1 + 1) (.pointer (some ⟨w1.heap.size + 1 + 1, 0, none⟩)) 2) 0 s.data.toList none 0 ∧ Kept [] w W := by
  have hz1 := hk1.size
  have k3 : Kept [w1.heap.size + 1] w2 W := by
    rw [hW]
    exact (((((hk3.setCell (by simp) _).setCell (by simp) _).setCell (by simp) _).alloc _).alloc _)
  have kw : Kept [] w W := (((hk1.trans hk2).weaken (S' := [w1.heap.size + 1]) (by simp)).trans k3).weaken (fun x hx => .inr (by simp at hx; omega))
  refine ⟨start_lex hg hs ?_ ?_ (by omega) (by omega) kw, kw⟩
  · rw [hW]
    have := (((hp3.s_f (.pointer (some ⟨w1.heap.size + 1 + 1, 0, none⟩))).s_src (.iface 74 (.pointer (some ⟨w1.heap.size + 1 + 1 + 1, 0, none⟩)))).s_quote (.int .u32 2)).kept (S := []) (((Kept.refl _ _).alloc (.cells #[.string ⟨#[]⟩, .slice none 0 0, .slice none 0 0] 73)).alloc (.cells #[.string s, .int .i64 0, .int .i64 (-1)] 81)) (by simp)
    exact this
  · rw [hW]
    have := heap_alloc_new ((((w3.setCell ⟨w1.heap.size + 1, 5, none⟩ (.pointer (some ⟨w1.heap.size + 1 + 1, 0, none⟩))).setCell ⟨w1.heap.size + 1, 0, none⟩ (.iface 74 (.pointer (some ⟨w1.heap.size + 1 + 1 + 1, 0, none⟩)))).setCell ⟨w1.heap.size + 1, 17, none⟩ (.int .u32 2)).alloc (.cells #[.string ⟨#[]⟩, .slice none 0 0, .slice none 0 0] 73)) (.cells #[.string s, .int .i64 0, .int .i64 (-1)] 81)
    simpa [hz3, hz2] using this

set_option maxRecDepth 100000 in
set_option maxHeartbeats 1600000 in
theorem start_any {w : World} {s : ByteArray} {x : UInt8} {t : List UInt8} {ea : Addr} (hst : s.data.toList = x :: t) (hs : s.size < 10000000) (hg : w.cell? ⟨0, 0, none⟩ = some (EOFv ea)) (hx : 32 ≤ x.toNat ∧ x.toNat < 127 ∧ x.toNat ≠ 92) :
    Calls Tryf.prog 9 #[.string s, .int .i64 1] w fun e w' => ∃ (B pb rb : Nat) (q : Pc), e = .returned (.pointer (some ⟨pb, 0, none⟩)) ∧ LexS w' B pb rb ea q x.toNat t none 0 ∧ w.heap.size ≤ pb ∧ w.heap.size ≤ rb ∧ w.heap.size ≤ B ∧ Kept [] w w' := by
  have HG := Lib.hid hg; have HST := Lib.hid hst
  have hgl : 0 < w.heap.size := block_lt_of_cell hg
  clear hg hst
  go_enter Tryf.func9, Tryf.ntmps9
  go_wp2_with (first
    | (go_at_call 12; refine (variant_any _).mono ?_; rintro e w1 ⟨rfl, hz1, hk1⟩; dsimp only [VarV]; have HZ1 := Lib.hid hz1; have HK1 := Lib.hid hk1; have hl1 := block_lt_of_cell hz1; clear hz1 hk1)
    | (go_at_call 11; refine (newparser_z (z := w.heap.size) (zn := w1.heap.size + 1) (by simp) (row_cell (L := [VarV w.heap.size]) (heap_alloc_new w1 _) 0) ((((Kept.refl [] w1).alloc _).cell (p := ⟨w.heap.size, 0, none⟩) hl1 (by simp)).trans HZ1.out)).mono ?_; rintro e w2 ⟨rfl, hp2, hk2, hz2⟩; have HP2 := Lib.hid hp2; have HK2 := Lib.hid (((Kept.refl [] w1).alloc _).trans hk2); clear hp2 hk2)
    | (go_at_call 13; refine (reset_new HP2.out rfl).mono ?_; rintro e w3 ⟨rfl, hp3, hk3, hz3⟩; have c0 := hp3.c_src; have c5 := hp3.c_f; have c17 := hp3.c_quote; have hf := hp3.frozen; have HP3 := Lib.hid hp3; have HK3 := Lib.hid hk3; clear hp3 hk3)
    | (go_at_call 15; have hw := start_world HG.out hs HK1.out HK2.out hz2 HP3.out HK3.out hz3 rfl; have hl := hw.1; rw [HST.out] at hl; refine (rune_s hl (by omega) (by have := HK1.out.size; omega) (by decide) (Nx.plain x t (by omega) (by omega) (by omega) (by omega))).mono ?_; rintro e w5 ⟨rfl, hl5, hk5⟩; have HL5 := Lib.hid hl5; have HK5 := Lib.hid hk5; have HKW := Lib.hid hw.2; clear hl5 hk5 hl hw)
    | (go_at_call 14; refine (newreader _ _).mono ?_; rintro e w4 ⟨rfl, rfl⟩))
  go_ret
  have hz1 := HK1.out.size
  obtain ⟨S, k5, h5⟩ := HK5.out
  exact ⟨_, _, _, _, rfl, HL5.out, by omega, by omega, by omega, (((HKW.out.weaken (S' := S) (by simp)).trans k5).weaken (fun y hy => .inr (by rcases h5 y hy with h | h | h <;> omega)))⟩
end Go.Proofs.YtbkhlidamhblbaaFmt
