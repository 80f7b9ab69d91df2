/-
  rune, in pieces: a rune of more than one byte: what is wanted.
-/
import Derived.Test.YtnjaeooblfihbaaFmtRx
import Derived.Test.YtnjaeooblfihbaaFmtMd
import Derived.BigQuiet
namespace Go.Proofs.YtnjaeooblfihbaaFmt
open Go.RowKit

theorem md_k0 {w w' : World} {B pb rb : Nat} {ea : Addr} {p : Pc} {win rest u : List UInt8} {bsp : Nat} {offs : Int} (h : Md w B pb rb ea p win rest bsp offs u) (hB : 0 < B) (k : Kept [] w w') : Md w' B pb rb ea p win rest bsp offs u := by
  have := h.step (Kb.of k (by simp)) hB (h.lx.hpb.kept k (by simp)) 0 (by have := h.hb; omega) rfl rfl rfl (by simpa using h.lx.hbsp) rfl rfl rfl
  simpa using this
theorem md_r {w : World} {B pb rb : Nat} {ea : Addr} {p : Pc} {win rest u : List UInt8} {bsp : Nat} {offs : Int} (h : Md w B pb rb ea p win rest bsp offs u) (hB : 0 < B) (v : Value) : Md (w.setCell ⟨pb, 3, none⟩ v) B pb rb ea { p with r := v } win rest bsp offs u := by
  have := h.step (Kb.of ((Kept.refl [pb] w).setCell (p := ⟨pb, 3, none⟩) (by simp) v) (by simp)) hB (h.lx.hpb.s_r v) 0 (by have := h.hb; omega) rfl rfl rfl (by simpa using h.lx.hbsp) rfl rfl rfl
  simpa using this
theorem win_cells {w : World} {B pb rb : Nat} {ea : Addr} {p : Pc} {win rest u : List UInt8} {bsp : Nat} {offs : Int} (h : Md w B pb rb ea p win rest bsp offs u) : ∀ j x, (win.drop bsp)[j]? = some x → w.cell? ⟨pb, 39 + bsp + j, none⟩ = some (By x) := fun j x hj => by
  rw [List.getElem?_drop] at hj
  rw [Nat.add_assoc]
  exact h.lx.byte (bsp + j) x hj
theorem dec_md {w : World} {B pb rb : Nat} {ea : Addr} {p : Pc} {win rest u : List UInt8} {bsp : Nat} {offs : Int} (h : Md w B pb rb ea p win rest bsp offs u) (hbw : bsp < win.length) (hT : Tabs w) {a n : Nat} (hd : dcN (win.drop bsp) = (a, n)) :
    Calls Tryf.prog 30 #[.slice (some ⟨pb, 39 + bsp, none⟩) (win.length - bsp) (1024 - bsp)] w fun e w' => e = .returned (.tuple #[.int .i32 a, .int .i64 n]) ∧ Kept [] w w' := by
  have := decr (win.drop bsp) (by intro e; have := congrArg List.length e; simp at this; omega) pb (39 + bsp) (win.length - bsp) (1024 - bsp) (by simp) w hT (win_cells h)
  rw [hd] at this
  exact this
theorem full_md {w : World} {B pb rb : Nat} {ea : Addr} {p : Pc} {win rest u : List UInt8} {bsp : Nat} {offs : Int} (h : Md w B pb rb ea p win rest bsp offs u) (hT : Tabs w) {bs : List UInt8} {a k : Nat} (hm : MB bs a) (hl : (∃ d, win.drop bsp = bs ++ d) ∨ (0 < k ∧ k < bs.length ∧ win.drop bsp = bs.take k)) (F : Bool) (hF : F = fullL (win.drop bsp)) :
    Calls Tryf.prog 31 #[.slice (some ⟨pb, 39 + bsp, none⟩) (win.length - bsp) (1024 - bsp)] w fun e w' => e = .returned (.bool F) ∧ Kept [] w w' :=
  fullr_l hm hl (by have := h.lx.hfit; simp; omega) pb (39 + bsp) (win.length - bsp) (1024 - bsp) (by simp) w hT (win_cells h) F hF

/-- The end: the window moves on, the width is stored. -/
theorem dec_fin {w W : World} {B pb rb : Nat} {ea : Addr} {p : Pc} {win rest u : List UInt8} {bsp : Nat} {offs : Int} {bs d : List UInt8} {a : Nat} {R : Ending → World → Prop} (h : Md W B pb rb ea { p with r := .int .i32 a } win rest bsp offs u) (hB : 0 < B) (hu : u = bs ++ d) (hw : bsp + bs.length ≤ win.length) (k : Kb B pb w W)
    (hR : ∀ w', Md w' B pb rb ea { p with r := .int .i32 a, w := .int .i64 (bs.length : Nat), bsp := .int .u64 ((bsp + bs.length : Nat) : Int) } win rest (bsp + bs.length) offs d → Kb B pb w w' → R (.returned (.int .i32 a)) w') {W4 : World} (hW : W4 = (W.setCell ⟨pb, 2, none⟩ (.int .u64 ((bsp + bs.length : Nat) : Int))).setCell ⟨pb, 4, none⟩ (.int .i64 (bs.length : Nat))) : R (.returned (.int .i32 a)) W4 := by
  have hk : Kept [pb] W W4 := by rw [hW]; exact ((Kept.refl _ _).setCell (p := ⟨pb, 2, none⟩) (by simp) _).setCell (p := ⟨pb, 4, none⟩) (by simp) _
  have hp : PB W4 pb { p with r := .int .i32 a, w := .int .i64 (bs.length : Nat), bsp := .int .u64 ((bsp + bs.length : Nat) : Int) } := by rw [hW]; exact (h.lx.hpb.s_bsp _).s_w _
  have := h.step (Kb.of hk (by simp)) hB hp bs.length hw rfl rfl rfl rfl rfl rfl rfl
  rw [hu, List.drop_left] at this
  exact hR W4 this (k.trans (Kb.of hk (by simp)))


end Go.Proofs.YtnjaeooblfihbaaFmt
