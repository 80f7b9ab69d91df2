/-
  FnBracesSeqStopsAt16384: BracesSeq's closure over its consumer.
-/
import Derived.Test.YtafgbgdehpcapaaGreatFmtZi
import Derived.Test.YtafgbgdehpcapaaGreatFmtZe
namespace Go.Proofs.YtafgbgdehpcapaaGreatFmt
open Go.RowKit Go.Extern.Stop Go.Stop Go.Extern



set_option maxRecDepth 100000 in
set_option maxHeartbeats 1600000 in
/-- A word is taken. -/
theorem Zd1_B {w0 w : World} {B m pk tb nb ab xb bb yb cb : Nat} {Fo : List Nat} (hj : QJ w0 B ev1 3 (Y1 B tb nb ab xb bb yb cb) (m, m, false) Fo w) (hm : m < 16384) {ob : Option Nat}
    (HY : Calls Tryz.prog 15 (#[.pointer (some ⟨pk, 0, none⟩), .nilIface] ++ #[.pointer (some ⟨B + 2, 0, none⟩), .pointer (some ⟨B + 1, 0, none⟩), .pointer (some ⟨B, 0, none⟩), .pointer (some ⟨tb, 0, none⟩), .pointer (some ⟨nb, 0, none⟩), .pointer (some ⟨ab, 0, none⟩), .pointer (some ⟨xb, 0, none⟩), .pointer (some ⟨bb, 0, none⟩), .pointer (some ⟨yb, 0, none⟩), .pointer (some ⟨cb, 0, none⟩)]) (w.setCell ⟨B + 5, 0, none⟩ (.int .i64 ((m : Int) + 1))) fun e w' => e = .returned (.bool true) ∧ ∃ W5, Kept [] (w.setCell ⟨B + 5, 0, none⟩ (.int .i64 ((m : Int) + 1))) W5 ∧ w' = W5.setCell ⟨B, 0, none⟩ (.int .i64 ((m : Int) + 1))) :
    Calls Tryz.prog 24 #[.pointer (some ⟨pk, 0, none⟩), .pointer (some ⟨B + 5, 0, none⟩), .pointer (some ⟨B + 4, 0, none⟩)] w fun e w' => e = .returned (.bool true) ∧ CallPost (QJ w0 B ev1 3 (Y1 B tb nb ab xb bb yb cb)) (m + 1, m + 1, false) Fo pk ob w w' := by
  have c4 : w.cell? ⟨B + 4, 0, none⟩ = some (.func (.func 15) #[] #[.pointer (some ⟨B + 2, 0, none⟩), .pointer (some ⟨B + 1, 0, none⟩), .pointer (some ⟨B, 0, none⟩), .pointer (some ⟨tb, 0, none⟩), .pointer (some ⟨nb, 0, none⟩), .pointer (some ⟨ab, 0, none⟩), .pointer (some ⟨xb, 0, none⟩), .pointer (some ⟨bb, 0, none⟩), .pointer (some ⟨yb, 0, none⟩), .pointer (some ⟨cb, 0, none⟩)]) := row0 hj.cy
  have c5 : w.cell? ⟨B + 5, 0, none⟩ = some (.int .i64 m) := row0 hj.cn
  have f5 := row0f hj.cn
  have hj1 : QJ w0 B ev1 3 (Y1 B tb nb ab xb bb yb cb) (m + 1, m, false) Fo (w.setCell ⟨B + 5, 0, none⟩ (.int .i64 ((m : Int) + 1))) := hj.cnt
  have hFo := hj.hF
  have kc : Kept [B + 5] w (w.setCell ⟨B + 5, 0, none⟩ (.int .i64 ((m : Int) + 1))) := (Kept.refl _ _).setCell (by simp) _
  have kF : Kept Fo w (w.setCell ⟨B + 5, 0, none⟩ (.int .i64 ((m : Int) + 1))) := kc.weaken (fun x hx => .inl (by simp at hx; simp [hFo, hx]))
  have HJ1 := Lib.hid hj1; have KF := Lib.hid kF; have HFO := Lib.hid hFo
  have HYH := Lib.hid HY
  clear hj hj1 kF hFo kc HY
  go_enter Tryz.func24, Tryz.ntmps24
  go_wp2_with (go_at_call 15; refine HYH.out.mono ?_; rintro e w' ⟨rfl, W5, hk5, rfl⟩; dsimp only)
  go_ret
  refine ⟨rfl, QJ.post ((HJ1.out.k hk5).take) ?_⟩
  exact (KF.out.trans (hk5.weaken (by simp))).setCell (by simp [HFO.out]) _

set_option maxRecDepth 100000 in
set_option maxHeartbeats 3200000 in
/-- One word too many. -/
theorem Zd1_D {w0 w : World} {B m pk tb nb ab xb bb yb cb : Nat} {Fo : List Nat} (hj : QJ w0 B ev1 3 (Y1 B tb nb ab xb bb yb cb) (m, m, false) Fo w) (hm : ¬ m < 16384) (hm2 : m ≤ 16384) (F : Interp) (hF : F.answers w0.tape) {ob : Option Nat} :
    Calls Tryz.prog 24 #[.pointer (some ⟨pk, 0, none⟩), .pointer (some ⟨B + 5, 0, none⟩), .pointer (some ⟨B + 4, 0, none⟩)] w fun e w' => e = .returned (.bool false) ∧ CallPost (QJ w0 B ev1 3 (Y1 B tb nb ab xb bb yb cb)) (m + 1, m, true) Fo pk ob w w' := by
  have c4 : w.cell? ⟨B + 4, 0, none⟩ = some (.func (.func 15) #[] #[.pointer (some ⟨B + 2, 0, none⟩), .pointer (some ⟨B + 1, 0, none⟩), .pointer (some ⟨B, 0, none⟩), .pointer (some ⟨tb, 0, none⟩), .pointer (some ⟨nb, 0, none⟩), .pointer (some ⟨ab, 0, none⟩), .pointer (some ⟨xb, 0, none⟩), .pointer (some ⟨bb, 0, none⟩), .pointer (some ⟨yb, 0, none⟩), .pointer (some ⟨cb, 0, none⟩)]) := row0 hj.cy
  have c5 : w.cell? ⟨B + 5, 0, none⟩ = some (.int .i64 m) := row0 hj.cn
  have f5 := row0f hj.cn
  have hj1 : QJ w0 B ev1 3 (Y1 B tb nb ab xb bb yb cb) (m + 1, m, false) Fo (w.setCell ⟨B + 5, 0, none⟩ (.int .i64 ((m : Int) + 1))) := hj.cnt
  have hFo := hj.hF
  have kc : Kept [B + 5] w (w.setCell ⟨B + 5, 0, none⟩ (.int .i64 ((m : Int) + 1))) := (Kept.refl _ _).setCell (by simp) _
  have kF : Kept Fo w (w.setCell ⟨B + 5, 0, none⟩ (.int .i64 ((m : Int) + 1))) := kc.weaken (fun x hx => .inl (by simp at hx; simp [hFo, hx]))
  have HJ1 := Lib.hid hj1; have KF := Lib.hid kF; have HFO := Lib.hid hFo
  have hFw : F.answers (w.setCell ⟨B + 5, 0, none⟩ (.int .i64 ((m : Int) + 1))).tape := by rw [hj1.k0.tape]; exact hF
  have HFW := Lib.hid hFw
  have hc0 : ((w.setCell ⟨B + 5, 0, none⟩ (.int .i64 ((m : Int) + 1))).alloc (.cells #[.iface 3 (.int .i64 16384)] 20)).cell? ⟨w.heap.size, 0, none⟩ = some (.iface 3 (.int .i64 16384)) := by
    have h := row_cell (L := [.iface 3 (.int .i64 16384)]) (heap_alloc_new (w.setCell ⟨B + 5, 0, none⟩ (.int .i64 ((m : Int) + 1))) (.cells #[.iface 3 (.int .i64 16384)] 20)) 0
    simpa [World.setCell] using h
  clear hj hj1 kF hFo kc hF hFw
  go_enter Tryz.func24, Tryz.ntmps24
  go_wp2_with fail
  have hc4 : ∀ W, Kept [] (w.setCell ⟨B + 5, 0, none⟩ (.int .i64 ((m : Int) + 1))) W → W.cell? ⟨B + 4, 0, none⟩ = some (.func (.func 15) #[] #[.pointer (some ⟨B + 2, 0, none⟩), .pointer (some ⟨B + 1, 0, none⟩), .pointer (some ⟨B, 0, none⟩), .pointer (some ⟨tb, 0, none⟩), .pointer (some ⟨nb, 0, none⟩), .pointer (some ⟨ab, 0, none⟩), .pointer (some ⟨xb, 0, none⟩), .pointer (some ⟨bb, 0, none⟩), .pointer (some ⟨yb, 0, none⟩), .pointer (some ⟨cb, 0, none⟩)]) := fun W kk => row0 (HJ1.out.k kk).cy
  have HC4 := Lib.hid hc4
  clear hc4
  first | go_region_held3 (fun w' => w'.cell? ⟨B + 4, 0, none⟩ = some (.func (.func 15) #[] #[.pointer (some ⟨B + 2, 0, none⟩), .pointer (some ⟨B + 1, 0, none⟩), .pointer (some ⟨B, 0, none⟩), .pointer (some ⟨tb, 0, none⟩), .pointer (some ⟨nb, 0, none⟩), .pointer (some ⟨ab, 0, none⟩), .pointer (some ⟨xb, 0, none⟩), .pointer (some ⟨bb, 0, none⟩), .pointer (some ⟨yb, 0, none⟩), .pointer (some ⟨cb, 0, none⟩)])) (first | assumption | exact HC4.out _ ((Kept.refl _ _).drew) | exact HC4.out _ (((Kept.refl _ _).drew).alloc _) | exact HC4.out _ (((Kept.refl _ _).alloc _).drew)) (first | (go_at_call 25; refine (errorf_d F (by exact HFW.out) (by exact hc0)).mono ?_; rintro e W3 ⟨⟨T3, v3, rfl⟩, hk3⟩; dsimp only; have hk4 := Kept.trans (by first | exact ((Kept.refl [] (w.setCell ⟨B + 5, 0, none⟩ (.int .i64 ((m : Int) + 1)))).drew).alloc _ | exact ((Kept.refl [] (w.setCell ⟨B + 5, 0, none⟩ (.int .i64 ((m : Int) + 1)))).alloc _).drew | exact (Kept.refl [] (w.setCell ⟨B + 5, 0, none⟩ (.int .i64 ((m : Int) + 1)))).alloc _) hk3; have hj3 := HJ1.out.k hk4; have c43 : W3.cell? ⟨B + 4, 0, none⟩ = some (.func (.func 15) #[] #[.pointer (some ⟨B + 2, 0, none⟩), .pointer (some ⟨B + 1, 0, none⟩), .pointer (some ⟨B, 0, none⟩), .pointer (some ⟨tb, 0, none⟩), .pointer (some ⟨nb, 0, none⟩), .pointer (some ⟨ab, 0, none⟩), .pointer (some ⟨xb, 0, none⟩), .pointer (some ⟨bb, 0, none⟩), .pointer (some ⟨yb, 0, none⟩), .pointer (some ⟨cb, 0, none⟩)]) := row0 hj3.cy; have HJ3 := Lib.hid hj3; have HK4 := Lib.hid hk4; clear hk3 hk4 hj3) | (go_at_call 15; have hj3 := HJ3.out; refine (y1_err hj3 T3 v3).mono ?_; clear hj3; rintro e w' ⟨rfl, rfl⟩; dsimp only; have c44 := row0 HJ3.out.err.cy)) | fail
  all_goals (
    go_wp2_with fail
    go_ret
    exact ⟨rfl, QJ.post (HJ3.out.err) ((KF.out.trans (HK4.out.weaken (by simp))).setCell (by simp [HFO.out]) _)⟩)
end Go.Proofs.YtafgbgdehpcapaaGreatFmt
