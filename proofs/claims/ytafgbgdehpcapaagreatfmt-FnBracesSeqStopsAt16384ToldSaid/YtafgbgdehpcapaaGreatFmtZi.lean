/-
  FnBracesSeqStopsAt16384: its consumer, walked.
-/
import Derived.Test.YtafgbgdehpcapaaGreatFmtZb
import Derived.IntWalk
import Derived.Deep.RegionWith
import Derived.Deep.RegionHeld3
namespace Go.Proofs.YtafgbgdehpcapaaGreatFmt
open Go.RowKit

def ev1 (e : Bool) : Value := .int .i64 (if e = true then 1 else 0)
def Y1 (B tb nb ab xb bb yb cb : Nat) : Value := .func (.func 15) #[] #[.pointer (some ⟨B + 2, 0, none⟩), .pointer (some ⟨B + 1, 0, none⟩), .pointer (some ⟨B, 0, none⟩), .pointer (some ⟨tb, 0, none⟩), .pointer (some ⟨nb, 0, none⟩), .pointer (some ⟨ab, 0, none⟩), .pointer (some ⟨xb, 0, none⟩), .pointer (some ⟨bb, 0, none⟩), .pointer (some ⟨yb, 0, none⟩), .pointer (some ⟨cb, 0, none⟩)]

set_option maxRecDepth 100000 in
theorem y1_err {w0 W : World} {B tb nb ab xb bb yb cb : Nat} {fy : Value} {n m : Nat} {F : List Nat} (hj : QJ w0 B ev1 3 fy (n, m, false) F W) (T : TypeId) (ve : Value) :
    Calls Tryz.prog 15 #[.pointer none, .iface T ve, .pointer (some ⟨B + 2, 0, none⟩), .pointer (some ⟨B + 1, 0, none⟩), .pointer (some ⟨B, 0, none⟩), .pointer (some ⟨tb, 0, none⟩), .pointer (some ⟨nb, 0, none⟩), .pointer (some ⟨ab, 0, none⟩), .pointer (some ⟨xb, 0, none⟩), .pointer (some ⟨bb, 0, none⟩), .pointer (some ⟨yb, 0, none⟩), .pointer (some ⟨cb, 0, none⟩)] W fun e w' => e = .returned (.bool true) ∧ w' = W.setCell ⟨B + 1, 0, none⟩ (ev1 true) := by
  have c1 := row0 hj.cd
  have c3 : W.cell? ⟨B + 1, 0, none⟩ = some (.int .i64 0) := row0 hj.ce
  have f3 := row0f hj.ce
  clear hj
  go_enter Tryz.func15, Tryz.ntmps15
  go_wp2_with fail
  go_ret
  exact ⟨rfl, rfl⟩

set_option maxRecDepth 100000 in
set_option maxHeartbeats 3200000 in
theorem y1_word {w0 W : World} {B tb nb ab xb bb yb cb pk tot m i j n1 n2 c1 c2 g1 o1 g2 o2 : Nat} {fy : Value} {k0 : Nat} {F : List Nat} {a b c x y : ByteArray} (hj : QJ w0 B ev1 3 fy (k0, m, false) F W) (hm : m < 16384) (hmt : m < tot)
    (ha : W.cell? ⟨ab, 0, none⟩ = some (.string a)) (hb : W.cell? ⟨bb, 0, none⟩ = some (.string b)) (hc : W.cell? ⟨cb, 0, none⟩ = some (.string c)) (hx : W.cell? ⟨xb, 0, none⟩ = some (.slice (some ⟨g1, o1, none⟩) n1 c1)) (hy : W.cell? ⟨yb, 0, none⟩ = some (.slice (some ⟨g2, o2, none⟩) n2 c2)) (hn : W.cell? ⟨nb, 0, none⟩ = some (.int .i64 n2)) (htb : W.cell? ⟨tb, 0, none⟩ = some (.int .i64 tot))
    (hx1 : W.cell? ⟨g1, o1 + i, none⟩ = some (.string x)) (hy1 : W.cell? ⟨g2, o2 + j, none⟩ = some (.string y)) (hi : i < n1) (hn1 : n1 ≤ 1000000000) (hjn : j < n2)
    (q1 : (m : Int) / n2 = (i : Nat)) (q2 : (m : Int).tdiv n2 = (i : Nat)) (q3 : (m : Int) % n2 = (j : Nat)) (q4 : (m : Int).tmod n2 = (j : Nat)) (hcat : (catB [a, x, b, y, c]).size ≤ 1000000000)
    (HL : ∀ W', Kept [] W W' → Calls Tryz.prog 12 #[.pointer (some ⟨pk, 0, none⟩)] W' fun e w' => e = .returned (.string (catB [a, x, b, y, c])) ∧ Kept [] W' w') :
    Calls Tryz.prog 15 #[.pointer (some ⟨pk, 0, none⟩), .nilIface, .pointer (some ⟨B + 2, 0, none⟩), .pointer (some ⟨B + 1, 0, none⟩), .pointer (some ⟨B, 0, none⟩), .pointer (some ⟨tb, 0, none⟩), .pointer (some ⟨nb, 0, none⟩), .pointer (some ⟨ab, 0, none⟩), .pointer (some ⟨xb, 0, none⟩), .pointer (some ⟨bb, 0, none⟩), .pointer (some ⟨yb, 0, none⟩), .pointer (some ⟨cb, 0, none⟩)] W fun e w' => e = .returned (.bool true) ∧ ∃ W5, Kept [] W W5 ∧ w' = W5.setCell ⟨B, 0, none⟩ (.int .i64 ((m : Int) + 1)) := by
  have d1 := row0 hj.cd
  have d3 : W.cell? ⟨B + 1, 0, none⟩ = some (.int .i64 0) := row0 hj.ce
  have d2 : W.cell? ⟨B, 0, none⟩ = some (.int .i64 m) := row0 hj.cs
  have HS := Lib.hid (fun (w' : World) (kk : Kept [] W w') => (show Kept [] W w' ∧ w'.cell? ⟨B, 0, none⟩ = some (.int .i64 m) ∧ w'.frozen? ⟨B, 0, none⟩ = false ∧ w'.cell? ⟨ab, 0, none⟩ = some (.string a) ∧ w'.cell? ⟨bb, 0, none⟩ = some (.string b) ∧ w'.cell? ⟨cb, 0, none⟩ = some (.string c) ∧ w'.cell? ⟨xb, 0, none⟩ = some (.slice (some ⟨g1, o1, none⟩) n1 c1) ∧ w'.cell? ⟨yb, 0, none⟩ = some (.slice (some ⟨g2, o2, none⟩) n2 c2) ∧ w'.cell? ⟨g1, o1 + i, none⟩ = some (.string x) ∧ w'.cell? ⟨g2, o2 + j, none⟩ = some (.string y) from
    ⟨kk, (kk.cell (p := ⟨B, 0, none⟩) (block_lt_of_cell d2) (by simp)).trans d2, row0f ((kk.block _ (heap_lt hj.cs) (by simp)).trans hj.cs), (kk.cell (p := ⟨ab, 0, none⟩) (block_lt_of_cell ha) (by simp)).trans ha, (kk.cell (p := ⟨bb, 0, none⟩) (block_lt_of_cell hb) (by simp)).trans hb, (kk.cell (p := ⟨cb, 0, none⟩) (block_lt_of_cell hc) (by simp)).trans hc, (kk.cell (p := ⟨xb, 0, none⟩) (block_lt_of_cell hx) (by simp)).trans hx, (kk.cell (p := ⟨yb, 0, none⟩) (block_lt_of_cell hy) (by simp)).trans hy, (kk.cell (p := ⟨g1, o1 + i, none⟩) (block_lt_of_cell hx1) (by simp)).trans hx1, (kk.cell (p := ⟨g2, o2 + j, none⟩) (block_lt_of_cell hy1) (by simp)).trans hy1⟩))
  have G1 := Lib.hid HL; have HCAT := Lib.hid hcat
  clear hj HL hcat
  go_enter Tryz.func15, Tryz.ntmps15
  go_wp2_with fail
  first | go_region_held3 (fun w' => Kept [] W w' ∧ w'.cell? ⟨B, 0, none⟩ = some (.int .i64 m) ∧ w'.frozen? ⟨B, 0, none⟩ = false ∧ w'.cell? ⟨ab, 0, none⟩ = some (.string a) ∧ w'.cell? ⟨bb, 0, none⟩ = some (.string b) ∧ w'.cell? ⟨cb, 0, none⟩ = some (.string c) ∧ w'.cell? ⟨xb, 0, none⟩ = some (.slice (some ⟨g1, o1, none⟩) n1 c1) ∧ w'.cell? ⟨yb, 0, none⟩ = some (.slice (some ⟨g2, o2, none⟩) n2 c2) ∧ w'.cell? ⟨g1, o1 + i, none⟩ = some (.string x) ∧ w'.cell? ⟨g2, o2 + j, none⟩ = some (.string y)) (first | exact HS.out _ (by assumption) | exact HS.out _ ((Kept.refl _ _).drew)) (first | (go_at_call 12; refine (G1.out _ (by first | assumption | (go_split_ands; assumption))).mono ?_; rintro e w7 ⟨rfl, hk7⟩; dsimp only; have hk8 := Kept.trans (by first | assumption | (go_split_ands; assumption)) hk7) | (go_at_call 16; refine (iscat_yes _ _ _ _ _ _ rfl HCAT.out _).mono ?_; rintro e w' ⟨rfl, rfl⟩; dsimp only)) | fail
  all_goals (
    go_split_ands
    go_wp2_with fail
    go_ret
    exact ⟨rfl, _, by assumption, rfl⟩)
end Go.Proofs.YtafgbgdehpcapaaGreatFmt
