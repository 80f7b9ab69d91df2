/-
  FnBracesSeqAgreesWithBraces: its consumer, walked.
-/
import Derived.Test.YtafgbgdehpcapaaGreatFmtZb
import Derived.IntWalk
import Derived.Deep.RegionWith
import Derived.Deep.RegionHeld3
namespace Go.Proofs.YtafgbgdehpcapaaGreatFmt
open Go.RowKit

def Y2 (B kb tb : Nat) : Value := .func (.func 11) #[] #[.pointer (some ⟨B + 2, 0, none⟩), .pointer (some ⟨kb, 0, none⟩), .pointer (some ⟨B, 0, none⟩), .pointer (some ⟨B + 1, 0, none⟩), .pointer (some ⟨tb, 0, none⟩)]

set_option maxRecDepth 100000 in
theorem y2_stop {w0 W : World} {B kb tb : Nat} {fy : Value} {s : Nat × Nat × Bool} {F : List Nat} {k : Int} (hj : QJ w0 B Value.bool 4 fy s F W) (hk : W.cell? ⟨kb, 0, none⟩ = some (.int .i64 k)) (h1 : 0 ≤ k) (h2 : k ≤ s.2.1) (v e0 : Value) :
    Calls Tryz.prog 11 #[v, e0, .pointer (some ⟨B + 2, 0, none⟩), .pointer (some ⟨kb, 0, none⟩), .pointer (some ⟨B, 0, none⟩), .pointer (some ⟨B + 1, 0, none⟩), .pointer (some ⟨tb, 0, none⟩)] W fun e w' => e = .returned (.bool false) ∧ W = w' := by
  have c1 := row0 hj.cd
  have c2 := row0 hj.cs
  clear hj
  go_enter Tryz.func11, Tryz.ntmps11
  go_wp2_with fail
  go_ret
  exact ⟨rfl, rfl⟩

set_option maxRecDepth 100000 in
theorem y2_err {w0 W : World} {B kb tb : Nat} {fy : Value} {s : Nat × Nat × Bool} {F : List Nat} {k : Int} (hj : QJ w0 B Value.bool 4 fy s F W) (hk : W.cell? ⟨kb, 0, none⟩ = some (.int .i64 k)) (h1 : ¬ (0 ≤ k ∧ k ≤ (s.2.1 : Int))) (v : Value) (T : TypeId) (ve : Value) :
    Calls Tryz.prog 11 #[v, .iface T ve, .pointer (some ⟨B + 2, 0, none⟩), .pointer (some ⟨kb, 0, none⟩), .pointer (some ⟨B, 0, none⟩), .pointer (some ⟨B + 1, 0, none⟩), .pointer (some ⟨tb, 0, none⟩)] W fun e w' => e = .returned (.bool true) ∧ w' = W.setCell ⟨B + 1, 0, none⟩ (.bool true) := by
  have c1 := row0 hj.cd
  have c2 := row0 hj.cs
  have c3 := row0 hj.ce
  have f3 := row0f hj.ce
  clear hj
  by_cases q : 0 ≤ k
  · have q2 : ¬ k ≤ (s.2.1 : Int) := fun h => h1 ⟨q, h⟩
    clear h1
    go_enter Tryz.func11, Tryz.ntmps11
    go_wp2_with fail
    go_ret
    exact ⟨rfl, rfl⟩
  · clear h1
    go_enter Tryz.func11, Tryz.ntmps11
    go_wp2_with fail
    go_ret
    exact ⟨rfl, rfl⟩

set_option maxRecDepth 100000 in
set_option maxHeartbeats 1600000 in
theorem y2_word {w0 W : World} {B kb tb g pk pk2 tot dA m : Nat} {fy : Value} {b0 : Bool} {c0 : Nat} {F : List Nat} {k : Int} {S : ByteArray} (hj : QJ w0 B Value.bool 4 fy (c0, m, b0) F W) (hk : W.cell? ⟨kb, 0, none⟩ = some (.int .i64 k)) (h1 : ¬ (0 ≤ k ∧ k ≤ (m : Int))) (hm : m < tot) (ht : tot ≤ 65536)
    (hl : W.cell? ⟨tb, 0, none⟩ = some (.slice (some ⟨g, 0, none⟩) tot dA)) (hg : W.cell? ⟨g, m, none⟩ = some (.pointer (some ⟨pk2, 0, none⟩)))
    (HL1 : ∀ W', Kept [] W W' → Calls Tryz.prog 12 #[.pointer (some ⟨pk, 0, none⟩)] W' fun e w' => e = .returned (.string S) ∧ Kept [] W' w') (HL2 : ∀ W', Kept [] W W' → Calls Tryz.prog 12 #[.pointer (some ⟨pk2, 0, none⟩)] W' fun e w' => e = .returned (.string S) ∧ Kept [] W' w') :
    Calls Tryz.prog 11 #[.pointer (some ⟨pk, 0, none⟩), .nilIface, .pointer (some ⟨B + 2, 0, none⟩), .pointer (some ⟨kb, 0, none⟩), .pointer (some ⟨B, 0, none⟩), .pointer (some ⟨B + 1, 0, none⟩), .pointer (some ⟨tb, 0, none⟩)] W fun e w' => e = .returned (.bool true) ∧ ∃ W5, Kept [] W W5 ∧ w' = W5.setCell ⟨B, 0, none⟩ (.int .i64 ((m : Int) + 1)) := by
  have c1 := row0 hj.cd
  have c2 : W.cell? ⟨B, 0, none⟩ = some (.int .i64 m) := row0 hj.cs
  have HS := Lib.hid (fun (w' : World) (kk : Kept [] W w') => (show Kept [] W w' ∧ w'.cell? ⟨tb, 0, none⟩ = some (.slice (some ⟨g, 0, none⟩) tot dA) ∧ w'.cell? ⟨B, 0, none⟩ = some (.int .i64 m) ∧ w'.frozen? ⟨B, 0, none⟩ = false ∧ w'.cell? ⟨g, m, none⟩ = some (.pointer (some ⟨pk2, 0, none⟩)) from ⟨kk, (kk.cell (p := ⟨tb, 0, none⟩) (block_lt_of_cell hl) (by simp)).trans hl, (kk.cell (p := ⟨B, 0, none⟩) (block_lt_of_cell c2) (by simp)).trans c2, row0f ((kk.block _ (heap_lt hj.cs) (by simp)).trans hj.cs), (kk.cell (p := ⟨g, m, none⟩) (block_lt_of_cell hg) (by simp)).trans hg⟩))
  have G1 := Lib.hid HL1; have G2 := Lib.hid HL2
  have qk : ¬ (0 ≤ k) ∨ (0 ≤ k ∧ ¬ k ≤ (m : Int)) := by
    by_cases q : 0 ≤ k
    · exact .inr ⟨q, fun h => h1 ⟨q, h⟩⟩
    · exact .inl q
  clear hj h1 HL1 HL2
  rcases qk with q | ⟨q, q2⟩
  all_goals (
    go_enter Tryz.func11, Tryz.ntmps11
    go_wp2_with fail
    first | go_region_held3 (fun w' => Kept [] W w' ∧ w'.cell? ⟨tb, 0, none⟩ = some (.slice (some ⟨g, 0, none⟩) tot dA) ∧ w'.cell? ⟨B, 0, none⟩ = some (.int .i64 m) ∧ w'.frozen? ⟨B, 0, none⟩ = false ∧ w'.cell? ⟨g, m, none⟩ = some (.pointer (some ⟨pk2, 0, none⟩))) (first | exact HS.out _ (by assumption) | exact HS.out _ ((Kept.refl _ _).drew)) (first | (go_at_call_of 12 (Value.pointer (some ⟨pk, 0, none⟩)); refine (G1.out _ (by first | assumption | (go_split_ands; assumption))).mono ?_; rintro e w7 ⟨rfl, hk7⟩; dsimp only; have hk8 := Kept.trans (by first | assumption | (go_split_ands; assumption)) hk7) | (go_at_call_of 12 (Value.pointer (some ⟨pk2, 0, none⟩)); refine (G2.out _ (by first | assumption | (go_split_ands; assumption))).mono ?_; rintro e w7 ⟨rfl, hk7⟩; dsimp only; have hk8 := Kept.trans (by first | assumption | (go_split_ands; assumption)) hk7)) | fail
    all_goals (
      go_split_ands
      go_wp2_with fail
      go_ret
      exact ⟨rfl, _, by assumption, rfl⟩))
end Go.Proofs.YtafgbgdehpcapaaGreatFmt
