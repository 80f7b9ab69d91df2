/-
  What advanceLitHdoc calls besides: bytes.Equal, nextPos, backquoteEnd.
-/
import Derived.Test.YtnjaeooblfihbaaFmtR6
import Derived.Test.YtnjaeooblfihbaaFmtSl
import Derived.Test.YtnjaeooblfihbaaFmtByt
import Derived.OwnWalk
namespace Go.Proofs.YtnjaeooblfihbaaFmt
open Go.RowKit

theorem conv_zero (w : World) (A : Option Addr) (c : Nat) : (convert 22 9 (.slice A 0 c)).run Tryf.prog w = .ok (.string ⟨#[]⟩) w := by
  rw [run_convert_bytes_string (P := Tryf.prog) w 22 9 5 A 0 c u8_und (by kernel_rfl) (by kernel_rfl)]
  cases A <;> simp [Conv.bytesToString, loadCells]
  all_goals rfl

theorem conv_src {w : World} {A : Option Addr} {n c : Nat} {l : List UInt8} (h : SrcB w A n l) : (convert 22 9 (.slice A n c)).run Tryf.prog w = .ok (.string ⟨l.toArray⟩) w := by
  obtain ⟨hl, hc⟩ := h
  cases n with
  | zero =>
    obtain rfl : l = [] := List.eq_nil_of_length_eq_zero hl
    exact conv_zero w A c
  | succ n =>
    obtain ⟨g, o, rfl, _, hcell⟩ := hc (by omega)
    exact run_str (w := w) ⟨g, o, none⟩ (n + 1) c l hl (fun j x hj => by rw [addr_add]; exact hcell j x hj)

theorem ba_eq (l m : List UInt8) : ((⟨l.toArray⟩ : ByteArray).toList == (⟨m.toArray⟩ : ByteArray).toList) = decide (l = m) := by
  rw [ByteArray.toList_mk, ByteArray.toList_mk, Bool.eq_iff_iff]
  simp

set_option maxRecDepth 100000 in
theorem equal_any {w : World} {A1 A2 : Option Addr} {n m c d : Nat} {l1 l2 : List UInt8} (h1 : SrcB w A1 n l1) (h2 : SrcB w A2 m l2) :
    Calls Tryf.prog 36 #[.slice A1 n c, .slice A2 m d] w fun e w' => e = .returned (.bool (decide (l1 = l2))) ∧ w = w' := by
  have q1 := conv_src (c := c) h1
  have q2 := conv_src (c := d) h2
  have e := ba_eq l1 l2
  obtain ⟨s1, hs1⟩ : ∃ s : ByteArray, s = ⟨l1.toArray⟩ := ⟨_, rfl⟩
  obtain ⟨s2, hs2⟩ : ∃ s : ByteArray, s = ⟨l2.toArray⟩ := ⟨_, rfl⟩
  rw [← hs1] at q1 e; rw [← hs2] at q2 e
  rw [← e]
  clear h1 h2 hs1 hs2 e
  go_enter Tryf.func36, Tryf.ntmps36
  go_wp2
  go_ret
  exact ⟨rfl, rfl⟩

set_option maxRecDepth 100000 in
theorem bqend {w : World} {pb : Nat} (c30 : w.cell? ⟨pb, 30, none⟩ = some (.int .i64 0)) (c32 : w.cell? ⟨pb, 32, none⟩ = some (.int .i64 0)) :
    Calls Tryf.prog 35 #[.pointer (some ⟨pb, 0, none⟩)] w fun e w' => e = .returned (.bool false) ∧ Kept [] w w' := by
  go_enter Tryf.func35, Tryf.ntmps35
  go_wp2
  go_quiet (fail)
  go_wp2
  go_ret
  exact ⟨rfl, (Kept.refl _ _).drewN _⟩

set_option maxRecDepth 100000 in
theorem newpos_any (a b c : Int) (ha : 0 ≤ a) (hb : 0 ≤ b) (hc : 0 ≤ c) (w : World) :
    Calls Tryf.prog 44 #[.int .u64 a, .int .u64 b, .int .u64 c] w fun e w' => ∃ x y, e = .returned (.agg #[.int .u32 x, .int .u32 y]) ∧ w' = w.alloc (.cells #[.int .u32 x, .int .u32 y] 50) := by
  go_enter Tryf.func44, Tryf.ntmps44
  go_wp2_with fail
  all_goals (
    refine bodyPost_ret (by simp [results, Tryf.results44, go_sem]; try rfl) rfl ?_
    exact ⟨_, _, rfl, rfl⟩)
end Go.Proofs.YtnjaeooblfihbaaFmt
