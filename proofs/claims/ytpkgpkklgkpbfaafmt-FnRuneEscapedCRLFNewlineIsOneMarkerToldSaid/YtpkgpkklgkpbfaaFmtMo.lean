/-
  n010_110: FnRuneDecodesPlainInput, walked.
-/
import Derived.Test.YtpkgpkklgkpbfaaFmtMn
import Derived.Test.YtpkgpkklgkpbfaaFmtMm
import Derived.Test.YtpkgpkklgkpbfaaFmtConv
import Derived.IntWalk
namespace Go.Proofs.YtpkgpkklgkpbfaaFmt
open Go.RowKit

/-- The sizes, added up; each, and the sum, at most 1 << 20. -/
def acc : Nat → List Nat → Option Nat
  | t, [] => some t
  | t, x :: l => if 1048576 < x then none else if 1048576 < t + x then none else acc (t + x) l

set_option maxRecDepth 100000 in
set_option maxHeartbeats 1600000 in
theorem zb_FnRuneDecodesPlainInput {w : World} (p0 : ByteArray) (s0 : p0.size ≤ 9223372036854775807) : Calls Tryf.prog 9 #[.string p0] w fun e w' => e = .returned (.bool (acc 0 (p0.size :: [])).isSome) ∧ w = w' := by
  obtain ⟨bv, hbv⟩ : ∃ b, b = (acc 0 (p0.size :: [])).isSome := ⟨_, rfl⟩
  rw [← hbv]
  have HBV := Lib.hid hbv
  clear hbv
  go_enter Tryf.func9, Tryf.ntmps9
  by_cases g0 : 1048576 < p0.size
  · go_wp2_with fail
    go_ret
    rw [HBV.out]
    have e : acc 0 (p0.size :: []) = none := by
      simp only [acc, Nat.zero_add]
      repeat' split
      all_goals first | rfl | omega
    rw [e]
    exact ⟨rfl, rfl⟩
  go_wp2_with fail
  go_ret
  rw [HBV.out]
  have e : (acc 0 (p0.size :: [])).isSome = true := by
    simp only [acc, Nat.zero_add]
    repeat' split
    all_goals first | rfl | omega
  rw [e]
  exact ⟨rfl, rfl⟩

theorem acc_one {a : Nat} : (acc 0 [a]).isSome = true ↔ a ≤ 1048576 := by
  simp only [acc, Nat.zero_add]
  split
  · simp; omega
  · simp; omega

/-- The runes of the input lie below the lexer. -/
theorem rd_low {w w2 w3 w4 : World} {A : Option Addr} {n c : Nat} {l : List Value} (h : RdV (w.heap.size ≤ ·) w2 (.slice A n c) l) (k : Kept [] w2 w3) (k2 : Kept [] w3 w4) : RdV (· < w3.heap.size) w4 (.slice A n c) l :=
  ((h.weaken (Q := (· < w3.heap.size)) (fun g hg _ => Nat.lt_of_lt_of_le hg k.size)).kept k (by simp)).kept k2 (by simp)

theorem skipA (w : World) (s : ByteArray) (h2 : s.size ≤ 9223372036854775807) (h : 1048576 < s.size) : Calls Tryf.prog 4 #[.string s] w fun e w' => e = .returned (.bool true) ∧ w = w' := by
  have HB := Lib.hid (fun w => zb_FnRuneDecodesPlainInput (w := w) s h2)
  rw [show (acc 0 [s.size]).isSome = false by rw [Bool.eq_false_iff]; exact fun e => by have := acc_one.1 e; omega] at HB
  clear h
  go_enter Tryf.func4, Tryf.ntmps4
  go_wp2_with (go_at_call 9; refine (HB.out _).mono ?_; rintro e w' ⟨rfl, rfl⟩)
  go_ret
  exact ⟨rfl, rfl⟩

set_option maxRecDepth 100000 in
set_option maxHeartbeats 800000 in
theorem skipB (w : World) (s : ByteArray) (h : s.size ≤ 1048576) (hG : plF (s.size + 1) s.data.toList = none) : Calls Tryf.prog 4 #[.string s] w fun e w' => e = .returned (.bool true) ∧ Kept [] w w' := by
  have HB := Lib.hid (fun w => zb_FnRuneDecodesPlainInput (w := w) s (by omega))
  rw [acc_one.2 h] at HB
  have HP : Hid (∀ w, Calls Tryf.prog 10 #[.string s] w fun e w' => e = .returned (.tuple #[.slice none 0 0, .bool false]) ∧ Kept [] w w') := Lib.hid (fun w => (zplain w s (by omega) none hG.symm).mono fun e w' h => h.elim (fun h => h.2) (fun ⟨_, _, _, _, h, _⟩ => by cases h))
  clear hG
  have hsz : ¬ (1048576 : Int) < (s.size : Int) := by omega
  go_enter Tryf.func4, Tryf.ntmps4
  go_wp2_with (first
    | (go_at_call 9; refine (HB.out _).mono ?_; rintro e w' ⟨rfl, rfl⟩)
    | (go_at_call 10; refine (HP.out _).mono ?_; rintro e w1 ⟨rfl, hk1⟩; have HK1 := Lib.hid hk1; clear hk1))
  go_ret
  exact ⟨rfl, HK1.out⟩

set_option maxRecDepth 100000 in
set_option maxHeartbeats 1600000 in
theorem okD (w : World) (s : ByteArray) (ea : Addr) (R : List Int) (h : s.size ≤ 1048576) (hG : plF (s.size + 1) s.data.toList = some R) (hg : w.cell? ⟨0, 0, none⟩ = some (EOFv ea)) (hT : Tabs w) : Calls Tryf.prog 4 #[.string s] w fun e w' => e = .returned (.bool true) ∧ Kept [] w w' := by
  have HB := Lib.hid (fun w => zb_FnRuneDecodesPlainInput (w := w) s (by omega))
  rw [acc_one.2 h] at HB
  have HP : Hid (∀ w, Calls Tryf.prog 10 #[.string s] w fun e w' => ∃ A n c, e = .returned (.tuple #[.slice A n c, .bool true]) ∧ RdV (w.heap.size ≤ ·) w' (.slice A n c) (i32V R) ∧ n = R.length ∧ Kept [] w w') := Lib.hid (fun w => (zplain w s (by omega) (some R) hG.symm).mono fun e w' h => h.elim (fun h => by cases h.1) (fun ⟨_, A, n, c, h, h2⟩ => by cases h; exact ⟨A, n, c, h2⟩))
  have HST := Lib.hid (plF_str _ _ _ hG)
  have HG := Lib.hid hg; have HT := Lib.hid hT
  have HRL := Lib.hid (plF_len _ _ _ hG)
  clear hG hg hT
  have hsz : ¬ (1048576 : Int) < (s.size : Int) := by omega
  go_enter Tryf.func4, Tryf.ntmps4
  go_wp2_with (first
    | (go_at_call 9; refine (HB.out _).mono ?_; rintro e w' ⟨rfl, rfl⟩)
    | (go_at_call 10; refine (HP.out _).mono ?_; rintro e w1 ⟨A, n, c, rfl, hrd, hn, hk1⟩; have HK1 := Lib.hid hk1; have HRD := Lib.hid hrd; have HN := Lib.hid hn; clear hk1 hrd hn)
    | (refine wpList_bytes rfl _ rfl s rfl ?_; intro A2 cap w2 hs2 hcap2 hk2 _; have HS2 := Lib.hid hs2; have HK2 := Lib.hid hk2; have HC2 := Lib.hid hcap2; clear hs2 hk2 hcap2)
    | (go_at_call 6; refine (newlexer w2 A2 s.size cap 0 s.data.toList ea HS2.out (by omega) HC2.out (((HK1.out.trans HK2.out).cell (p := ⟨0, 0, none⟩) (block_lt_of_cell HG.out) (by simp)).trans HG.out)).mono ?_; rintro e w3 ⟨rfl, hlx, hk3⟩; have HLX := Lib.hid (lexm_fresh (HT.out.kept (HK1.out.trans HK2.out) (by simp)) rfl hlx hk3 (by have : s.data.toList.length = s.size := rfl; omega)); have HK3 := Lib.hid hk3; clear hlx hk3)
    | (go_at_call 8;
       have hgl : 0 < w2.heap.size := Nat.lt_of_lt_of_le (block_lt_of_cell HG.out) (Nat.le_trans HK1.out.size HK2.out.size);
       refine (zstream HLX.out (by omega) (by decide) (HST.out 0) rfl HN.out (by have := HN.out; have := HRL.out; have e : s.data.toList.length = s.size := rfl; omega) (rd_low HRD.out HK2.out HK3.out) (fun g hg => ⟨by omega, by omega, by omega⟩)).mono ?_; rintro e w4 ⟨rfl, hk4⟩; have HK4 := Lib.hid hk4; clear hk4 hgl))
  go_ret
  obtain ⟨S, k4, hS⟩ := HK4.out
  refine ⟨rfl, ((((HK1.out.trans HK2.out).trans HK3.out).weaken (S' := S) (by simp)).trans k4).weaken (fun x hx => .inr ?_)⟩
  have q1 := HK1.out.size; have q2 := HK2.out.size
  rcases hS x hx with h | h | h <;> omega

theorem law_FnRuneDecodesPlainInput (w : World) (s : ByteArray) (ea : Addr) (h1 : s.size ≤ 9223372036854775807) (hg : w.cell? ⟨0, 0, none⟩ = some (EOFv ea)) (hT : Tabs w) : Calls Tryf.prog 4 #[.string s] w fun e w' => e = .returned (.bool true) ∧ Kept [] w w' := by
  by_cases h : s.size ≤ 1048576
  · cases hG : plF (s.size + 1) s.data.toList with
    | none => exact skipB w s h hG
    | some R => exact okD w s ea R h hG hg hT
  · exact (skipA w s h1 (by omega)).mono fun e w' hh => ⟨hh.1, hh.2 ▸ Kept.refl _ _⟩
end Go.Proofs.YtpkgpkklgkpbfaaFmt
