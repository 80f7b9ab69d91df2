/-
  n010_119: FnParamTokenSameInEveryDialect, walked.
-/
import Derived.Test.YtolgahamfkaipaaFmtTp
namespace Go.Proofs.YtolgahamfkaipaaFmt
open Go.RowKit Go.Stop Go.Extern

/-- The sizes, added up; each, and the sum, at most 1 << 20. -/
def acc : Nat → List Nat → Option Nat
  | t, [] => some t
  | t, x :: l => if 1048576 < x then none else if 1048576 < t + x then none else acc (t + x) l
theorem acc_one {a : Nat} : (acc 0 [a]).isSome = true ↔ a ≤ 1048576 := by
  simp only [acc, Nat.zero_add]
  split
  · simp; omega
  · simp; omega
theorem nxt_head {s : ByteArray} (h : 0 < s.size) : nxt s.data.toList = if s[0].toNat < 128 then (s[0].toNat : Int) else nxt s.data.toList := by
  have e := str_at h
  cases hl : s.data.toList with
  | nil => rw [hl] at e; cases e
  | cons x d =>
    rw [hl] at e
    obtain rfl : x = s[0] := Option.some.inj e
    split
    · next h2 => exact nxt_ascii h2
    · rfl
set_option maxRecDepth 100000 in
set_option maxHeartbeats 1600000 in
theorem zb_FnParamTokenSameInEveryDialect {w : World} (p0 : ByteArray) (s0 : p0.size ≤ 9223372036854775807) : Calls Tryf.prog 7 #[.string p0] w fun e w' => e = .returned (.bool (acc 0 (p0.size :: [])).isSome) ∧ w = w' := by
  obtain ⟨bv, hbv⟩ : ∃ b, b = (acc 0 (p0.size :: [])).isSome := ⟨_, rfl⟩
  rw [← hbv]
  have HBV := Lib.hid hbv
  clear hbv
  go_enter Tryf.func7, Tryf.ntmps7
  by_cases g0 : 1048576 < p0.size
  · go_wp2_with fail
    go_ret
    rw [HBV.out]
    have e : acc 0 (p0.size :: []) = none := by
      simp only [acc, Nat.zero_add]
      repeat' split
      all_goals first | rfl | omega
    rw [e]
    exact ⟨rfl, rfl⟩
  go_wp2_with fail
  go_ret
  rw [HBV.out]
  have e : (acc 0 (p0.size :: [])).isSome = true := by
    simp only [acc, Nat.zero_add]
    repeat' split
    all_goals first | rfl | omega
  rw [e]
  exact ⟨rfl, rfl⟩
set_option maxRecDepth 100000 in
set_option maxHeartbeats 1600000 in
theorem par_big (w : World) (s : ByteArray) (h2 : s.size ≤ 9223372036854775807) (h : 1048576 < s.size) : Calls Tryf.prog 3 #[.string s] w fun e w' => e = .returned (.bool true) ∧ w = w' := by
  have HB := Lib.hid (fun w => zb_FnParamTokenSameInEveryDialect (w := w) s (by omega))
  rw [show (acc 0 [s.size]).isSome = false by rw [Bool.eq_false_iff]; exact fun e => by have := acc_one.1 e; omega] at HB
  go_enter Tryf.func3, Tryf.ntmps3
  go_wp2_with (first
    | (go_at_call 7; refine (HB.out _).mono ?_; rintro e w' ⟨rfl, rfl⟩))
  all_goals (
    go_ret
    exact ⟨rfl, rfl⟩)
set_option maxRecDepth 100000 in
set_option maxHeartbeats 1600000 in
theorem par_cl (w : World) (s : ByteArray) (h : s.size ≤ 1048576) (hcl : cl6 s.data.toList = false) : Calls Tryf.prog 3 #[.string s] w fun e w' => e = .returned (.bool true) ∧ w = w' := by
  have HB := Lib.hid (fun w => zb_FnParamTokenSameInEveryDialect (w := w) s (by omega))
  rw [show (acc 0 [s.size]).isSome = true by exact acc_one.2 h] at HB
  go_enter Tryf.func3, Tryf.ntmps3
  go_wp2_with (first
    | (go_at_call 7; refine (HB.out _).mono ?_; rintro e w' ⟨rfl, rfl⟩)
    | (go_at_call 8; refine (zclean _ _).mono ?_; rintro e w' ⟨rfl, rfl⟩; rw [hcl]))
  all_goals (
    go_ret
    exact ⟨rfl, rfl⟩)

set_option maxRecDepth 100000 in
set_option maxHeartbeats 3200000 in
theorem par_ok {w : World} {ea : Addr} {F : Interp} (s : ByteArray) (hd : Wd w ea F) (h : s.size ≤ 1048576) (hcl : cl6 s.data.toList = true) : Calls Tryf.prog 3 #[.string s] w fun e w' => e = .returned (.bool true) ∧ Kept [] w w' := by
  obtain ⟨⟨t, j, n⟩, hR⟩ : ∃ R, (parT (nxt s.data.toList)).run (nxt s.data.toList) s.data.toList.tail 0 = R := ⟨_, rfl⟩
  have HB := Lib.hid (fun w => zb_FnParamTokenSameInEveryDialect (w := w) s (by omega))
  rw [acc_one.2 h] at HB
  have HD0 := Lib.hid hd
  have HK0 := Lib.hid (Kept.refl [] w)
  have HC := Lib.hid (cl_of hcl)
  clear hd
  go_enter Tryf.func3, Tryf.ntmps3
  go_wp2_with (first
    | (go_at_call 7; refine (HB.out _).mono ?_; rintro e w' ⟨rfl, rfl⟩)
    | (go_at_call 8; refine (zclean _ _).mono ?_; rintro e w' ⟨rfl, rfl⟩; rw [hcl])
    | (go_at_call 9; refine (run_param HD0.out (by first | decide | (simp; done) | omega) (by omega) HC.out hR).mono ?_; rintro e w1 ⟨rfl, hk⟩; have HD1 := Lib.hid (HD0.out.kept hk); have HK1 := Lib.hid (HK0.out.trans hk); clear hk))
  refine wp_loop_rounds 5 ?_
  rw [rounds_succ]
  go_wp2_with (first
    | (go_at_call 9; refine (run_param HD4.out (by first | decide | (simp; done) | omega) (by omega) HC.out hR).mono ?_; rintro e w5 ⟨rfl, hk⟩; have HD5 := Lib.hid (HD4.out.kept hk); have HK5 := Lib.hid (HK4.out.trans hk); clear hk)
    | (go_at_call 9; refine (run_param HD3.out (by first | decide | (simp; done) | omega) (by omega) HC.out hR).mono ?_; rintro e w4 ⟨rfl, hk⟩; have HD4 := Lib.hid (HD3.out.kept hk); have HK4 := Lib.hid (HK3.out.trans hk); clear hk)
    | (go_at_call 9; refine (run_param HD2.out (by first | decide | (simp; done) | omega) (by omega) HC.out hR).mono ?_; rintro e w3 ⟨rfl, hk⟩; have HD3 := Lib.hid (HD2.out.kept hk); have HK3 := Lib.hid (HK2.out.trans hk); clear hk)
    | (go_at_call 9; refine (run_param HD1.out (by first | decide | (simp; done) | omega) (by omega) HC.out hR).mono ?_; rintro e w2 ⟨rfl, hk⟩; have HD2 := Lib.hid (HD1.out.kept hk); have HK2 := Lib.hid (HK1.out.trans hk); clear hk))
  rw [rounds_succ]
  go_wp2_with (first
    | (go_at_call 9; refine (run_param HD4.out (by first | decide | (simp; done) | omega) (by omega) HC.out hR).mono ?_; rintro e w5 ⟨rfl, hk⟩; have HD5 := Lib.hid (HD4.out.kept hk); have HK5 := Lib.hid (HK4.out.trans hk); clear hk)
    | (go_at_call 9; refine (run_param HD3.out (by first | decide | (simp; done) | omega) (by omega) HC.out hR).mono ?_; rintro e w4 ⟨rfl, hk⟩; have HD4 := Lib.hid (HD3.out.kept hk); have HK4 := Lib.hid (HK3.out.trans hk); clear hk)
    | (go_at_call 9; refine (run_param HD2.out (by first | decide | (simp; done) | omega) (by omega) HC.out hR).mono ?_; rintro e w3 ⟨rfl, hk⟩; have HD3 := Lib.hid (HD2.out.kept hk); have HK3 := Lib.hid (HK2.out.trans hk); clear hk)
    | (go_at_call 9; refine (run_param HD1.out (by first | decide | (simp; done) | omega) (by omega) HC.out hR).mono ?_; rintro e w2 ⟨rfl, hk⟩; have HD2 := Lib.hid (HD1.out.kept hk); have HK2 := Lib.hid (HK1.out.trans hk); clear hk))
  rw [rounds_succ]
  go_wp2_with (first
    | (go_at_call 9; refine (run_param HD4.out (by first | decide | (simp; done) | omega) (by omega) HC.out hR).mono ?_; rintro e w5 ⟨rfl, hk⟩; have HD5 := Lib.hid (HD4.out.kept hk); have HK5 := Lib.hid (HK4.out.trans hk); clear hk)
    | (go_at_call 9; refine (run_param HD3.out (by first | decide | (simp; done) | omega) (by omega) HC.out hR).mono ?_; rintro e w4 ⟨rfl, hk⟩; have HD4 := Lib.hid (HD3.out.kept hk); have HK4 := Lib.hid (HK3.out.trans hk); clear hk)
    | (go_at_call 9; refine (run_param HD2.out (by first | decide | (simp; done) | omega) (by omega) HC.out hR).mono ?_; rintro e w3 ⟨rfl, hk⟩; have HD3 := Lib.hid (HD2.out.kept hk); have HK3 := Lib.hid (HK2.out.trans hk); clear hk)
    | (go_at_call 9; refine (run_param HD1.out (by first | decide | (simp; done) | omega) (by omega) HC.out hR).mono ?_; rintro e w2 ⟨rfl, hk⟩; have HD2 := Lib.hid (HD1.out.kept hk); have HK2 := Lib.hid (HK1.out.trans hk); clear hk))
  rw [rounds_succ]
  go_wp2_with (first
    | (go_at_call 9; refine (run_param HD4.out (by first | decide | (simp; done) | omega) (by omega) HC.out hR).mono ?_; rintro e w5 ⟨rfl, hk⟩; have HD5 := Lib.hid (HD4.out.kept hk); have HK5 := Lib.hid (HK4.out.trans hk); clear hk)
    | (go_at_call 9; refine (run_param HD3.out (by first | decide | (simp; done) | omega) (by omega) HC.out hR).mono ?_; rintro e w4 ⟨rfl, hk⟩; have HD4 := Lib.hid (HD3.out.kept hk); have HK4 := Lib.hid (HK3.out.trans hk); clear hk)
    | (go_at_call 9; refine (run_param HD2.out (by first | decide | (simp; done) | omega) (by omega) HC.out hR).mono ?_; rintro e w3 ⟨rfl, hk⟩; have HD3 := Lib.hid (HD2.out.kept hk); have HK3 := Lib.hid (HK2.out.trans hk); clear hk)
    | (go_at_call 9; refine (run_param HD1.out (by first | decide | (simp; done) | omega) (by omega) HC.out hR).mono ?_; rintro e w2 ⟨rfl, hk⟩; have HD2 := Lib.hid (HD1.out.kept hk); have HK2 := Lib.hid (HK1.out.trans hk); clear hk))
  rw [rounds_succ]
  go_wp2_with (first
    | (go_at_call 9; refine (run_param HD4.out (by first | decide | (simp; done) | omega) (by omega) HC.out hR).mono ?_; rintro e w5 ⟨rfl, hk⟩; have HD5 := Lib.hid (HD4.out.kept hk); have HK5 := Lib.hid (HK4.out.trans hk); clear hk)
    | (go_at_call 9; refine (run_param HD3.out (by first | decide | (simp; done) | omega) (by omega) HC.out hR).mono ?_; rintro e w4 ⟨rfl, hk⟩; have HD4 := Lib.hid (HD3.out.kept hk); have HK4 := Lib.hid (HK3.out.trans hk); clear hk)
    | (go_at_call 9; refine (run_param HD2.out (by first | decide | (simp; done) | omega) (by omega) HC.out hR).mono ?_; rintro e w3 ⟨rfl, hk⟩; have HD3 := Lib.hid (HD2.out.kept hk); have HK3 := Lib.hid (HK2.out.trans hk); clear hk)
    | (go_at_call 9; refine (run_param HD1.out (by first | decide | (simp; done) | omega) (by omega) HC.out hR).mono ?_; rintro e w2 ⟨rfl, hk⟩; have HD2 := Lib.hid (HD1.out.kept hk); have HK2 := Lib.hid (HK1.out.trans hk); clear hk))
  go_ret
  exact ⟨rfl, HK5.out⟩

theorem law_FnParamTokenSameInEveryDialect {w : World} {ea : Addr} {F : Interp} (s : ByteArray) (hd : Wd w ea F) (h1 : s.size ≤ 9223372036854775807) : Calls Tryf.prog 3 #[.string s] w fun e w' => e = .returned (.bool true) ∧ Kept [] w w' := by
  have up : ∀ {e : Ending} {w' : World}, (e = .returned (.bool true) ∧ w = w') → (e = .returned (.bool true) ∧ Kept [] w w') := fun hh => ⟨hh.1, hh.2 ▸ Kept.refl _ _⟩
  by_cases h : s.size ≤ 1048576
  rotate_left
  · exact (par_big w s h1 (by omega)).mono fun e w' hh => up hh
  cases hcl : cl6 s.data.toList with
  | false => exact (par_cl w s h hcl).mono fun e w' hh => up hh
  | true =>
    exact par_ok s hd h hcl
end Go.Proofs.YtolgahamfkaipaaFmt
