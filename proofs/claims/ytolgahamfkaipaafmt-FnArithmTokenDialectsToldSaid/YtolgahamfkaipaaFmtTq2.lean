/-
  n010_119: FnArithmTokenDialects, walked.
-/
import Derived.Test.YtolgahamfkaipaaFmtTp
namespace Go.Proofs.YtolgahamfkaipaaFmt
open Go.RowKit Go.Stop Go.Extern

/-- The sizes, added up; each, and the sum, at most 1 << 20. -/
def acc : Nat → List Nat → Option Nat
  | t, [] => some t
  | t, x :: l => if 1048576 < x then none else if 1048576 < t + x then none else acc (t + x) l
theorem acc_one {a : Nat} : (acc 0 [a]).isSome = true ↔ a ≤ 1048576 := by
  simp only [acc, Nat.zero_add]
  split
  · simp; omega
  · simp; omega
theorem nxt_head {s : ByteArray} (h : 0 < s.size) : nxt s.data.toList = if s[0].toNat < 128 then (s[0].toNat : Int) else nxt s.data.toList := by
  have e := str_at h
  cases hl : s.data.toList with
  | nil => rw [hl] at e; cases e
  | cons x d =>
    rw [hl] at e
    obtain rfl : x = s[0] := Option.some.inj e
    split
    · next h2 => exact nxt_ascii h2
    · rfl
set_option maxRecDepth 100000 in
set_option maxHeartbeats 1600000 in
theorem zb_FnArithmTokenDialects {w : World} (p0 : ByteArray) (s0 : p0.size ≤ 9223372036854775807) : Calls Tryf.prog 14 #[.string p0] w fun e w' => e = .returned (.bool (acc 0 (p0.size :: [])).isSome) ∧ w = w' := by
  obtain ⟨bv, hbv⟩ : ∃ b, b = (acc 0 (p0.size :: [])).isSome := ⟨_, rfl⟩
  rw [← hbv]
  have HBV := Lib.hid hbv
  clear hbv
  go_enter Tryf.func14, Tryf.ntmps14
  by_cases g0 : 1048576 < p0.size
  · go_wp2_with fail
    go_ret
    rw [HBV.out]
    have e : acc 0 (p0.size :: []) = none := by
      simp only [acc, Nat.zero_add]
      repeat' split
      all_goals first | rfl | omega
    rw [e]
    exact ⟨rfl, rfl⟩
  go_wp2_with fail
  go_ret
  rw [HBV.out]
  have e : (acc 0 (p0.size :: [])).isSome = true := by
    simp only [acc, Nat.zero_add]
    repeat' split
    all_goals first | rfl | omega
  rw [e]
  exact ⟨rfl, rfl⟩
set_option maxRecDepth 100000 in
set_option maxHeartbeats 1600000 in
theorem ari_big (w : World) (s : ByteArray) (h2 : s.size ≤ 9223372036854775807) (h : 1048576 < s.size) : Calls Tryf.prog 6 #[.string s] w fun e w' => e = .returned (.bool true) ∧ w = w' := by
  have HB := Lib.hid (fun w => zb_FnArithmTokenDialects (w := w) s (by omega))
  rw [show (acc 0 [s.size]).isSome = false by rw [Bool.eq_false_iff]; exact fun e => by have := acc_one.1 e; omega] at HB
  go_enter Tryf.func6, Tryf.ntmps6
  go_wp2_with (first
    | (go_at_call 14; refine (HB.out _).mono ?_; rintro e w' ⟨rfl, rfl⟩))
  all_goals (
    go_ret
    exact ⟨rfl, rfl⟩)
set_option maxRecDepth 100000 in
set_option maxHeartbeats 1600000 in
theorem ari_nil (w : World) (s : ByteArray) (h : s.size ≤ 1048576) (h0 : s.size = 0) : Calls Tryf.prog 6 #[.string s] w fun e w' => e = .returned (.bool true) ∧ w = w' := by
  have HB := Lib.hid (fun w => zb_FnArithmTokenDialects (w := w) s (by omega))
  rw [show (acc 0 [s.size]).isSome = true by exact acc_one.2 h] at HB
  go_enter Tryf.func6, Tryf.ntmps6
  go_wp2_with (first
    | (go_at_call 14; refine (HB.out _).mono ?_; rintro e w' ⟨rfl, rfl⟩))
  all_goals (
    go_ret
    exact ⟨rfl, rfl⟩)
set_option maxRecDepth 100000 in
set_option maxHeartbeats 1600000 in
theorem ari_st (w : World) (s : ByteArray) (h : s.size ≤ 1048576) (h0 : 0 < s.size) (hst : ariS (s[0].toNat : Int) = false) : Calls Tryf.prog 6 #[.string s] w fun e w' => e = .returned (.bool true) ∧ w = w' := by
  have HB := Lib.hid (fun w => zb_FnArithmTokenDialects (w := w) s (by omega))
  rw [show (acc 0 [s.size]).isSome = true by exact acc_one.2 h] at HB
  go_enter Tryf.func6, Tryf.ntmps6
  go_wp2_with (first
    | (go_at_call 14; refine (HB.out _).mono ?_; rintro e w' ⟨rfl, rfl⟩)
    | (go_at_call 15; refine (zariS _ _).mono ?_; rintro e w' ⟨rfl, rfl⟩; first | rw [hst] | rw [show dqS 36 = true by decide] | rw [show regS 96 = true by decide]))
  all_goals (
    go_ret
    exact ⟨rfl, rfl⟩)
set_option maxRecDepth 100000 in
set_option maxHeartbeats 1600000 in
theorem ari_cl (w : World) (s : ByteArray) (h : s.size ≤ 1048576) (h0 : 0 < s.size) (hst : ariS (s[0].toNat : Int) = true) (hcl : cl6 s.data.toList = false) : Calls Tryf.prog 6 #[.string s] w fun e w' => e = .returned (.bool true) ∧ w = w' := by
  have HB := Lib.hid (fun w => zb_FnArithmTokenDialects (w := w) s (by omega))
  rw [show (acc 0 [s.size]).isSome = true by exact acc_one.2 h] at HB
  go_enter Tryf.func6, Tryf.ntmps6
  go_wp2_with (first
    | (go_at_call 14; refine (HB.out _).mono ?_; rintro e w' ⟨rfl, rfl⟩)
    | (go_at_call 15; refine (zariS _ _).mono ?_; rintro e w' ⟨rfl, rfl⟩; first | rw [hst] | rw [show dqS 36 = true by decide] | rw [show regS 96 = true by decide])
    | (go_at_call 8; refine (zclean _ _).mono ?_; rintro e w' ⟨rfl, rfl⟩; rw [hcl]))
  all_goals (
    go_ret
    exact ⟨rfl, rfl⟩)

theorem ari_lv {li : Int} (h : li = 0 ∨ li = 1 ∨ li = 2 ∨ li = 3) (r : Int) : ariT (lvOf li) r = ariT 1 r := by
  rcases h with rfl | rfl | rfl | rfl
  · rfl
  all_goals exact ari_same (by decide +kernel) r

set_option maxRecDepth 100000 in
set_option maxHeartbeats 3200000 in
theorem ari_eq {w : World} {ea : Addr} {F : Interp} (s : ByteArray) (hd : Wd w ea F) (h : s.size ≤ 1048576) (h0 : 0 < s.size) (hst : ariS (s[0].toNat : Int) = true) (hcl : cl6 s.data.toList = true) (t j n tz jz nz : Int) (hR : (ariT 1 (nxt s.data.toList)).run (nxt s.data.toList) s.data.toList.tail 0 = (t, j, n)) (hZ : (ariT 16 (nxt s.data.toList)).run (nxt s.data.toList) s.data.toList.tail 0 = (tz, jz, nz)) (hj : jz = j) (ht : tz = t) : Calls Tryf.prog 6 #[.string s] w fun e w' => e = .returned (.bool true) ∧ Kept [] w w' := by
  have hnx : nxt s.data.toList = (s[0].toNat : Int) := by
    have hlow : s[0].toNat < 128 := by unfold ariS at hst; have := of_decide_eq_true hst; omega
    rw [nxt_head h0, if_pos hlow]
  have q0 : ((s.size : Int) == 0) = false := by rw [beq_eq_false_iff_ne]; omega
  have HB := Lib.hid (fun w => zb_FnArithmTokenDialects (w := w) s (by omega))
  rw [acc_one.2 h] at HB
  have HD0 := Lib.hid hd
  have HK0 := Lib.hid (Kept.refl [] w)
  have HC := Lib.hid (cl_of hcl)
  have HR : Hid (∀ li : Int, (li = 0 ∨ li = 1 ∨ li = 2 ∨ li = 3) → (ariT (lvOf li) (nxt s.data.toList)).run (nxt s.data.toList) s.data.toList.tail 0 = (t, j, n)) := Lib.hid (fun li hh => by rw [ari_lv hh]; exact hR)
  have HZ : Hid ((ariT (lvOf 4) (nxt s.data.toList)).run (nxt s.data.toList) s.data.toList.tail 0 = (tz, jz, nz)) := Lib.hid (by rw [show lvOf 4 = 16 by rfl]; exact hZ)
  have HS := Lib.hid (show ariS (nxt s.data.toList) = true by rw [hnx]; exact hst)
  clear hd hnx hR hZ
  go_enter Tryf.func6, Tryf.ntmps6
  go_wp2_with (first
    | (go_at_call 14; refine (HB.out _).mono ?_; rintro e w' ⟨rfl, rfl⟩)
    | (go_at_call 15; refine (zariS _ _).mono ?_; rintro e w' ⟨rfl, rfl⟩; first | rw [hst] | rw [show dqS 36 = true by decide] | rw [show regS 96 = true by decide])
    | (go_at_call 8; refine (zclean _ _).mono ?_; rintro e w' ⟨rfl, rfl⟩; rw [hcl])
    | (go_at_call 9; refine (run_arithm HD0.out (by first | decide | (simp; done) | omega) (by omega) HC.out (HS.out) (HR.out _ (by decide))).mono ?_; rintro e w1 ⟨rfl, hk⟩; have HD1 := Lib.hid (HD0.out.kept hk); have HK1 := Lib.hid (HK0.out.trans hk); clear hk))
  refine wp_loop_rounds 4 ?_
  rw [rounds_succ]
  go_wp2_with (first
    | (go_at_call 9; refine (run_arithm HD4.out (by first | decide | (simp; done) | omega) (by omega) HC.out (HS.out) HZ.out).mono ?_; rintro e w5 ⟨rfl, hk⟩; have HD5 := Lib.hid (HD4.out.kept hk); have HK5 := Lib.hid (HK4.out.trans hk); clear hk)
    | (go_at_call 9; refine (run_arithm HD3.out (by first | decide | (simp; done) | omega) (by omega) HC.out (HS.out) (HR.out _ (by first | decide | (simp; done) | omega))).mono ?_; rintro e w4 ⟨rfl, hk⟩; have HD4 := Lib.hid (HD3.out.kept hk); have HK4 := Lib.hid (HK3.out.trans hk); clear hk)
    | (go_at_call 9; refine (run_arithm HD2.out (by first | decide | (simp; done) | omega) (by omega) HC.out (HS.out) (HR.out _ (by first | decide | (simp; done) | omega))).mono ?_; rintro e w3 ⟨rfl, hk⟩; have HD3 := Lib.hid (HD2.out.kept hk); have HK3 := Lib.hid (HK2.out.trans hk); clear hk)
    | (go_at_call 9; refine (run_arithm HD1.out (by first | decide | (simp; done) | omega) (by omega) HC.out (HS.out) (HR.out _ (by first | decide | (simp; done) | omega))).mono ?_; rintro e w2 ⟨rfl, hk⟩; have HD2 := Lib.hid (HD1.out.kept hk); have HK2 := Lib.hid (HK1.out.trans hk); clear hk))
  rw [rounds_succ]
  go_wp2_with (first
    | (go_at_call 9; refine (run_arithm HD4.out (by first | decide | (simp; done) | omega) (by omega) HC.out (HS.out) HZ.out).mono ?_; rintro e w5 ⟨rfl, hk⟩; have HD5 := Lib.hid (HD4.out.kept hk); have HK5 := Lib.hid (HK4.out.trans hk); clear hk)
    | (go_at_call 9; refine (run_arithm HD3.out (by first | decide | (simp; done) | omega) (by omega) HC.out (HS.out) (HR.out _ (by first | decide | (simp; done) | omega))).mono ?_; rintro e w4 ⟨rfl, hk⟩; have HD4 := Lib.hid (HD3.out.kept hk); have HK4 := Lib.hid (HK3.out.trans hk); clear hk)
    | (go_at_call 9; refine (run_arithm HD2.out (by first | decide | (simp; done) | omega) (by omega) HC.out (HS.out) (HR.out _ (by first | decide | (simp; done) | omega))).mono ?_; rintro e w3 ⟨rfl, hk⟩; have HD3 := Lib.hid (HD2.out.kept hk); have HK3 := Lib.hid (HK2.out.trans hk); clear hk)
    | (go_at_call 9; refine (run_arithm HD1.out (by first | decide | (simp; done) | omega) (by omega) HC.out (HS.out) (HR.out _ (by first | decide | (simp; done) | omega))).mono ?_; rintro e w2 ⟨rfl, hk⟩; have HD2 := Lib.hid (HD1.out.kept hk); have HK2 := Lib.hid (HK1.out.trans hk); clear hk))
  rw [rounds_succ]
  go_wp2_with (first
    | (go_at_call 9; refine (run_arithm HD4.out (by first | decide | (simp; done) | omega) (by omega) HC.out (HS.out) HZ.out).mono ?_; rintro e w5 ⟨rfl, hk⟩; have HD5 := Lib.hid (HD4.out.kept hk); have HK5 := Lib.hid (HK4.out.trans hk); clear hk)
    | (go_at_call 9; refine (run_arithm HD3.out (by first | decide | (simp; done) | omega) (by omega) HC.out (HS.out) (HR.out _ (by first | decide | (simp; done) | omega))).mono ?_; rintro e w4 ⟨rfl, hk⟩; have HD4 := Lib.hid (HD3.out.kept hk); have HK4 := Lib.hid (HK3.out.trans hk); clear hk)
    | (go_at_call 9; refine (run_arithm HD2.out (by first | decide | (simp; done) | omega) (by omega) HC.out (HS.out) (HR.out _ (by first | decide | (simp; done) | omega))).mono ?_; rintro e w3 ⟨rfl, hk⟩; have HD3 := Lib.hid (HD2.out.kept hk); have HK3 := Lib.hid (HK2.out.trans hk); clear hk)
    | (go_at_call 9; refine (run_arithm HD1.out (by first | decide | (simp; done) | omega) (by omega) HC.out (HS.out) (HR.out _ (by first | decide | (simp; done) | omega))).mono ?_; rintro e w2 ⟨rfl, hk⟩; have HD2 := Lib.hid (HD1.out.kept hk); have HK2 := Lib.hid (HK1.out.trans hk); clear hk))
  rw [rounds_succ]
  go_wp2_with (first
    | (go_at_call 9; refine (run_arithm HD4.out (by first | decide | (simp; done) | omega) (by omega) HC.out (HS.out) HZ.out).mono ?_; rintro e w5 ⟨rfl, hk⟩; have HD5 := Lib.hid (HD4.out.kept hk); have HK5 := Lib.hid (HK4.out.trans hk); clear hk)
    | (go_at_call 9; refine (run_arithm HD3.out (by first | decide | (simp; done) | omega) (by omega) HC.out (HS.out) (HR.out _ (by first | decide | (simp; done) | omega))).mono ?_; rintro e w4 ⟨rfl, hk⟩; have HD4 := Lib.hid (HD3.out.kept hk); have HK4 := Lib.hid (HK3.out.trans hk); clear hk)
    | (go_at_call 9; refine (run_arithm HD2.out (by first | decide | (simp; done) | omega) (by omega) HC.out (HS.out) (HR.out _ (by first | decide | (simp; done) | omega))).mono ?_; rintro e w3 ⟨rfl, hk⟩; have HD3 := Lib.hid (HD2.out.kept hk); have HK3 := Lib.hid (HK2.out.trans hk); clear hk)
    | (go_at_call 9; refine (run_arithm HD1.out (by first | decide | (simp; done) | omega) (by omega) HC.out (HS.out) (HR.out _ (by first | decide | (simp; done) | omega))).mono ?_; rintro e w2 ⟨rfl, hk⟩; have HD2 := Lib.hid (HD1.out.kept hk); have HK2 := Lib.hid (HK1.out.trans hk); clear hk))
  go_ret
  exact ⟨rfl, HK5.out⟩

set_option maxRecDepth 100000 in
set_option maxHeartbeats 3200000 in
theorem ari_z59 {w : World} {ea : Addr} {F : Interp} (s : ByteArray) (hd : Wd w ea F) (h : s.size ≤ 1048576) (h0 : 0 < s.size) (hst : ariS (s[0].toNat : Int) = true) (hcl : cl6 s.data.toList = true) (t j n tz jz nz : Int) (hR : (ariT 1 (nxt s.data.toList)).run (nxt s.data.toList) s.data.toList.tail 0 = (t, j, n)) (hZ : (ariT 16 (nxt s.data.toList)).run (nxt s.data.toList) s.data.toList.tail 0 = (tz, jz, nz)) (hj : jz = 3) (hj2 : j = 2) (ht : tz = 59) : Calls Tryf.prog 6 #[.string s] w fun e w' => e = .returned (.bool true) ∧ Kept [] w w' := by
  have hnx : nxt s.data.toList = (s[0].toNat : Int) := by
    have hlow : s[0].toNat < 128 := by unfold ariS at hst; have := of_decide_eq_true hst; omega
    rw [nxt_head h0, if_pos hlow]
  have q0 : ((s.size : Int) == 0) = false := by rw [beq_eq_false_iff_ne]; omega
  have HB := Lib.hid (fun w => zb_FnArithmTokenDialects (w := w) s (by omega))
  rw [acc_one.2 h] at HB
  have HD0 := Lib.hid hd
  have HK0 := Lib.hid (Kept.refl [] w)
  have HC := Lib.hid (cl_of hcl)
  have HR : Hid (∀ li : Int, (li = 0 ∨ li = 1 ∨ li = 2 ∨ li = 3) → (ariT (lvOf li) (nxt s.data.toList)).run (nxt s.data.toList) s.data.toList.tail 0 = (t, j, n)) := Lib.hid (fun li hh => by rw [ari_lv hh]; exact hR)
  have HZ : Hid ((ariT (lvOf 4) (nxt s.data.toList)).run (nxt s.data.toList) s.data.toList.tail 0 = (tz, jz, nz)) := Lib.hid (by rw [show lvOf 4 = 16 by rfl]; exact hZ)
  have HS := Lib.hid (show ariS (nxt s.data.toList) = true by rw [hnx]; exact hst)
  clear hd hnx hR hZ
  go_enter Tryf.func6, Tryf.ntmps6
  go_wp2_with (first
    | (go_at_call 14; refine (HB.out _).mono ?_; rintro e w' ⟨rfl, rfl⟩)
    | (go_at_call 15; refine (zariS _ _).mono ?_; rintro e w' ⟨rfl, rfl⟩; first | rw [hst] | rw [show dqS 36 = true by decide] | rw [show regS 96 = true by decide])
    | (go_at_call 8; refine (zclean _ _).mono ?_; rintro e w' ⟨rfl, rfl⟩; rw [hcl])
    | (go_at_call 9; refine (run_arithm HD0.out (by first | decide | (simp; done) | omega) (by omega) HC.out (HS.out) (HR.out _ (by decide))).mono ?_; rintro e w1 ⟨rfl, hk⟩; have HD1 := Lib.hid (HD0.out.kept hk); have HK1 := Lib.hid (HK0.out.trans hk); clear hk))
  refine wp_loop_rounds 4 ?_
  rw [rounds_succ]
  go_wp2_with (first
    | (go_at_call 9; refine (run_arithm HD4.out (by first | decide | (simp; done) | omega) (by omega) HC.out (HS.out) HZ.out).mono ?_; rintro e w5 ⟨rfl, hk⟩; have HD5 := Lib.hid (HD4.out.kept hk); have HK5 := Lib.hid (HK4.out.trans hk); clear hk)
    | (go_at_call 9; refine (run_arithm HD3.out (by first | decide | (simp; done) | omega) (by omega) HC.out (HS.out) (HR.out _ (by first | decide | (simp; done) | omega))).mono ?_; rintro e w4 ⟨rfl, hk⟩; have HD4 := Lib.hid (HD3.out.kept hk); have HK4 := Lib.hid (HK3.out.trans hk); clear hk)
    | (go_at_call 9; refine (run_arithm HD2.out (by first | decide | (simp; done) | omega) (by omega) HC.out (HS.out) (HR.out _ (by first | decide | (simp; done) | omega))).mono ?_; rintro e w3 ⟨rfl, hk⟩; have HD3 := Lib.hid (HD2.out.kept hk); have HK3 := Lib.hid (HK2.out.trans hk); clear hk)
    | (go_at_call 9; refine (run_arithm HD1.out (by first | decide | (simp; done) | omega) (by omega) HC.out (HS.out) (HR.out _ (by first | decide | (simp; done) | omega))).mono ?_; rintro e w2 ⟨rfl, hk⟩; have HD2 := Lib.hid (HD1.out.kept hk); have HK2 := Lib.hid (HK1.out.trans hk); clear hk))
  rw [rounds_succ]
  go_wp2_with (first
    | (go_at_call 9; refine (run_arithm HD4.out (by first | decide | (simp; done) | omega) (by omega) HC.out (HS.out) HZ.out).mono ?_; rintro e w5 ⟨rfl, hk⟩; have HD5 := Lib.hid (HD4.out.kept hk); have HK5 := Lib.hid (HK4.out.trans hk); clear hk)
    | (go_at_call 9; refine (run_arithm HD3.out (by first | decide | (simp; done) | omega) (by omega) HC.out (HS.out) (HR.out _ (by first | decide | (simp; done) | omega))).mono ?_; rintro e w4 ⟨rfl, hk⟩; have HD4 := Lib.hid (HD3.out.kept hk); have HK4 := Lib.hid (HK3.out.trans hk); clear hk)
    | (go_at_call 9; refine (run_arithm HD2.out (by first | decide | (simp; done) | omega) (by omega) HC.out (HS.out) (HR.out _ (by first | decide | (simp; done) | omega))).mono ?_; rintro e w3 ⟨rfl, hk⟩; have HD3 := Lib.hid (HD2.out.kept hk); have HK3 := Lib.hid (HK2.out.trans hk); clear hk)
    | (go_at_call 9; refine (run_arithm HD1.out (by first | decide | (simp; done) | omega) (by omega) HC.out (HS.out) (HR.out _ (by first | decide | (simp; done) | omega))).mono ?_; rintro e w2 ⟨rfl, hk⟩; have HD2 := Lib.hid (HD1.out.kept hk); have HK2 := Lib.hid (HK1.out.trans hk); clear hk))
  rw [rounds_succ]
  go_wp2_with (first
    | (go_at_call 9; refine (run_arithm HD4.out (by first | decide | (simp; done) | omega) (by omega) HC.out (HS.out) HZ.out).mono ?_; rintro e w5 ⟨rfl, hk⟩; have HD5 := Lib.hid (HD4.out.kept hk); have HK5 := Lib.hid (HK4.out.trans hk); clear hk)
    | (go_at_call 9; refine (run_arithm HD3.out (by first | decide | (simp; done) | omega) (by omega) HC.out (HS.out) (HR.out _ (by first | decide | (simp; done) | omega))).mono ?_; rintro e w4 ⟨rfl, hk⟩; have HD4 := Lib.hid (HD3.out.kept hk); have HK4 := Lib.hid (HK3.out.trans hk); clear hk)
    | (go_at_call 9; refine (run_arithm HD2.out (by first | decide | (simp; done) | omega) (by omega) HC.out (HS.out) (HR.out _ (by first | decide | (simp; done) | omega))).mono ?_; rintro e w3 ⟨rfl, hk⟩; have HD3 := Lib.hid (HD2.out.kept hk); have HK3 := Lib.hid (HK2.out.trans hk); clear hk)
    | (go_at_call 9; refine (run_arithm HD1.out (by first | decide | (simp; done) | omega) (by omega) HC.out (HS.out) (HR.out _ (by first | decide | (simp; done) | omega))).mono ?_; rintro e w2 ⟨rfl, hk⟩; have HD2 := Lib.hid (HD1.out.kept hk); have HK2 := Lib.hid (HK1.out.trans hk); clear hk))
  rw [rounds_succ]
  go_wp2_with (first
    | (go_at_call 9; refine (run_arithm HD4.out (by first | decide | (simp; done) | omega) (by omega) HC.out (HS.out) HZ.out).mono ?_; rintro e w5 ⟨rfl, hk⟩; have HD5 := Lib.hid (HD4.out.kept hk); have HK5 := Lib.hid (HK4.out.trans hk); clear hk)
    | (go_at_call 9; refine (run_arithm HD3.out (by first | decide | (simp; done) | omega) (by omega) HC.out (HS.out) (HR.out _ (by first | decide | (simp; done) | omega))).mono ?_; rintro e w4 ⟨rfl, hk⟩; have HD4 := Lib.hid (HD3.out.kept hk); have HK4 := Lib.hid (HK3.out.trans hk); clear hk)
    | (go_at_call 9; refine (run_arithm HD2.out (by first | decide | (simp; done) | omega) (by omega) HC.out (HS.out) (HR.out _ (by first | decide | (simp; done) | omega))).mono ?_; rintro e w3 ⟨rfl, hk⟩; have HD3 := Lib.hid (HD2.out.kept hk); have HK3 := Lib.hid (HK2.out.trans hk); clear hk)
    | (go_at_call 9; refine (run_arithm HD1.out (by first | decide | (simp; done) | omega) (by omega) HC.out (HS.out) (HR.out _ (by first | decide | (simp; done) | omega))).mono ?_; rintro e w2 ⟨rfl, hk⟩; have HD2 := Lib.hid (HD1.out.kept hk); have HK2 := Lib.hid (HK1.out.trans hk); clear hk))
  go_ret
  exact ⟨rfl, HK5.out⟩

set_option maxRecDepth 100000 in
set_option maxHeartbeats 3200000 in
theorem ari_z60 {w : World} {ea : Addr} {F : Interp} (s : ByteArray) (hd : Wd w ea F) (h : s.size ≤ 1048576) (h0 : 0 < s.size) (hst : ariS (s[0].toNat : Int) = true) (hcl : cl6 s.data.toList = true) (t j n tz jz nz : Int) (hR : (ariT 1 (nxt s.data.toList)).run (nxt s.data.toList) s.data.toList.tail 0 = (t, j, n)) (hZ : (ariT 16 (nxt s.data.toList)).run (nxt s.data.toList) s.data.toList.tail 0 = (tz, jz, nz)) (hj : jz = 3) (hj2 : j = 2) (ht : tz = 60) : Calls Tryf.prog 6 #[.string s] w fun e w' => e = .returned (.bool true) ∧ Kept [] w w' := by
  have hnx : nxt s.data.toList = (s[0].toNat : Int) := by
    have hlow : s[0].toNat < 128 := by unfold ariS at hst; have := of_decide_eq_true hst; omega
    rw [nxt_head h0, if_pos hlow]
  have q0 : ((s.size : Int) == 0) = false := by rw [beq_eq_false_iff_ne]; omega
  have HB := Lib.hid (fun w => zb_FnArithmTokenDialects (w := w) s (by omega))
  rw [acc_one.2 h] at HB
  have HD0 := Lib.hid hd
  have HK0 := Lib.hid (Kept.refl [] w)
  have HC := Lib.hid (cl_of hcl)
  have HR : Hid (∀ li : Int, (li = 0 ∨ li = 1 ∨ li = 2 ∨ li = 3) → (ariT (lvOf li) (nxt s.data.toList)).run (nxt s.data.toList) s.data.toList.tail 0 = (t, j, n)) := Lib.hid (fun li hh => by rw [ari_lv hh]; exact hR)
  have HZ : Hid ((ariT (lvOf 4) (nxt s.data.toList)).run (nxt s.data.toList) s.data.toList.tail 0 = (tz, jz, nz)) := Lib.hid (by rw [show lvOf 4 = 16 by rfl]; exact hZ)
  have HS := Lib.hid (show ariS (nxt s.data.toList) = true by rw [hnx]; exact hst)
  clear hd hnx hR hZ
  go_enter Tryf.func6, Tryf.ntmps6
  go_wp2_with (first
    | (go_at_call 14; refine (HB.out _).mono ?_; rintro e w' ⟨rfl, rfl⟩)
    | (go_at_call 15; refine (zariS _ _).mono ?_; rintro e w' ⟨rfl, rfl⟩; first | rw [hst] | rw [show dqS 36 = true by decide] | rw [show regS 96 = true by decide])
    | (go_at_call 8; refine (zclean _ _).mono ?_; rintro e w' ⟨rfl, rfl⟩; rw [hcl])
    | (go_at_call 9; refine (run_arithm HD0.out (by first | decide | (simp; done) | omega) (by omega) HC.out (HS.out) (HR.out _ (by decide))).mono ?_; rintro e w1 ⟨rfl, hk⟩; have HD1 := Lib.hid (HD0.out.kept hk); have HK1 := Lib.hid (HK0.out.trans hk); clear hk))
  refine wp_loop_rounds 4 ?_
  rw [rounds_succ]
  go_wp2_with (first
    | (go_at_call 9; refine (run_arithm HD4.out (by first | decide | (simp; done) | omega) (by omega) HC.out (HS.out) HZ.out).mono ?_; rintro e w5 ⟨rfl, hk⟩; have HD5 := Lib.hid (HD4.out.kept hk); have HK5 := Lib.hid (HK4.out.trans hk); clear hk)
    | (go_at_call 9; refine (run_arithm HD3.out (by first | decide | (simp; done) | omega) (by omega) HC.out (HS.out) (HR.out _ (by first | decide | (simp; done) | omega))).mono ?_; rintro e w4 ⟨rfl, hk⟩; have HD4 := Lib.hid (HD3.out.kept hk); have HK4 := Lib.hid (HK3.out.trans hk); clear hk)
    | (go_at_call 9; refine (run_arithm HD2.out (by first | decide | (simp; done) | omega) (by omega) HC.out (HS.out) (HR.out _ (by first | decide | (simp; done) | omega))).mono ?_; rintro e w3 ⟨rfl, hk⟩; have HD3 := Lib.hid (HD2.out.kept hk); have HK3 := Lib.hid (HK2.out.trans hk); clear hk)
    | (go_at_call 9; refine (run_arithm HD1.out (by first | decide | (simp; done) | omega) (by omega) HC.out (HS.out) (HR.out _ (by first | decide | (simp; done) | omega))).mono ?_; rintro e w2 ⟨rfl, hk⟩; have HD2 := Lib.hid (HD1.out.kept hk); have HK2 := Lib.hid (HK1.out.trans hk); clear hk))
  rw [rounds_succ]
  go_wp2_with (first
    | (go_at_call 9; refine (run_arithm HD4.out (by first | decide | (simp; done) | omega) (by omega) HC.out (HS.out) HZ.out).mono ?_; rintro e w5 ⟨rfl, hk⟩; have HD5 := Lib.hid (HD4.out.kept hk); have HK5 := Lib.hid (HK4.out.trans hk); clear hk)
    | (go_at_call 9; refine (run_arithm HD3.out (by first | decide | (simp; done) | omega) (by omega) HC.out (HS.out) (HR.out _ (by first | decide | (simp; done) | omega))).mono ?_; rintro e w4 ⟨rfl, hk⟩; have HD4 := Lib.hid (HD3.out.kept hk); have HK4 := Lib.hid (HK3.out.trans hk); clear hk)
    | (go_at_call 9; refine (run_arithm HD2.out (by first | decide | (simp; done) | omega) (by omega) HC.out (HS.out) (HR.out _ (by first | decide | (simp; done) | omega))).mono ?_; rintro e w3 ⟨rfl, hk⟩; have HD3 := Lib.hid (HD2.out.kept hk); have HK3 := Lib.hid (HK2.out.trans hk); clear hk)
    | (go_at_call 9; refine (run_arithm HD1.out (by first | decide | (simp; done) | omega) (by omega) HC.out (HS.out) (HR.out _ (by first | decide | (simp; done) | omega))).mono ?_; rintro e w2 ⟨rfl, hk⟩; have HD2 := Lib.hid (HD1.out.kept hk); have HK2 := Lib.hid (HK1.out.trans hk); clear hk))
  rw [rounds_succ]
  go_wp2_with (first
    | (go_at_call 9; refine (run_arithm HD4.out (by first | decide | (simp; done) | omega) (by omega) HC.out (HS.out) HZ.out).mono ?_; rintro e w5 ⟨rfl, hk⟩; have HD5 := Lib.hid (HD4.out.kept hk); have HK5 := Lib.hid (HK4.out.trans hk); clear hk)
    | (go_at_call 9; refine (run_arithm HD3.out (by first | decide | (simp; done) | omega) (by omega) HC.out (HS.out) (HR.out _ (by first | decide | (simp; done) | omega))).mono ?_; rintro e w4 ⟨rfl, hk⟩; have HD4 := Lib.hid (HD3.out.kept hk); have HK4 := Lib.hid (HK3.out.trans hk); clear hk)
    | (go_at_call 9; refine (run_arithm HD2.out (by first | decide | (simp; done) | omega) (by omega) HC.out (HS.out) (HR.out _ (by first | decide | (simp; done) | omega))).mono ?_; rintro e w3 ⟨rfl, hk⟩; have HD3 := Lib.hid (HD2.out.kept hk); have HK3 := Lib.hid (HK2.out.trans hk); clear hk)
    | (go_at_call 9; refine (run_arithm HD1.out (by first | decide | (simp; done) | omega) (by omega) HC.out (HS.out) (HR.out _ (by first | decide | (simp; done) | omega))).mono ?_; rintro e w2 ⟨rfl, hk⟩; have HD2 := Lib.hid (HD1.out.kept hk); have HK2 := Lib.hid (HK1.out.trans hk); clear hk))
  rw [rounds_succ]
  go_wp2_with (first
    | (go_at_call 9; refine (run_arithm HD4.out (by first | decide | (simp; done) | omega) (by omega) HC.out (HS.out) HZ.out).mono ?_; rintro e w5 ⟨rfl, hk⟩; have HD5 := Lib.hid (HD4.out.kept hk); have HK5 := Lib.hid (HK4.out.trans hk); clear hk)
    | (go_at_call 9; refine (run_arithm HD3.out (by first | decide | (simp; done) | omega) (by omega) HC.out (HS.out) (HR.out _ (by first | decide | (simp; done) | omega))).mono ?_; rintro e w4 ⟨rfl, hk⟩; have HD4 := Lib.hid (HD3.out.kept hk); have HK4 := Lib.hid (HK3.out.trans hk); clear hk)
    | (go_at_call 9; refine (run_arithm HD2.out (by first | decide | (simp; done) | omega) (by omega) HC.out (HS.out) (HR.out _ (by first | decide | (simp; done) | omega))).mono ?_; rintro e w3 ⟨rfl, hk⟩; have HD3 := Lib.hid (HD2.out.kept hk); have HK3 := Lib.hid (HK2.out.trans hk); clear hk)
    | (go_at_call 9; refine (run_arithm HD1.out (by first | decide | (simp; done) | omega) (by omega) HC.out (HS.out) (HR.out _ (by first | decide | (simp; done) | omega))).mono ?_; rintro e w2 ⟨rfl, hk⟩; have HD2 := Lib.hid (HD1.out.kept hk); have HK2 := Lib.hid (HK1.out.trans hk); clear hk))
  go_ret
  exact ⟨rfl, HK5.out⟩

set_option maxRecDepth 100000 in
set_option maxHeartbeats 3200000 in
theorem ari_z62 {w : World} {ea : Addr} {F : Interp} (s : ByteArray) (hd : Wd w ea F) (h : s.size ≤ 1048576) (h0 : 0 < s.size) (hst : ariS (s[0].toNat : Int) = true) (hcl : cl6 s.data.toList = true) (t j n tz jz nz : Int) (hR : (ariT 1 (nxt s.data.toList)).run (nxt s.data.toList) s.data.toList.tail 0 = (t, j, n)) (hZ : (ariT 16 (nxt s.data.toList)).run (nxt s.data.toList) s.data.toList.tail 0 = (tz, jz, nz)) (hj : jz = 3) (hj2 : j = 2) (ht : tz = 62) : Calls Tryf.prog 6 #[.string s] w fun e w' => e = .returned (.bool true) ∧ Kept [] w w' := by
  have hnx : nxt s.data.toList = (s[0].toNat : Int) := by
    have hlow : s[0].toNat < 128 := by unfold ariS at hst; have := of_decide_eq_true hst; omega
    rw [nxt_head h0, if_pos hlow]
  have q0 : ((s.size : Int) == 0) = false := by rw [beq_eq_false_iff_ne]; omega
  have HB := Lib.hid (fun w => zb_FnArithmTokenDialects (w := w) s (by omega))
  rw [acc_one.2 h] at HB
  have HD0 := Lib.hid hd
  have HK0 := Lib.hid (Kept.refl [] w)
  have HC := Lib.hid (cl_of hcl)
  have HR : Hid (∀ li : Int, (li = 0 ∨ li = 1 ∨ li = 2 ∨ li = 3) → (ariT (lvOf li) (nxt s.data.toList)).run (nxt s.data.toList) s.data.toList.tail 0 = (t, j, n)) := Lib.hid (fun li hh => by rw [ari_lv hh]; exact hR)
  have HZ : Hid ((ariT (lvOf 4) (nxt s.data.toList)).run (nxt s.data.toList) s.data.toList.tail 0 = (tz, jz, nz)) := Lib.hid (by rw [show lvOf 4 = 16 by rfl]; exact hZ)
  have HS := Lib.hid (show ariS (nxt s.data.toList) = true by rw [hnx]; exact hst)
  clear hd hnx hR hZ
  go_enter Tryf.func6, Tryf.ntmps6
  go_wp2_with (first
    | (go_at_call 14; refine (HB.out _).mono ?_; rintro e w' ⟨rfl, rfl⟩)
    | (go_at_call 15; refine (zariS _ _).mono ?_; rintro e w' ⟨rfl, rfl⟩; first | rw [hst] | rw [show dqS 36 = true by decide] | rw [show regS 96 = true by decide])
    | (go_at_call 8; refine (zclean _ _).mono ?_; rintro e w' ⟨rfl, rfl⟩; rw [hcl])
    | (go_at_call 9; refine (run_arithm HD0.out (by first | decide | (simp; done) | omega) (by omega) HC.out (HS.out) (HR.out _ (by decide))).mono ?_; rintro e w1 ⟨rfl, hk⟩; have HD1 := Lib.hid (HD0.out.kept hk); have HK1 := Lib.hid (HK0.out.trans hk); clear hk))
  refine wp_loop_rounds 4 ?_
  rw [rounds_succ]
  go_wp2_with (first
    | (go_at_call 9; refine (run_arithm HD4.out (by first | decide | (simp; done) | omega) (by omega) HC.out (HS.out) HZ.out).mono ?_; rintro e w5 ⟨rfl, hk⟩; have HD5 := Lib.hid (HD4.out.kept hk); have HK5 := Lib.hid (HK4.out.trans hk); clear hk)
    | (go_at_call 9; refine (run_arithm HD3.out (by first | decide | (simp; done) | omega) (by omega) HC.out (HS.out) (HR.out _ (by first | decide | (simp; done) | omega))).mono ?_; rintro e w4 ⟨rfl, hk⟩; have HD4 := Lib.hid (HD3.out.kept hk); have HK4 := Lib.hid (HK3.out.trans hk); clear hk)
    | (go_at_call 9; refine (run_arithm HD2.out (by first | decide | (simp; done) | omega) (by omega) HC.out (HS.out) (HR.out _ (by first | decide | (simp; done) | omega))).mono ?_; rintro e w3 ⟨rfl, hk⟩; have HD3 := Lib.hid (HD2.out.kept hk); have HK3 := Lib.hid (HK2.out.trans hk); clear hk)
    | (go_at_call 9; refine (run_arithm HD1.out (by first | decide | (simp; done) | omega) (by omega) HC.out (HS.out) (HR.out _ (by first | decide | (simp; done) | omega))).mono ?_; rintro e w2 ⟨rfl, hk⟩; have HD2 := Lib.hid (HD1.out.kept hk); have HK2 := Lib.hid (HK1.out.trans hk); clear hk))
  rw [rounds_succ]
  go_wp2_with (first
    | (go_at_call 9; refine (run_arithm HD4.out (by first | decide | (simp; done) | omega) (by omega) HC.out (HS.out) HZ.out).mono ?_; rintro e w5 ⟨rfl, hk⟩; have HD5 := Lib.hid (HD4.out.kept hk); have HK5 := Lib.hid (HK4.out.trans hk); clear hk)
    | (go_at_call 9; refine (run_arithm HD3.out (by first | decide | (simp; done) | omega) (by omega) HC.out (HS.out) (HR.out _ (by first | decide | (simp; done) | omega))).mono ?_; rintro e w4 ⟨rfl, hk⟩; have HD4 := Lib.hid (HD3.out.kept hk); have HK4 := Lib.hid (HK3.out.trans hk); clear hk)
    | (go_at_call 9; refine (run_arithm HD2.out (by first | decide | (simp; done) | omega) (by omega) HC.out (HS.out) (HR.out _ (by first | decide | (simp; done) | omega))).mono ?_; rintro e w3 ⟨rfl, hk⟩; have HD3 := Lib.hid (HD2.out.kept hk); have HK3 := Lib.hid (HK2.out.trans hk); clear hk)
    | (go_at_call 9; refine (run_arithm HD1.out (by first | decide | (simp; done) | omega) (by omega) HC.out (HS.out) (HR.out _ (by first | decide | (simp; done) | omega))).mono ?_; rintro e w2 ⟨rfl, hk⟩; have HD2 := Lib.hid (HD1.out.kept hk); have HK2 := Lib.hid (HK1.out.trans hk); clear hk))
  rw [rounds_succ]
  go_wp2_with (first
    | (go_at_call 9; refine (run_arithm HD4.out (by first | decide | (simp; done) | omega) (by omega) HC.out (HS.out) HZ.out).mono ?_; rintro e w5 ⟨rfl, hk⟩; have HD5 := Lib.hid (HD4.out.kept hk); have HK5 := Lib.hid (HK4.out.trans hk); clear hk)
    | (go_at_call 9; refine (run_arithm HD3.out (by first | decide | (simp; done) | omega) (by omega) HC.out (HS.out) (HR.out _ (by first | decide | (simp; done) | omega))).mono ?_; rintro e w4 ⟨rfl, hk⟩; have HD4 := Lib.hid (HD3.out.kept hk); have HK4 := Lib.hid (HK3.out.trans hk); clear hk)
    | (go_at_call 9; refine (run_arithm HD2.out (by first | decide | (simp; done) | omega) (by omega) HC.out (HS.out) (HR.out _ (by first | decide | (simp; done) | omega))).mono ?_; rintro e w3 ⟨rfl, hk⟩; have HD3 := Lib.hid (HD2.out.kept hk); have HK3 := Lib.hid (HK2.out.trans hk); clear hk)
    | (go_at_call 9; refine (run_arithm HD1.out (by first | decide | (simp; done) | omega) (by omega) HC.out (HS.out) (HR.out _ (by first | decide | (simp; done) | omega))).mono ?_; rintro e w2 ⟨rfl, hk⟩; have HD2 := Lib.hid (HD1.out.kept hk); have HK2 := Lib.hid (HK1.out.trans hk); clear hk))
  rw [rounds_succ]
  go_wp2_with (first
    | (go_at_call 9; refine (run_arithm HD4.out (by first | decide | (simp; done) | omega) (by omega) HC.out (HS.out) HZ.out).mono ?_; rintro e w5 ⟨rfl, hk⟩; have HD5 := Lib.hid (HD4.out.kept hk); have HK5 := Lib.hid (HK4.out.trans hk); clear hk)
    | (go_at_call 9; refine (run_arithm HD3.out (by first | decide | (simp; done) | omega) (by omega) HC.out (HS.out) (HR.out _ (by first | decide | (simp; done) | omega))).mono ?_; rintro e w4 ⟨rfl, hk⟩; have HD4 := Lib.hid (HD3.out.kept hk); have HK4 := Lib.hid (HK3.out.trans hk); clear hk)
    | (go_at_call 9; refine (run_arithm HD2.out (by first | decide | (simp; done) | omega) (by omega) HC.out (HS.out) (HR.out _ (by first | decide | (simp; done) | omega))).mono ?_; rintro e w3 ⟨rfl, hk⟩; have HD3 := Lib.hid (HD2.out.kept hk); have HK3 := Lib.hid (HK2.out.trans hk); clear hk)
    | (go_at_call 9; refine (run_arithm HD1.out (by first | decide | (simp; done) | omega) (by omega) HC.out (HS.out) (HR.out _ (by first | decide | (simp; done) | omega))).mono ?_; rintro e w2 ⟨rfl, hk⟩; have HD2 := Lib.hid (HD1.out.kept hk); have HK2 := Lib.hid (HK1.out.trans hk); clear hk))
  go_ret
  exact ⟨rfl, HK5.out⟩

set_option maxRecDepth 100000 in
set_option maxHeartbeats 3200000 in
theorem ari_z61 {w : World} {ea : Addr} {F : Interp} (s : ByteArray) (hd : Wd w ea F) (h : s.size ≤ 1048576) (h0 : 0 < s.size) (hst : ariS (s[0].toNat : Int) = true) (hcl : cl6 s.data.toList = true) (t j n tz jz nz : Int) (hR : (ariT 1 (nxt s.data.toList)).run (nxt s.data.toList) s.data.toList.tail 0 = (t, j, n)) (hZ : (ariT 16 (nxt s.data.toList)).run (nxt s.data.toList) s.data.toList.tail 0 = (tz, jz, nz)) (hj : jz = 3) (hj2 : j = 2) (ht : tz = 61) : Calls Tryf.prog 6 #[.string s] w fun e w' => e = .returned (.bool true) ∧ Kept [] w w' := by
  have hnx : nxt s.data.toList = (s[0].toNat : Int) := by
    have hlow : s[0].toNat < 128 := by unfold ariS at hst; have := of_decide_eq_true hst; omega
    rw [nxt_head h0, if_pos hlow]
  have q0 : ((s.size : Int) == 0) = false := by rw [beq_eq_false_iff_ne]; omega
  have HB := Lib.hid (fun w => zb_FnArithmTokenDialects (w := w) s (by omega))
  rw [acc_one.2 h] at HB
  have HD0 := Lib.hid hd
  have HK0 := Lib.hid (Kept.refl [] w)
  have HC := Lib.hid (cl_of hcl)
  have HR : Hid (∀ li : Int, (li = 0 ∨ li = 1 ∨ li = 2 ∨ li = 3) → (ariT (lvOf li) (nxt s.data.toList)).run (nxt s.data.toList) s.data.toList.tail 0 = (t, j, n)) := Lib.hid (fun li hh => by rw [ari_lv hh]; exact hR)
  have HZ : Hid ((ariT (lvOf 4) (nxt s.data.toList)).run (nxt s.data.toList) s.data.toList.tail 0 = (tz, jz, nz)) := Lib.hid (by rw [show lvOf 4 = 16 by rfl]; exact hZ)
  have HS := Lib.hid (show ariS (nxt s.data.toList) = true by rw [hnx]; exact hst)
  clear hd hnx hR hZ
  go_enter Tryf.func6, Tryf.ntmps6
  go_wp2_with (first
    | (go_at_call 14; refine (HB.out _).mono ?_; rintro e w' ⟨rfl, rfl⟩)
    | (go_at_call 15; refine (zariS _ _).mono ?_; rintro e w' ⟨rfl, rfl⟩; first | rw [hst] | rw [show dqS 36 = true by decide] | rw [show regS 96 = true by decide])
    | (go_at_call 8; refine (zclean _ _).mono ?_; rintro e w' ⟨rfl, rfl⟩; rw [hcl])
    | (go_at_call 9; refine (run_arithm HD0.out (by first | decide | (simp; done) | omega) (by omega) HC.out (HS.out) (HR.out _ (by decide))).mono ?_; rintro e w1 ⟨rfl, hk⟩; have HD1 := Lib.hid (HD0.out.kept hk); have HK1 := Lib.hid (HK0.out.trans hk); clear hk))
  refine wp_loop_rounds 4 ?_
  rw [rounds_succ]
  go_wp2_with (first
    | (go_at_call 9; refine (run_arithm HD4.out (by first | decide | (simp; done) | omega) (by omega) HC.out (HS.out) HZ.out).mono ?_; rintro e w5 ⟨rfl, hk⟩; have HD5 := Lib.hid (HD4.out.kept hk); have HK5 := Lib.hid (HK4.out.trans hk); clear hk)
    | (go_at_call 9; refine (run_arithm HD3.out (by first | decide | (simp; done) | omega) (by omega) HC.out (HS.out) (HR.out _ (by first | decide | (simp; done) | omega))).mono ?_; rintro e w4 ⟨rfl, hk⟩; have HD4 := Lib.hid (HD3.out.kept hk); have HK4 := Lib.hid (HK3.out.trans hk); clear hk)
    | (go_at_call 9; refine (run_arithm HD2.out (by first | decide | (simp; done) | omega) (by omega) HC.out (HS.out) (HR.out _ (by first | decide | (simp; done) | omega))).mono ?_; rintro e w3 ⟨rfl, hk⟩; have HD3 := Lib.hid (HD2.out.kept hk); have HK3 := Lib.hid (HK2.out.trans hk); clear hk)
    | (go_at_call 9; refine (run_arithm HD1.out (by first | decide | (simp; done) | omega) (by omega) HC.out (HS.out) (HR.out _ (by first | decide | (simp; done) | omega))).mono ?_; rintro e w2 ⟨rfl, hk⟩; have HD2 := Lib.hid (HD1.out.kept hk); have HK2 := Lib.hid (HK1.out.trans hk); clear hk))
  rw [rounds_succ]
  go_wp2_with (first
    | (go_at_call 9; refine (run_arithm HD4.out (by first | decide | (simp; done) | omega) (by omega) HC.out (HS.out) HZ.out).mono ?_; rintro e w5 ⟨rfl, hk⟩; have HD5 := Lib.hid (HD4.out.kept hk); have HK5 := Lib.hid (HK4.out.trans hk); clear hk)
    | (go_at_call 9; refine (run_arithm HD3.out (by first | decide | (simp; done) | omega) (by omega) HC.out (HS.out) (HR.out _ (by first | decide | (simp; done) | omega))).mono ?_; rintro e w4 ⟨rfl, hk⟩; have HD4 := Lib.hid (HD3.out.kept hk); have HK4 := Lib.hid (HK3.out.trans hk); clear hk)
    | (go_at_call 9; refine (run_arithm HD2.out (by first | decide | (simp; done) | omega) (by omega) HC.out (HS.out) (HR.out _ (by first | decide | (simp; done) | omega))).mono ?_; rintro e w3 ⟨rfl, hk⟩; have HD3 := Lib.hid (HD2.out.kept hk); have HK3 := Lib.hid (HK2.out.trans hk); clear hk)
    | (go_at_call 9; refine (run_arithm HD1.out (by first | decide | (simp; done) | omega) (by omega) HC.out (HS.out) (HR.out _ (by first | decide | (simp; done) | omega))).mono ?_; rintro e w2 ⟨rfl, hk⟩; have HD2 := Lib.hid (HD1.out.kept hk); have HK2 := Lib.hid (HK1.out.trans hk); clear hk))
  rw [rounds_succ]
  go_wp2_with (first
    | (go_at_call 9; refine (run_arithm HD4.out (by first | decide | (simp; done) | omega) (by omega) HC.out (HS.out) HZ.out).mono ?_; rintro e w5 ⟨rfl, hk⟩; have HD5 := Lib.hid (HD4.out.kept hk); have HK5 := Lib.hid (HK4.out.trans hk); clear hk)
    | (go_at_call 9; refine (run_arithm HD3.out (by first | decide | (simp; done) | omega) (by omega) HC.out (HS.out) (HR.out _ (by first | decide | (simp; done) | omega))).mono ?_; rintro e w4 ⟨rfl, hk⟩; have HD4 := Lib.hid (HD3.out.kept hk); have HK4 := Lib.hid (HK3.out.trans hk); clear hk)
    | (go_at_call 9; refine (run_arithm HD2.out (by first | decide | (simp; done) | omega) (by omega) HC.out (HS.out) (HR.out _ (by first | decide | (simp; done) | omega))).mono ?_; rintro e w3 ⟨rfl, hk⟩; have HD3 := Lib.hid (HD2.out.kept hk); have HK3 := Lib.hid (HK2.out.trans hk); clear hk)
    | (go_at_call 9; refine (run_arithm HD1.out (by first | decide | (simp; done) | omega) (by omega) HC.out (HS.out) (HR.out _ (by first | decide | (simp; done) | omega))).mono ?_; rintro e w2 ⟨rfl, hk⟩; have HD2 := Lib.hid (HD1.out.kept hk); have HK2 := Lib.hid (HK1.out.trans hk); clear hk))
  rw [rounds_succ]
  go_wp2_with (first
    | (go_at_call 9; refine (run_arithm HD4.out (by first | decide | (simp; done) | omega) (by omega) HC.out (HS.out) HZ.out).mono ?_; rintro e w5 ⟨rfl, hk⟩; have HD5 := Lib.hid (HD4.out.kept hk); have HK5 := Lib.hid (HK4.out.trans hk); clear hk)
    | (go_at_call 9; refine (run_arithm HD3.out (by first | decide | (simp; done) | omega) (by omega) HC.out (HS.out) (HR.out _ (by first | decide | (simp; done) | omega))).mono ?_; rintro e w4 ⟨rfl, hk⟩; have HD4 := Lib.hid (HD3.out.kept hk); have HK4 := Lib.hid (HK3.out.trans hk); clear hk)
    | (go_at_call 9; refine (run_arithm HD2.out (by first | decide | (simp; done) | omega) (by omega) HC.out (HS.out) (HR.out _ (by first | decide | (simp; done) | omega))).mono ?_; rintro e w3 ⟨rfl, hk⟩; have HD3 := Lib.hid (HD2.out.kept hk); have HK3 := Lib.hid (HK2.out.trans hk); clear hk)
    | (go_at_call 9; refine (run_arithm HD1.out (by first | decide | (simp; done) | omega) (by omega) HC.out (HS.out) (HR.out _ (by first | decide | (simp; done) | omega))).mono ?_; rintro e w2 ⟨rfl, hk⟩; have HD2 := Lib.hid (HD1.out.kept hk); have HK2 := Lib.hid (HK1.out.trans hk); clear hk))
  go_ret
  exact ⟨rfl, HK5.out⟩

theorem law_FnArithmTokenDialects {w : World} {ea : Addr} {F : Interp} (s : ByteArray) (hd : Wd w ea F) (h1 : s.size ≤ 9223372036854775807) : Calls Tryf.prog 6 #[.string s] w fun e w' => e = .returned (.bool true) ∧ Kept [] w w' := by
  have up : ∀ {e : Ending} {w' : World}, (e = .returned (.bool true) ∧ w = w') → (e = .returned (.bool true) ∧ Kept [] w w') := fun hh => ⟨hh.1, hh.2 ▸ Kept.refl _ _⟩
  by_cases h : s.size ≤ 1048576
  rotate_left
  · exact (ari_big w s h1 (by omega)).mono fun e w' hh => up hh
  by_cases h0 : 0 < s.size
  rotate_left
  · exact (ari_nil w s h (by omega)).mono fun e w' hh => up hh
  cases hst : ariS (s[0].toNat : Int) with
  | false => exact (ari_st w s h h0 hst).mono fun e w' hh => up hh
  | true =>
    cases hcl : cl6 s.data.toList with
    | false => exact (ari_cl w s h h0 hst hcl).mono fun e w' hh => up hh
    | true =>
      obtain ⟨⟨t, j, n⟩, hR⟩ : ∃ R, (ariT 1 (nxt s.data.toList)).run (nxt s.data.toList) s.data.toList.tail 0 = R := ⟨_, rfl⟩
      obtain ⟨⟨tz, jz, nz⟩, hZ⟩ : ∃ R, (ariT 16 (nxt s.data.toList)).run (nxt s.data.toList) s.data.toList.tail 0 = R := ⟨_, rfl⟩
      have hr := ari_rel (nxt s.data.toList) s.data.toList.tail
      rw [hR, hZ] at hr
      rcases hr with ⟨e1, e2⟩ | ⟨e1, e2, e3 | e3 | e3 | e3⟩
      · exact ari_eq s hd h h0 hst hcl _ _ _ _ _ _ hR hZ e1 e2
      · exact ari_z59 s hd h h0 hst hcl _ _ _ _ _ _ hR hZ e1 e2 e3
      · exact ari_z60 s hd h h0 hst hcl _ _ _ _ _ _ hR hZ e1 e2 e3
      · exact ari_z62 s hd h h0 hst hcl _ _ _ _ _ _ hR hZ e1 e2 e3
      · exact ari_z61 s hd h h0 hst hcl _ _ _ _ _ _ hR hZ e1 e2 e3
end Go.Proofs.YtolgahamfkaipaaFmt
