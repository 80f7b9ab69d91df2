/-
  n010_119: FnDqTokenAgreesWithRegToken, walked.
-/
import Derived.Test.YtolgahamfkaipaaFmtTp
namespace Go.Proofs.YtolgahamfkaipaaFmt
open Go.RowKit Go.Stop Go.Extern

/-- The sizes, added up; each, and the sum, at most 1 << 20. -/
def acc : Nat → List Nat → Option Nat
  | t, [] => some t
  | t, x :: l => if 1048576 < x then none else if 1048576 < t + x then none else acc (t + x) l
theorem acc_one {a : Nat} : (acc 0 [a]).isSome = true ↔ a ≤ 1048576 := by
  simp only [acc, Nat.zero_add]
  split
  · simp; omega
  · simp; omega
theorem nxt_head {s : ByteArray} (h : 0 < s.size) : nxt s.data.toList = if s[0].toNat < 128 then (s[0].toNat : Int) else nxt s.data.toList := by
  have e := str_at h
  cases hl : s.data.toList with
  | nil => rw [hl] at e; cases e
  | cons x d =>
    rw [hl] at e
    obtain rfl : x = s[0] := Option.some.inj e
    split
    · next h2 => exact nxt_ascii h2
    · rfl
set_option maxRecDepth 100000 in
set_option maxHeartbeats 1600000 in
theorem zb_FnDqTokenAgreesWithRegToken {w : World} (p0 : Int) (p1 : ByteArray) (s1 : p1.size ≤ 9223372036854775807) : Calls Tryf.prog 10 #[.int .i64 p0, .string p1] w fun e w' => e = .returned (.bool (acc 0 (p1.size :: [])).isSome) ∧ w = w' := by
  obtain ⟨bv, hbv⟩ : ∃ b, b = (acc 0 (p1.size :: [])).isSome := ⟨_, rfl⟩
  rw [← hbv]
  have HBV := Lib.hid hbv
  clear hbv
  go_enter Tryf.func10, Tryf.ntmps10
  by_cases g0 : 1048576 < p1.size
  · go_wp2_with fail
    go_ret
    rw [HBV.out]
    have e : acc 0 (p1.size :: []) = none := by
      simp only [acc, Nat.zero_add]
      repeat' split
      all_goals first | rfl | omega
    rw [e]
    exact ⟨rfl, rfl⟩
  go_wp2_with fail
  go_ret
  rw [HBV.out]
  have e : (acc 0 (p1.size :: [])).isSome = true := by
    simp only [acc, Nat.zero_add]
    repeat' split
    all_goals first | rfl | omega
  rw [e]
  exact ⟨rfl, rfl⟩
set_option maxRecDepth 100000 in
set_option maxHeartbeats 1600000 in
theorem dq_big (w : World) (li : Int) (s : ByteArray) (h2 : s.size ≤ 9223372036854775807) (h : 1048576 < s.size) : Calls Tryf.prog 4 #[.int .i64 li, .string s] w fun e w' => e = .returned (.bool true) ∧ w = w' := by
  have HB := Lib.hid (fun w => zb_FnDqTokenAgreesWithRegToken (w := w) li s (by omega))
  rw [show (acc 0 [s.size]).isSome = false by rw [Bool.eq_false_iff]; exact fun e => by have := acc_one.1 e; omega] at HB
  go_enter Tryf.func4, Tryf.ntmps4
  go_wp2_with (first
    | (go_at_call 10; refine (HB.out _).mono ?_; rintro e w' ⟨rfl, rfl⟩))
  all_goals (
    go_ret
    exact ⟨rfl, rfl⟩)
set_option maxRecDepth 100000 in
set_option maxHeartbeats 1600000 in
theorem dq_low (w : World) (li : Int) (s : ByteArray) (h : s.size ≤ 1048576) (l1 : li < 0) : Calls Tryf.prog 4 #[.int .i64 li, .string s] w fun e w' => e = .returned (.bool true) ∧ w = w' := by
  have HB := Lib.hid (fun w => zb_FnDqTokenAgreesWithRegToken (w := w) li s (by omega))
  rw [show (acc 0 [s.size]).isSome = true by exact acc_one.2 h] at HB
  go_enter Tryf.func4, Tryf.ntmps4
  go_wp2_with (first
    | (go_at_call 10; refine (HB.out _).mono ?_; rintro e w' ⟨rfl, rfl⟩))
  all_goals (
    go_ret
    exact ⟨rfl, rfl⟩)
set_option maxRecDepth 100000 in
set_option maxHeartbeats 1600000 in
theorem dq_high (w : World) (li : Int) (s : ByteArray) (h : s.size ≤ 1048576) (l1 : 4 < li) : Calls Tryf.prog 4 #[.int .i64 li, .string s] w fun e w' => e = .returned (.bool true) ∧ w = w' := by
  have HB := Lib.hid (fun w => zb_FnDqTokenAgreesWithRegToken (w := w) li s (by omega))
  rw [show (acc 0 [s.size]).isSome = true by exact acc_one.2 h] at HB
  go_enter Tryf.func4, Tryf.ntmps4
  go_wp2_with (first
    | (go_at_call 10; refine (HB.out _).mono ?_; rintro e w' ⟨rfl, rfl⟩))
  all_goals (
    go_ret
    exact ⟨rfl, rfl⟩)
set_option maxRecDepth 100000 in
set_option maxHeartbeats 1600000 in
theorem dq_nil (w : World) (li : Int) (s : ByteArray) (h : s.size ≤ 1048576) (l1 : 0 ≤ li) (l2 : li ≤ 4) (h0 : s.size = 0) : Calls Tryf.prog 4 #[.int .i64 li, .string s] w fun e w' => e = .returned (.bool true) ∧ w = w' := by
  have HB := Lib.hid (fun w => zb_FnDqTokenAgreesWithRegToken (w := w) li s (by omega))
  rw [show (acc 0 [s.size]).isSome = true by exact acc_one.2 h] at HB
  go_enter Tryf.func4, Tryf.ntmps4
  go_wp2_with (first
    | (go_at_call 10; refine (HB.out _).mono ?_; rintro e w' ⟨rfl, rfl⟩))
  all_goals (
    go_ret
    exact ⟨rfl, rfl⟩)
set_option maxRecDepth 100000 in
set_option maxHeartbeats 1600000 in
theorem dq_st (w : World) (li : Int) (s : ByteArray) (h : s.size ≤ 1048576) (l1 : 0 ≤ li) (l2 : li ≤ 4) (h0 : 0 < s.size) (hst : dqS (s[0].toNat : Int) = false) : Calls Tryf.prog 4 #[.int .i64 li, .string s] w fun e w' => e = .returned (.bool true) ∧ w = w' := by
  have HB := Lib.hid (fun w => zb_FnDqTokenAgreesWithRegToken (w := w) li s (by omega))
  rw [show (acc 0 [s.size]).isSome = true by exact acc_one.2 h] at HB
  go_enter Tryf.func4, Tryf.ntmps4
  go_wp2_with (first
    | (go_at_call 10; refine (HB.out _).mono ?_; rintro e w' ⟨rfl, rfl⟩)
    | (go_at_call 11; refine (zdqS _ _).mono ?_; rintro e w' ⟨rfl, rfl⟩; first | rw [hst] | rw [show dqS 36 = true by decide] | rw [show regS 96 = true by decide]))
  all_goals (
    go_ret
    exact ⟨rfl, rfl⟩)
set_option maxRecDepth 100000 in
set_option maxHeartbeats 1600000 in
theorem dq_cl (w : World) (li : Int) (s : ByteArray) (h : s.size ≤ 1048576) (l1 : 0 ≤ li) (l2 : li ≤ 4) (h0 : 0 < s.size) (hst : dqS (s[0].toNat : Int) = true) (hcl : cl6 s.data.toList = false) : Calls Tryf.prog 4 #[.int .i64 li, .string s] w fun e w' => e = .returned (.bool true) ∧ w = w' := by
  have HB := Lib.hid (fun w => zb_FnDqTokenAgreesWithRegToken (w := w) li s (by omega))
  rw [show (acc 0 [s.size]).isSome = true by exact acc_one.2 h] at HB
  go_enter Tryf.func4, Tryf.ntmps4
  go_wp2_with (first
    | (go_at_call 10; refine (HB.out _).mono ?_; rintro e w' ⟨rfl, rfl⟩)
    | (go_at_call 11; refine (zdqS _ _).mono ?_; rintro e w' ⟨rfl, rfl⟩; first | rw [hst] | rw [show dqS 36 = true by decide] | rw [show regS 96 = true by decide])
    | (go_at_call 8; refine (zclean _ _).mono ?_; rintro e w' ⟨rfl, rfl⟩; rw [hcl]))
  all_goals (
    go_ret
    exact ⟨rfl, rfl⟩)

theorem dq_reg_s {r : Int} (h : dqS r = true) : regS r = true := by
  unfold dqS at h
  unfold regS
  have := of_decide_eq_true h
  exact decide_eq_true (by omega)
theorem nxt_two {s : ByteArray} {c : Int} (hc : c < 128) (h : nxt s.data.toList.tail = c) : ∃ h2 : 1 < s.size, (s[1].toNat : Int) = c := by
  obtain ⟨x, d, e, h1, h2⟩ := nxt_low (u := s.data.toList.tail) (by omega)
  have hl : s.data.toList.tail.length = d.length + 1 := by rw [e]; rfl
  have hs : s.data.toList.length = s.size := rfl
  have h3 : 1 < s.size := by simp at hl; omega
  have e2 := str_at h3
  have e3 : s.data.toList[1]? = s.data.toList.tail[0]? := by simp
  rw [e3, e] at e2
  refine ⟨h3, ?_⟩
  rw [← Option.some.inj e2, ← h2]
  exact h

set_option maxRecDepth 100000 in
set_option maxHeartbeats 3200000 in
theorem dq_k1 {w : World} {ea : Addr} {F : Interp} (li : Int) (s : ByteArray) (hd : Wd w ea F) (h : s.size ≤ 1048576) (l1 : 0 ≤ li) (l2 : li ≤ 4) (h0 : 0 < s.size) (_hst : dqS (s[0].toNat : Int) = true) (hcl : cl6 s.data.toList = true) (h1 : 1 < s.size) (e0 : s[0].toNat = 36) (e1 : s[1].toNat = 39) : Calls Tryf.prog 4 #[.int .i64 li, .string s] w fun e w' => e = .returned (.bool true) ∧ Kept [] w w' := by
  have q0 : ((s.size : Int) == 0) = false := by rw [beq_eq_false_iff_ne]; omega
  have HB := Lib.hid (fun w => zb_FnDqTokenAgreesWithRegToken (w := w) li s (by omega))
  rw [acc_one.2 h] at HB
  have HD0 := Lib.hid hd
  have HK0 := Lib.hid (Kept.refl [] w)
  have HC := Lib.hid (cl_of hcl)
  clear hd
  go_enter Tryf.func4, Tryf.ntmps4
  go_wp2_with (first
    | (go_at_call 10; refine (HB.out _).mono ?_; rintro e w' ⟨rfl, rfl⟩)
    | (go_at_call 11; refine (zdqS _ _).mono ?_; rintro e w' ⟨rfl, rfl⟩; first | rw [hst] | rw [show dqS 36 = true by decide] | rw [show regS 96 = true by decide])
    | (go_at_call 8; refine (zclean _ _).mono ?_; rintro e w' ⟨rfl, rfl⟩; rw [hcl]))
  go_ret
  exact ⟨rfl, Kept.refl _ _⟩

set_option maxRecDepth 100000 in
set_option maxHeartbeats 3200000 in
theorem dq_k2 {w : World} {ea : Addr} {F : Interp} (li : Int) (s : ByteArray) (hd : Wd w ea F) (h : s.size ≤ 1048576) (l1 : 0 ≤ li) (l2 : li ≤ 4) (h0 : 0 < s.size) (_hst : dqS (s[0].toNat : Int) = true) (hcl : cl6 s.data.toList = true) (h1 : 1 < s.size) (e0 : s[0].toNat = 36) (e1 : s[1].toNat = 34) : Calls Tryf.prog 4 #[.int .i64 li, .string s] w fun e w' => e = .returned (.bool true) ∧ Kept [] w w' := by
  have q0 : ((s.size : Int) == 0) = false := by rw [beq_eq_false_iff_ne]; omega
  have HB := Lib.hid (fun w => zb_FnDqTokenAgreesWithRegToken (w := w) li s (by omega))
  rw [acc_one.2 h] at HB
  have HD0 := Lib.hid hd
  have HK0 := Lib.hid (Kept.refl [] w)
  have HC := Lib.hid (cl_of hcl)
  clear hd
  go_enter Tryf.func4, Tryf.ntmps4
  go_wp2_with (first
    | (go_at_call 10; refine (HB.out _).mono ?_; rintro e w' ⟨rfl, rfl⟩)
    | (go_at_call 11; refine (zdqS _ _).mono ?_; rintro e w' ⟨rfl, rfl⟩; first | rw [hst] | rw [show dqS 36 = true by decide] | rw [show regS 96 = true by decide])
    | (go_at_call 8; refine (zclean _ _).mono ?_; rintro e w' ⟨rfl, rfl⟩; rw [hcl]))
  go_ret
  exact ⟨rfl, Kept.refl _ _⟩

set_option maxRecDepth 100000 in
set_option maxHeartbeats 3200000 in
theorem dq_ok1 {w : World} {ea : Addr} {F : Interp} (li : Int) (s : ByteArray) (hd : Wd w ea F) (h : s.size ≤ 1048576) (l1 : 0 ≤ li) (l2 : li ≤ 4) (h0 : 0 < s.size) (hst : dqS (s[0].toNat : Int) = true) (hcl : cl6 s.data.toList = true) (h1 : ¬ 1 < s.size) : Calls Tryf.prog 4 #[.int .i64 li, .string s] w fun e w' => e = .returned (.bool true) ∧ Kept [] w w' := by
  have hnx : nxt s.data.toList = (s[0].toNat : Int) := by
    have hlow : s[0].toNat < 128 := by unfold dqS at hst; have := of_decide_eq_true hst; omega
    rw [nxt_head h0, if_pos hlow]
  obtain ⟨⟨t, j, n⟩, hR⟩ : ∃ R, (regT (lvOf li) (nxt s.data.toList)).run (nxt s.data.toList) s.data.toList.tail 0 = R := ⟨_, rfl⟩
  have hQ : (dqT (lvOf li) (nxt s.data.toList)).run (nxt s.data.toList) s.data.toList.tail 0 = (t, j, n) := by
    rw [← hR]
    refine dq_reg _ _ _ ?_ (fun hr => ⟨fun e => ?_, fun e => ?_⟩)
    · rw [hnx]; unfold dqS at hst; exact of_decide_eq_true hst
    · obtain ⟨q1, q2⟩ := nxt_two (by omega) e
      first | omega | (rw [hnx] at hr; omega)
    · obtain ⟨q1, q2⟩ := nxt_two (by omega) e
      first | omega | (rw [hnx] at hr; omega)
  have HS := Lib.hid (show dqS (nxt s.data.toList) = true by rw [hnx]; exact hst)
  have q0 : ((s.size : Int) == 0) = false := by rw [beq_eq_false_iff_ne]; omega
  have HB := Lib.hid (fun w => zb_FnDqTokenAgreesWithRegToken (w := w) li s (by omega))
  rw [acc_one.2 h] at HB
  have HD0 := Lib.hid hd
  have HK0 := Lib.hid (Kept.refl [] w)
  have HC := Lib.hid (cl_of hcl)
  clear hd hnx
  go_enter Tryf.func4, Tryf.ntmps4
  go_wp2_with (first
    | (go_at_call 10; refine (HB.out _).mono ?_; rintro e w' ⟨rfl, rfl⟩)
    | (go_at_call 11; refine (zdqS _ _).mono ?_; rintro e w' ⟨rfl, rfl⟩; first | rw [hst] | rw [show dqS 36 = true by decide] | rw [show regS 96 = true by decide])
    | (go_at_call 8; refine (zclean _ _).mono ?_; rintro e w' ⟨rfl, rfl⟩; rw [hcl])
    | (go_at_call 9; refine (run_dq HD1.out (by omega) (by omega) HC.out (HS.out) hQ).mono ?_; rintro e w2 ⟨rfl, hk⟩; have HD2 := Lib.hid (HD1.out.kept hk); have HK2 := Lib.hid (HK1.out.trans hk); clear hk)
    | (go_at_call 9; refine (run_reg HD0.out (by omega) (by omega) HC.out (dq_reg_s HS.out) hR).mono ?_; rintro e w1 ⟨rfl, hk⟩; have HD1 := Lib.hid (HD0.out.kept hk); have HK1 := Lib.hid (HK0.out.trans hk); clear hk))
  go_ret
  exact ⟨rfl, HK2.out⟩

set_option maxRecDepth 100000 in
set_option maxHeartbeats 3200000 in
theorem dq_ok2 {w : World} {ea : Addr} {F : Interp} (li : Int) (s : ByteArray) (hd : Wd w ea F) (h : s.size ≤ 1048576) (l1 : 0 ≤ li) (l2 : li ≤ 4) (h0 : 0 < s.size) (hst : dqS (s[0].toNat : Int) = true) (hcl : cl6 s.data.toList = true) (h1 : 1 < s.size) (e0 : ¬ s[0].toNat = 36) : Calls Tryf.prog 4 #[.int .i64 li, .string s] w fun e w' => e = .returned (.bool true) ∧ Kept [] w w' := by
  have hnx : nxt s.data.toList = (s[0].toNat : Int) := by
    have hlow : s[0].toNat < 128 := by unfold dqS at hst; have := of_decide_eq_true hst; omega
    rw [nxt_head h0, if_pos hlow]
  obtain ⟨⟨t, j, n⟩, hR⟩ : ∃ R, (regT (lvOf li) (nxt s.data.toList)).run (nxt s.data.toList) s.data.toList.tail 0 = R := ⟨_, rfl⟩
  have hQ : (dqT (lvOf li) (nxt s.data.toList)).run (nxt s.data.toList) s.data.toList.tail 0 = (t, j, n) := by
    rw [← hR]
    refine dq_reg _ _ _ ?_ (fun hr => ⟨fun e => ?_, fun e => ?_⟩)
    · rw [hnx]; unfold dqS at hst; exact of_decide_eq_true hst
    · obtain ⟨q1, q2⟩ := nxt_two (by omega) e
      first | omega | (rw [hnx] at hr; omega)
    · obtain ⟨q1, q2⟩ := nxt_two (by omega) e
      first | omega | (rw [hnx] at hr; omega)
  have HS := Lib.hid (show dqS (nxt s.data.toList) = true by rw [hnx]; exact hst)
  have q0 : ((s.size : Int) == 0) = false := by rw [beq_eq_false_iff_ne]; omega
  have b036 : ((s[0].toNat : Int) == 36) = false := by rw [beq_eq_false_iff_ne]; omega
  have HB := Lib.hid (fun w => zb_FnDqTokenAgreesWithRegToken (w := w) li s (by omega))
  rw [acc_one.2 h] at HB
  have HD0 := Lib.hid hd
  have HK0 := Lib.hid (Kept.refl [] w)
  have HC := Lib.hid (cl_of hcl)
  clear hd hnx
  go_enter Tryf.func4, Tryf.ntmps4
  go_wp2_with (first
    | (go_at_call 10; refine (HB.out _).mono ?_; rintro e w' ⟨rfl, rfl⟩)
    | (go_at_call 11; refine (zdqS _ _).mono ?_; rintro e w' ⟨rfl, rfl⟩; first | rw [hst] | rw [show dqS 36 = true by decide] | rw [show regS 96 = true by decide])
    | (go_at_call 8; refine (zclean _ _).mono ?_; rintro e w' ⟨rfl, rfl⟩; rw [hcl])
    | (go_at_call 9; refine (run_dq HD1.out (by omega) (by omega) HC.out (HS.out) hQ).mono ?_; rintro e w2 ⟨rfl, hk⟩; have HD2 := Lib.hid (HD1.out.kept hk); have HK2 := Lib.hid (HK1.out.trans hk); clear hk)
    | (go_at_call 9; refine (run_reg HD0.out (by omega) (by omega) HC.out (dq_reg_s HS.out) hR).mono ?_; rintro e w1 ⟨rfl, hk⟩; have HD1 := Lib.hid (HD0.out.kept hk); have HK1 := Lib.hid (HK0.out.trans hk); clear hk))
  go_ret
  exact ⟨rfl, HK2.out⟩

set_option maxRecDepth 100000 in
set_option maxHeartbeats 3200000 in
theorem dq_ok3 {w : World} {ea : Addr} {F : Interp} (li : Int) (s : ByteArray) (hd : Wd w ea F) (h : s.size ≤ 1048576) (l1 : 0 ≤ li) (l2 : li ≤ 4) (h0 : 0 < s.size) (hst : dqS (s[0].toNat : Int) = true) (hcl : cl6 s.data.toList = true) (h1 : 1 < s.size) (e0 : s[0].toNat = 36) (e1 : ¬ s[1].toNat = 39) (e2 : ¬ s[1].toNat = 34) : Calls Tryf.prog 4 #[.int .i64 li, .string s] w fun e w' => e = .returned (.bool true) ∧ Kept [] w w' := by
  have hnx : nxt s.data.toList = (s[0].toNat : Int) := by
    have hlow : s[0].toNat < 128 := by unfold dqS at hst; have := of_decide_eq_true hst; omega
    rw [nxt_head h0, if_pos hlow]
  obtain ⟨⟨t, j, n⟩, hR⟩ : ∃ R, (regT (lvOf li) (nxt s.data.toList)).run (nxt s.data.toList) s.data.toList.tail 0 = R := ⟨_, rfl⟩
  have hQ : (dqT (lvOf li) (nxt s.data.toList)).run (nxt s.data.toList) s.data.toList.tail 0 = (t, j, n) := by
    rw [← hR]
    refine dq_reg _ _ _ ?_ (fun hr => ⟨fun e => ?_, fun e => ?_⟩)
    · rw [hnx]; unfold dqS at hst; exact of_decide_eq_true hst
    · obtain ⟨q1, q2⟩ := nxt_two (by omega) e
      first | omega | (rw [hnx] at hr; omega)
    · obtain ⟨q1, q2⟩ := nxt_two (by omega) e
      first | omega | (rw [hnx] at hr; omega)
  have HS := Lib.hid (show dqS (nxt s.data.toList) = true by rw [hnx]; exact hst)
  have q0 : ((s.size : Int) == 0) = false := by rw [beq_eq_false_iff_ne]; omega
  have b139 : ((s[1].toNat : Int) == 39) = false := by rw [beq_eq_false_iff_ne]; omega
  have b134 : ((s[1].toNat : Int) == 34) = false := by rw [beq_eq_false_iff_ne]; omega
  have HB := Lib.hid (fun w => zb_FnDqTokenAgreesWithRegToken (w := w) li s (by omega))
  rw [acc_one.2 h] at HB
  have HD0 := Lib.hid hd
  have HK0 := Lib.hid (Kept.refl [] w)
  have HC := Lib.hid (cl_of hcl)
  clear hd hnx
  go_enter Tryf.func4, Tryf.ntmps4
  go_wp2_with (first
    | (go_at_call 10; refine (HB.out _).mono ?_; rintro e w' ⟨rfl, rfl⟩)
    | (go_at_call 11; refine (zdqS _ _).mono ?_; rintro e w' ⟨rfl, rfl⟩; first | rw [hst] | rw [show dqS 36 = true by decide] | rw [show regS 96 = true by decide])
    | (go_at_call 8; refine (zclean _ _).mono ?_; rintro e w' ⟨rfl, rfl⟩; rw [hcl])
    | (go_at_call 9; refine (run_dq HD1.out (by omega) (by omega) HC.out (HS.out) hQ).mono ?_; rintro e w2 ⟨rfl, hk⟩; have HD2 := Lib.hid (HD1.out.kept hk); have HK2 := Lib.hid (HK1.out.trans hk); clear hk)
    | (go_at_call 9; refine (run_reg HD0.out (by omega) (by omega) HC.out (dq_reg_s HS.out) hR).mono ?_; rintro e w1 ⟨rfl, hk⟩; have HD1 := Lib.hid (HD0.out.kept hk); have HK1 := Lib.hid (HK0.out.trans hk); clear hk))
  go_ret
  exact ⟨rfl, HK2.out⟩

theorem law_FnDqTokenAgreesWithRegToken {w : World} {ea : Addr} {F : Interp} (li : Int) (s : ByteArray) (hd : Wd w ea F) (h1 : s.size ≤ 9223372036854775807) : Calls Tryf.prog 4 #[.int .i64 li, .string s] w fun e w' => e = .returned (.bool true) ∧ Kept [] w w' := by
  have up : ∀ {e : Ending} {w' : World}, (e = .returned (.bool true) ∧ w = w') → (e = .returned (.bool true) ∧ Kept [] w w') := fun hh => ⟨hh.1, hh.2 ▸ Kept.refl _ _⟩
  by_cases h : s.size ≤ 1048576
  rotate_left
  · exact (dq_big w li s h1 (by omega)).mono fun e w' hh => up hh
  by_cases l1 : 0 ≤ li
  rotate_left
  · exact (dq_low w li s h (by omega)).mono fun e w' hh => up hh
  by_cases l2 : li ≤ 4
  rotate_left
  · exact (dq_high w li s h (by omega)).mono fun e w' hh => up hh
  by_cases h0 : 0 < s.size
  rotate_left
  · exact (dq_nil w li s h l1 l2 (by omega)).mono fun e w' hh => up hh
  cases hst : dqS (s[0].toNat : Int) with
  | false => exact (dq_st w li s h l1 l2 h0 hst).mono fun e w' hh => up hh
  | true =>
    cases hcl : cl6 s.data.toList with
    | false => exact (dq_cl w li s h l1 l2 h0 hst hcl).mono fun e w' hh => up hh
    | true =>
      by_cases g1 : 1 < s.size
      · by_cases e0 : s[0].toNat = 36
        · by_cases e1 : s[1].toNat = 39
          · exact dq_k1 li s hd h l1 l2 h0 hst hcl g1 e0 e1
          · by_cases e2 : s[1].toNat = 34
            · exact dq_k2 li s hd h l1 l2 h0 hst hcl g1 e0 e2
            · exact dq_ok3 li s hd h l1 l2 h0 hst hcl g1 e0 e1 e2
        · exact dq_ok2 li s hd h l1 l2 h0 hst hcl g1 e0
      · exact dq_ok1 li s hd h l1 l2 h0 hst hcl g1
end Go.Proofs.YtolgahamfkaipaaFmt
