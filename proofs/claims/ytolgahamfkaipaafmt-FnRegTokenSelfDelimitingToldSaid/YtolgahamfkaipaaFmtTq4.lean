/-
  n010_119: FnRegTokenSelfDelimiting, walked.
-/
import Derived.Test.YtolgahamfkaipaaFmtTp
import Derived.Test.YtolgahamfkaipaaFmtByt
namespace Go.Proofs.YtolgahamfkaipaaFmt
open Go.RowKit Go.Stop Go.Extern

/-- The sizes, added up; each, and the sum, at most 1 << 20. -/
def acc : Nat → List Nat → Option Nat
  | t, [] => some t
  | t, x :: l => if 1048576 < x then none else if 1048576 < t + x then none else acc (t + x) l
theorem acc_one {a : Nat} : (acc 0 [a]).isSome = true ↔ a ≤ 1048576 := by
  simp only [acc, Nat.zero_add]
  split
  · simp; omega
  · simp; omega
theorem nxt_head {s : ByteArray} (h : 0 < s.size) : nxt s.data.toList = if s[0].toNat < 128 then (s[0].toNat : Int) else nxt s.data.toList := by
  have e := str_at h
  cases hl : s.data.toList with
  | nil => rw [hl] at e; cases e
  | cons x d =>
    rw [hl] at e
    obtain rfl : x = s[0] := Option.some.inj e
    split
    · next h2 => exact nxt_ascii h2
    · rfl
set_option maxRecDepth 100000 in
set_option maxHeartbeats 1600000 in
theorem zb_FnRegTokenSelfDelimiting {w : World} (p0 : Int) (p1 : ByteArray) (s1 : p1.size ≤ 9223372036854775807) : Calls Tryf.prog 12 #[.int .i64 p0, .string p1] w fun e w' => e = .returned (.bool (acc 0 (p1.size :: [])).isSome) ∧ w = w' := by
  obtain ⟨bv, hbv⟩ : ∃ b, b = (acc 0 (p1.size :: [])).isSome := ⟨_, rfl⟩
  rw [← hbv]
  have HBV := Lib.hid hbv
  clear hbv
  go_enter Tryf.func12, Tryf.ntmps12
  by_cases g0 : 1048576 < p1.size
  · go_wp2_with fail
    go_ret
    rw [HBV.out]
    have e : acc 0 (p1.size :: []) = none := by
      simp only [acc, Nat.zero_add]
      repeat' split
      all_goals first | rfl | omega
    rw [e]
    exact ⟨rfl, rfl⟩
  go_wp2_with fail
  go_ret
  rw [HBV.out]
  have e : (acc 0 (p1.size :: [])).isSome = true := by
    simp only [acc, Nat.zero_add]
    repeat' split
    all_goals first | rfl | omega
  rw [e]
  exact ⟨rfl, rfl⟩
set_option maxRecDepth 100000 in
set_option maxHeartbeats 1600000 in
theorem reg_big (w : World) (li : Int) (s : ByteArray) (h2 : s.size ≤ 9223372036854775807) (h : 1048576 < s.size) : Calls Tryf.prog 5 #[.int .i64 li, .string s] w fun e w' => e = .returned (.bool true) ∧ w = w' := by
  have HB := Lib.hid (fun w => zb_FnRegTokenSelfDelimiting (w := w) li s (by omega))
  rw [show (acc 0 [s.size]).isSome = false by rw [Bool.eq_false_iff]; exact fun e => by have := acc_one.1 e; omega] at HB
  go_enter Tryf.func5, Tryf.ntmps5
  go_wp2_with (first
    | (go_at_call 12; refine (HB.out _).mono ?_; rintro e w' ⟨rfl, rfl⟩))
  all_goals (
    go_ret
    exact ⟨rfl, rfl⟩)
set_option maxRecDepth 100000 in
set_option maxHeartbeats 1600000 in
theorem reg_low (w : World) (li : Int) (s : ByteArray) (h : s.size ≤ 1048576) (l1 : li < 0) : Calls Tryf.prog 5 #[.int .i64 li, .string s] w fun e w' => e = .returned (.bool true) ∧ w = w' := by
  have HB := Lib.hid (fun w => zb_FnRegTokenSelfDelimiting (w := w) li s (by omega))
  rw [show (acc 0 [s.size]).isSome = true by exact acc_one.2 h] at HB
  go_enter Tryf.func5, Tryf.ntmps5
  go_wp2_with (first
    | (go_at_call 12; refine (HB.out _).mono ?_; rintro e w' ⟨rfl, rfl⟩))
  all_goals (
    go_ret
    exact ⟨rfl, rfl⟩)
set_option maxRecDepth 100000 in
set_option maxHeartbeats 1600000 in
theorem reg_high (w : World) (li : Int) (s : ByteArray) (h : s.size ≤ 1048576) (l1 : 4 < li) : Calls Tryf.prog 5 #[.int .i64 li, .string s] w fun e w' => e = .returned (.bool true) ∧ w = w' := by
  have HB := Lib.hid (fun w => zb_FnRegTokenSelfDelimiting (w := w) li s (by omega))
  rw [show (acc 0 [s.size]).isSome = true by exact acc_one.2 h] at HB
  go_enter Tryf.func5, Tryf.ntmps5
  go_wp2_with (first
    | (go_at_call 12; refine (HB.out _).mono ?_; rintro e w' ⟨rfl, rfl⟩))
  all_goals (
    go_ret
    exact ⟨rfl, rfl⟩)
set_option maxRecDepth 100000 in
set_option maxHeartbeats 1600000 in
theorem reg_nil (w : World) (li : Int) (s : ByteArray) (h : s.size ≤ 1048576) (l1 : 0 ≤ li) (l2 : li ≤ 4) (h0 : s.size = 0) : Calls Tryf.prog 5 #[.int .i64 li, .string s] w fun e w' => e = .returned (.bool true) ∧ w = w' := by
  have HB := Lib.hid (fun w => zb_FnRegTokenSelfDelimiting (w := w) li s (by omega))
  rw [show (acc 0 [s.size]).isSome = true by exact acc_one.2 h] at HB
  go_enter Tryf.func5, Tryf.ntmps5
  go_wp2_with (first
    | (go_at_call 12; refine (HB.out _).mono ?_; rintro e w' ⟨rfl, rfl⟩))
  all_goals (
    go_ret
    exact ⟨rfl, rfl⟩)
set_option maxRecDepth 100000 in
set_option maxHeartbeats 1600000 in
theorem reg_st (w : World) (li : Int) (s : ByteArray) (h : s.size ≤ 1048576) (l1 : 0 ≤ li) (l2 : li ≤ 4) (h0 : 0 < s.size) (hst : regS (s[0].toNat : Int) = false) : Calls Tryf.prog 5 #[.int .i64 li, .string s] w fun e w' => e = .returned (.bool true) ∧ w = w' := by
  have HB := Lib.hid (fun w => zb_FnRegTokenSelfDelimiting (w := w) li s (by omega))
  rw [show (acc 0 [s.size]).isSome = true by exact acc_one.2 h] at HB
  go_enter Tryf.func5, Tryf.ntmps5
  go_wp2_with (first
    | (go_at_call 12; refine (HB.out _).mono ?_; rintro e w' ⟨rfl, rfl⟩)
    | (go_at_call 13; refine (zregS _ _).mono ?_; rintro e w' ⟨rfl, rfl⟩; first | rw [hst] | rw [show dqS 36 = true by decide] | rw [show regS 96 = true by decide]))
  all_goals (
    go_ret
    exact ⟨rfl, rfl⟩)
set_option maxRecDepth 100000 in
set_option maxHeartbeats 1600000 in
theorem reg_cl (w : World) (li : Int) (s : ByteArray) (h : s.size ≤ 1048576) (l1 : 0 ≤ li) (l2 : li ≤ 4) (h0 : 0 < s.size) (hst : regS (s[0].toNat : Int) = true) (hcl : cl6 s.data.toList = false) : Calls Tryf.prog 5 #[.int .i64 li, .string s] w fun e w' => e = .returned (.bool true) ∧ w = w' := by
  have HB := Lib.hid (fun w => zb_FnRegTokenSelfDelimiting (w := w) li s (by omega))
  rw [show (acc 0 [s.size]).isSome = true by exact acc_one.2 h] at HB
  go_enter Tryf.func5, Tryf.ntmps5
  go_wp2_with (first
    | (go_at_call 12; refine (HB.out _).mono ?_; rintro e w' ⟨rfl, rfl⟩)
    | (go_at_call 13; refine (zregS _ _).mono ?_; rintro e w' ⟨rfl, rfl⟩; first | rw [hst] | rw [show dqS 36 = true by decide] | rw [show regS 96 = true by decide])
    | (go_at_call 8; refine (zclean _ _).mono ?_; rintro e w' ⟨rfl, rfl⟩; rw [hcl]))
  all_goals (
    go_ret
    exact ⟨rfl, rfl⟩)

theorem reg_ret {lv r t : Int} (hr : regS r = true) (h : regT lv r = .ret t) : r = 96 := by
  unfold regS at hr
  rcases of_decide_eq_true hr with rfl | rfl | rfl | rfl | rfl | rfl | rfl | rfl | rfl | rfl | rfl
  all_goals first | rfl | (exfalso; simp [regT, one] at h)

set_option maxRecDepth 100000 in
set_option maxHeartbeats 3200000 in
theorem reg_bq {w : World} {ea : Addr} {F : Interp} (li : Int) (s : ByteArray) (hd : Wd w ea F) (h : s.size ≤ 1048576) (l1 : 0 ≤ li) (l2 : li ≤ 4) (h0 : 0 < s.size) (hst : regS (s[0].toNat : Int) = true) (hcl : cl6 s.data.toList = true) (e0 : s[0].toNat = 96) : Calls Tryf.prog 5 #[.int .i64 li, .string s] w fun e w' => e = .returned (.bool true) ∧ Kept [] w w' := by
  have hnx : nxt s.data.toList = (s[0].toNat : Int) := by
    have hlow : s[0].toNat < 128 := by unfold regS at hst; have := of_decide_eq_true hst; omega
    rw [nxt_head h0, if_pos hlow]
  have HS := Lib.hid (show regS (nxt s.data.toList) = true by rw [hnx]; exact hst)
  have q0 : ((s.size : Int) == 0) = false := by rw [beq_eq_false_iff_ne]; omega
  have HB := Lib.hid (fun w => zb_FnRegTokenSelfDelimiting (w := w) li s (by omega))
  rw [acc_one.2 h] at HB
  have HD0 := Lib.hid hd
  have HK0 := Lib.hid (Kept.refl [] w)
  have HC := Lib.hid (cl_of hcl)
  have hR : (regT (lvOf li) (nxt s.data.toList)).run (nxt s.data.toList) s.data.toList.tail 0 = (9, 0, 96) := by
    have e : nxt s.data.toList = 96 := by rw [hnx]; omega
    rw [e]
    rfl
  clear hd hnx
  go_enter Tryf.func5, Tryf.ntmps5
  go_wp2_with (first
    | (go_at_call 12; refine (HB.out _).mono ?_; rintro e w' ⟨rfl, rfl⟩)
    | (go_at_call 13; refine (zregS _ _).mono ?_; rintro e w' ⟨rfl, rfl⟩; first | rw [hst] | rw [show dqS 36 = true by decide] | rw [show regS 96 = true by decide])
    | (go_at_call 8; refine (zclean _ _).mono ?_; rintro e w' ⟨rfl, rfl⟩; rw [hcl])
    | (go_at_call 9; refine (run_reg HD0.out (by omega) (by omega) HC.out (HS.out) hR).mono ?_; rintro e w1 ⟨rfl, hk⟩; have HD1 := Lib.hid (HD0.out.kept hk); have HK1 := Lib.hid (HK0.out.trans hk); clear hk))
  go_ret
  exact ⟨rfl, HK1.out⟩

set_option maxRecDepth 100000 in
set_option maxHeartbeats 3200000 in
theorem reg_ok {w : World} {ea : Addr} {F : Interp} (li : Int) (s : ByteArray) (hd : Wd w ea F) (h : s.size ≤ 1048576) (l1 : 0 ≤ li) (l2 : li ≤ 4) (h0 : 0 < s.size) (hst : regS (s[0].toNat : Int) = true) (hcl : cl6 s.data.toList = true) (t n : Int) (k : Nat) (hk4 : k ≤ 3) (hks : k < s.size) (hR : (regT (lvOf li) (nxt s.data.toList)).run (nxt s.data.toList) s.data.toList.tail 0 = (t, (k : Int) + 1, n)) (hR2 : (regT (lvOf li) (nxt s.data.toList)).run (nxt s.data.toList) (s.data.toList.tail.take k) 0 = (t, (k : Int) + 1, 1114112)) : Calls Tryf.prog 5 #[.int .i64 li, .string s] w fun e w' => e = .returned (.bool true) ∧ Kept [] w w' := by
  have hnx : nxt s.data.toList = (s[0].toNat : Int) := by
    have hlow : s[0].toNat < 128 := by unfold regS at hst; have := of_decide_eq_true hst; omega
    rw [nxt_head h0, if_pos hlow]
  have HS := Lib.hid (show regS (nxt s.data.toList) = true by rw [hnx]; exact hst)
  have q0 : ((s.size : Int) == 0) = false := by rw [beq_eq_false_iff_ne]; omega
  have HB := Lib.hid (fun w => zb_FnRegTokenSelfDelimiting (w := w) li s (by omega))
  rw [acc_one.2 h] at HB
  have HD0 := Lib.hid hd
  have HK0 := Lib.hid (Kept.refl [] w)
  have HC := Lib.hid (cl_of hcl)
  have H2 : Hid (∀ s2 : ByteArray, s2.data.toList = s.data.toList.take (k + 1) → Cl s2.data.toList 6 ∧ regS (nxt s2.data.toList) = true ∧ (regT (lvOf li) (nxt s2.data.toList)).run (nxt s2.data.toList) s2.data.toList.tail 0 = (t, (k : Int) + 1, 1114112)) := Lib.hid (fun s2 e => by
    have en : nxt s2.data.toList = nxt s.data.toList := by
      have hlow : s[0].toNat < 128 := by unfold regS at hst; have := of_decide_eq_true hst; omega
      have e0 := str_at h0
      rw [hnx, e]
      cases hl : s.data.toList with
      | nil => rw [hl] at e0; cases e0
      | cons x d =>
        rw [hl] at e0
        obtain rfl : x = s[0] := Option.some.inj e0
        rw [List.take_succ_cons]
        exact nxt_ascii hlow
    have et : s2.data.toList.tail = s.data.toList.tail.take k := by
      rw [e]
      cases s.data.toList <;> simp
    rw [en, et]
    exact ⟨e ▸ cl_take HC.out, HS.out, hR2⟩)
  clear hd hnx hR2
  go_enter Tryf.func5, Tryf.ntmps5
  go_wp2_with (first
    | (go_at_call 12; refine (HB.out _).mono ?_; rintro e w' ⟨rfl, rfl⟩)
    | (go_at_call 13; refine (zregS _ _).mono ?_; rintro e w' ⟨rfl, rfl⟩; first | rw [hst] | rw [show dqS 36 = true by decide] | rw [show regS 96 = true by decide])
    | (go_at_call 8; refine (zclean _ _).mono ?_; rintro e w' ⟨rfl, rfl⟩; rw [hcl])
    | (go_at_call 9; refine (run_reg HD1.out (by omega) (by simp; omega) (H2.out _ (by rw [ext_list]; simp)).1 (H2.out _ (by rw [ext_list]; simp)).2.1 (H2.out _ (by rw [ext_list]; simp)).2.2).mono ?_; rintro e w2 ⟨rfl, hk⟩; have HK2 := Lib.hid (HK1.out.trans hk); clear hk)
    | (go_at_call 9; refine (run_reg HD0.out (by omega) (by omega) HC.out (HS.out) hR).mono ?_; rintro e w1 ⟨rfl, hk⟩; have HD1 := Lib.hid (HD0.out.kept hk); have HK1 := Lib.hid (HK0.out.trans hk); clear hk))
  go_ret
  exact ⟨rfl, HK2.out⟩

theorem law_FnRegTokenSelfDelimiting {w : World} {ea : Addr} {F : Interp} (li : Int) (s : ByteArray) (hd : Wd w ea F) (h1 : s.size ≤ 9223372036854775807) : Calls Tryf.prog 5 #[.int .i64 li, .string s] w fun e w' => e = .returned (.bool true) ∧ Kept [] w w' := by
  have up : ∀ {e : Ending} {w' : World}, (e = .returned (.bool true) ∧ w = w') → (e = .returned (.bool true) ∧ Kept [] w w') := fun hh => ⟨hh.1, hh.2 ▸ Kept.refl _ _⟩
  by_cases h : s.size ≤ 1048576
  rotate_left
  · exact (reg_big w li s h1 (by omega)).mono fun e w' hh => up hh
  by_cases l1 : 0 ≤ li
  rotate_left
  · exact (reg_low w li s h (by omega)).mono fun e w' hh => up hh
  by_cases l2 : li ≤ 4
  rotate_left
  · exact (reg_high w li s h (by omega)).mono fun e w' hh => up hh
  by_cases h0 : 0 < s.size
  rotate_left
  · exact (reg_nil w li s h l1 l2 (by omega)).mono fun e w' hh => up hh
  cases hst : regS (s[0].toNat : Int) with
  | false => exact (reg_st w li s h l1 l2 h0 hst).mono fun e w' hh => up hh
  | true =>
    cases hcl : cl6 s.data.toList with
    | false => exact (reg_cl w li s h l1 l2 h0 hst hcl).mono fun e w' hh => up hh
    | true =>
      have hlow : s[0].toNat < 128 := by unfold regS at hst; have := of_decide_eq_true hst; omega
      have hnx : nxt s.data.toList = (s[0].toNat : Int) := by rw [nxt_head h0, if_pos hlow]
      rcases run_sd (regT_sd (lvOf li) (nxt s.data.toList)) (nxt s.data.toList) s.data.toList.tail 0 with ⟨t, ht⟩ | ⟨k, q1, q2, q3⟩
      · have e := reg_ret (by rw [hnx]; exact hst) ht
        exact reg_bq li s hd h l1 l2 h0 hst hcl (by omega)
      · have hc := run_count (regT_most (lvOf li) (nxt s.data.toList)) (nxt s.data.toList) s.data.toList.tail 0
        have hlen : s.data.toList.tail.length = s.size - 1 := by simp
        obtain ⟨⟨t, j, n⟩, hR⟩ : ∃ R, (regT (lvOf li) (nxt s.data.toList)).run (nxt s.data.toList) s.data.toList.tail 0 = R := ⟨_, rfl⟩
        rw [hR] at q1 q3 hc
        simp only at q1 q3 hc
        obtain rfl : j = (k : Int) + 1 := by omega
        exact reg_ok li s hd h l1 l2 h0 hst hcl t n k (by omega) (by omega) hR q3
end Go.Proofs.YtolgahamfkaipaaFmt
