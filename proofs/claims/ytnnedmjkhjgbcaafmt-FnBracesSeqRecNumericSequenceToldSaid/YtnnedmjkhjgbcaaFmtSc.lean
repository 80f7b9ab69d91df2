/-
  hasLeadingZeros of a numeral; zzAbs; the bound on the bytes; zzSeqGuard.
-/
import Derived.Test.YtnnedmjkhjgbcaaFmtSb
namespace Go.Proofs.YtnnedmjkhjgbcaaFmt
open Go.RowKit Go.Lib

theorem trim_s (w : World) (v : Int) : Calls Tryf.prog 29 #[.string (sItoa v), .string ⟨#[45]⟩] w fun e w' => e = .returned (.string (sDec v.natAbs)) ∧ w = w' := by
  refine (Tryf.strings_TrimPrefix (sItoa v) ⟨#[45]⟩ w).mono ?_
  rintro e w' ⟨rfl, rfl⟩
  refine ⟨?_, rfl⟩
  have : (sItoa v).data.toList = itoa v := by unfold sItoa; simp
  rw [this]
  show Ending.returned (.string ⟨(trimPrefix (itoa v) [45]).toArray⟩) = _
  rw [trim_itoa]
  rfl

set_option maxRecDepth 100000 in
theorem hlz_any (w : World) (v : Int) : Calls Tryf.prog 20 #[.string (sItoa v)] w fun e w' => e = .returned (.bool false) ∧ w = w' := by
  have HT := Lib.hid (trim_s w v)
  obtain ⟨u, hu⟩ : ∃ u, u = v.natAbs := ⟨_, rfl⟩
  rw [← hu] at HT
  clear hu
  have hsz : (sDec u).size = nDigits u := by
    unfold sDec ByteArray.size
    simp [decDigits_length]
  by_cases h10 : u < 10
  · rw [nDigits_small h10] at hsz
    go_enter Tryf.func20, Tryf.ntmps20
    go_wp2_with (go_at_call 29; refine HT.out.mono ?_; rintro e w' ⟨rfl, rfl⟩)
    go_ret
    exact ⟨rfl, rfl⟩
  · have h1 : 1 < (sDec u).size := by rw [hsz, nDigits_big h10]; have := nDigits_pos (u / 10); omega
    obtain ⟨c, r, e, g1, g2, g3⟩ := dec_head u
    have h0 : 0 < (sDec u).size := by omega
    have hdat : (sDec u).data = (c :: r).toArray := by unfold sDec; rw [e]
    have hc : (sDec u)[0]'h0 = c := by
      show (sDec u).data[0]'_ = c
      simp [hdat]
    have hc48 : ((((sDec u)[0]'h0).toNat : Int) == 48) = false := by
      rw [hc]
      have := g3 (by omega)
      simp
      omega
    clear hsz e g1 g2 g3 hc hdat
    go_enter Tryf.func20, Tryf.ntmps20
    go_wp2_with (go_at_call 29; refine HT.out.mono ?_; rintro e w' ⟨rfl, rfl⟩)
    go_ret
    exact ⟨rfl, rfl⟩

set_option maxRecDepth 100000 in
theorem abs_any (w : World) (v : Int) (h1 : -9223372036854775808 ≤ v) (h2 : v ≤ 9223372036854775807) : Calls Tryf.prog 13 #[.int .i64 v] w fun e w' => e = .returned (.int .u64 v.natAbs) ∧ w = w' := by
  by_cases h : v < 0
  · obtain ⟨u0, hu0⟩ : ∃ u : Nat, v = -(u : Int) := ⟨v.natAbs, by omega⟩
    subst hu0
    have e : (-(u0 : Int)).natAbs = u0 := by omega
    rw [e]
    have hw : IntKind.u64.wrap (-IntKind.u64.wrap (-(u0 : Int))) = (u0 : Int) := by simp [IntKind.wrap, IntKind.signed, IntKind.bits]; omega
    clear e
    go_enter Tryf.func13, Tryf.ntmps13
    go_wp2_with fail
    go_ret
    exact ⟨rfl, rfl⟩
  · obtain ⟨u0, rfl⟩ : ∃ u : Nat, v = (u : Int) := ⟨v.toNat, by omega⟩
    have e : ((u0 : Int)).natAbs = u0 := by omega
    rw [e]
    clear e
    go_enter Tryf.func13, Tryf.ntmps13
    go_wp2_with fail
    go_ret
    exact ⟨rfl, rfl⟩

set_option maxRecDepth 100000 in
theorem zb_seq (w : World) (a b : ByteArray) (f t p : Int) (hs : Bool) (s0 : a.size ≤ 9223372036854775807) (s1 : b.size ≤ 9223372036854775807) : Calls Tryf.prog 4 #[.string a, .string b, .int .i64 f, .int .i64 t, .int .i64 p, .bool hs] w fun e w' => e = .returned (.bool (decide (a.size + b.size ≤ 1048576))) ∧ w = w' := by
  by_cases g1 : a.size ≤ 1048576
  · by_cases g2 : b.size ≤ 1048576
    · by_cases g3 : a.size + b.size ≤ 1048576
      · rw [decide_eq_true g3]
        go_enter Tryf.func4, Tryf.ntmps4
        go_wp2_with fail
        go_ret
        exact ⟨rfl, rfl⟩
      · rw [decide_eq_false g3]
        go_enter Tryf.func4, Tryf.ntmps4
        go_wp2_with fail
        go_ret
        exact ⟨rfl, rfl⟩
    · rw [decide_eq_false (show ¬ (a.size + b.size ≤ 1048576) by omega)]
      go_enter Tryf.func4, Tryf.ntmps4
      go_wp2_with fail
      go_ret
      exact ⟨rfl, rfl⟩
  · rw [decide_eq_false (show ¬ (a.size + b.size ≤ 1048576) by omega)]
    go_enter Tryf.func4, Tryf.ntmps4
    go_wp2_with fail
    go_ret
    exact ⟨rfl, rfl⟩


/-- The step, the way, the count. -/
def sV (p : Int) (hs : Bool) : Nat := if hs = true ∧ p ≠ 0 then p.natAbs else 1
theorem sV_pos (p : Int) (hs : Bool) : 0 < sV p hs := by unfold sV; split <;> omega
theorem sV_cases (p : Int) (hs : Bool) : (hs = false ∧ sV p hs = 1) ∨ (hs = true ∧ p = 0 ∧ sV p hs = 1) ∨ (hs = true ∧ ¬ p = 0 ∧ sV p hs = p.natAbs) := by
  cases hs with
  | false => exact .inl ⟨rfl, by unfold sV; simp⟩
  | true =>
    by_cases h : p = 0
    · exact .inr (.inl ⟨rfl, h, by unfold sV; rw [if_neg (by simp [h])]⟩)
    · exact .inr (.inr ⟨rfl, h, by unfold sV; rw [if_pos ⟨rfl, h⟩]⟩)
def cntV (f t p : Int) (hs : Bool) : Nat := (t - f).natAbs / sV p hs + 1
def InL (f t p : Int) : Prop := -2305843009213693952 ≤ f ∧ f ≤ 2305843009213693952 ∧ -2305843009213693952 ≤ t ∧ t ≤ 2305843009213693952 ∧ -2305843009213693952 ≤ p ∧ p ≤ 2305843009213693952
/-- What zzSeqGuard lets pass. -/
def GOk (a b : Nat) (f t p : Int) (hs : Bool) : Prop := InL f t p ∧ cntV f t p hs ≤ 65536 ∧ cntV f t p hs * (a + b + 64) ≤ 67108864

set_option maxRecDepth 100000 in
set_option maxHeartbeats 1600000 in
theorem guard_lim (w : World) (a b : ByteArray) (f t p : Int) (hs : Bool) (hab : a.size + b.size ≤ 1048576) (hn : ¬ InL f t p) : Calls Tryf.prog 5 #[.string a, .string b, .int .i64 f, .int .i64 t, .int .i64 p, .bool hs] w fun e w' => e = .returned (.tuple #[.int .u64 0, .int .u64 0, .bool false]) ∧ w = w' := by
  by_cases g0 : f < -2305843009213693952
  · clear hn
    go_enter Tryf.func5, Tryf.ntmps5
    go_wp2_with fail
    go_ret3
    exact ⟨rfl, rfl⟩
  by_cases g1 : 2305843009213693952 < f
  · clear hn
    go_enter Tryf.func5, Tryf.ntmps5
    go_wp2_with fail
    go_ret3
    exact ⟨rfl, rfl⟩
  by_cases g2 : t < -2305843009213693952
  · clear hn
    go_enter Tryf.func5, Tryf.ntmps5
    go_wp2_with fail
    go_ret3
    exact ⟨rfl, rfl⟩
  by_cases g3 : 2305843009213693952 < t
  · clear hn
    go_enter Tryf.func5, Tryf.ntmps5
    go_wp2_with fail
    go_ret3
    exact ⟨rfl, rfl⟩
  by_cases g4 : p < -2305843009213693952
  · clear hn
    go_enter Tryf.func5, Tryf.ntmps5
    go_wp2_with fail
    go_ret3
    exact ⟨rfl, rfl⟩
  by_cases g5 : 2305843009213693952 < p
  · clear hn
    go_enter Tryf.func5, Tryf.ntmps5
    go_wp2_with fail
    go_ret3
    exact ⟨rfl, rfl⟩
  exact absurd ⟨by omega, by omega, by omega, by omega, by omega, by omega⟩ hn

set_option maxRecDepth 100000 in
set_option maxHeartbeats 3200000 in
theorem guard_cnt (w : World) (a b : ByteArray) (f t p : Int) (hs : Bool) (hab : a.size + b.size ≤ 1048576) (hl : InL f t p) (hn : ¬ cntV f t p hs ≤ 65536) : Calls Tryf.prog 5 #[.string a, .string b, .int .i64 f, .int .i64 t, .int .i64 p, .bool hs] w fun e w' => e = .returned (.tuple #[.int .u64 0, .int .u64 0, .bool false]) ∧ w = w' := by
  obtain ⟨b1, b2, b3, b4, b5, b6⟩ := hl
  have hsc := sV_cases p hs
  have hsp := sV_pos p hs
  unfold cntV at *
  generalize hd : (t - f).natAbs = d at *
  generalize hss : sV p hs = s at *
  generalize hq : d / s = q at *
  have q1 : (d : Int) / s = q := by rw [← hq, Int.natCast_ediv]
  have q2 : (d : Int).tdiv s = q := by rw [Int.tdiv_eq_ediv_of_nonneg (by omega)]; exact q1
  have hqd : q ≤ d := by rw [← hq]; exact Nat.div_le_self _ _
  clear hss
  have hi : 65536 < (q : Int) + 1 := by omega
  clear hn
  have hdd : (f ≤ t ∧ t = f + (d : Int)) ∨ (¬ f ≤ t ∧ f = t + (d : Int)) := by omega
  have hdb : d ≤ 4611686018427387904 := by omega
  clear hd
  have HA : Hid (¬ p = 0 → s = p.natAbs → Calls Tryf.prog 13 #[.int .i64 p] w fun e w' => e = .returned (.int .u64 s) ∧ w = w') := Lib.hid (fun _ h => by rw [h]; exact abs_any w p (by omega) (by omega))
  rcases hsc with ⟨hh, hs1⟩ | ⟨hh, hp, hs1⟩ | ⟨hh, hp, hs1⟩
  · subst hh hs1
    obtain rfl : q = d := by rw [← hq]; simp
    clear q1 q2 hq hsp HA
    have sb : ∀ x : Int, x + (q : Int) - x = q := fun x => by omega
    rcases hdd with ⟨hft, hdv⟩ | ⟨hft, hdv⟩
    all_goals (
      subst hdv
      go_enter Tryf.func5, Tryf.ntmps5
      go_wp2_with fail
      go_ret3
      exact ⟨rfl, rfl⟩)
  · subst hh hs1 hp
    obtain rfl : q = d := by rw [← hq]; simp
    clear q1 q2 hq hsp HA
    have sb : ∀ x : Int, x + (q : Int) - x = q := fun x => by omega
    rcases hdd with ⟨hft, hdv⟩ | ⟨hft, hdv⟩
    all_goals (
      subst hdv
      go_enter Tryf.func5, Tryf.ntmps5
      go_wp2_with fail
      go_ret3
      exact ⟨rfl, rfl⟩)
  · subst hh
    have HB := Lib.hid (HA.out hp hs1)
    clear hq HA hs1
    have sb : ∀ x : Int, x + (d : Int) - x = d := fun x => by omega
    rcases hdd with ⟨hft, hdv⟩ | ⟨hft, hdv⟩
    all_goals (
      subst hdv
      go_enter Tryf.func5, Tryf.ntmps5
      go_wp2_with (go_at_call 13; refine HB.out.mono ?_; rintro e w' ⟨rfl, rfl⟩)
      go_ret3
      exact ⟨rfl, rfl⟩)

set_option maxRecDepth 100000 in
set_option maxHeartbeats 3200000 in
theorem guard_mul (w : World) (a b : ByteArray) (f t p : Int) (hs : Bool) (hab : a.size + b.size ≤ 1048576) (hl : InL f t p) (hc : cntV f t p hs ≤ 65536) (hn : ¬ cntV f t p hs * (a.size + b.size + 64) ≤ 67108864) : Calls Tryf.prog 5 #[.string a, .string b, .int .i64 f, .int .i64 t, .int .i64 p, .bool hs] w fun e w' => e = .returned (.tuple #[.int .u64 0, .int .u64 0, .bool false]) ∧ w = w' := by
  obtain ⟨b1, b2, b3, b4, b5, b6⟩ := hl
  have hsc := sV_cases p hs
  have hsp := sV_pos p hs
  unfold cntV at *
  generalize hd : (t - f).natAbs = d at *
  generalize hss : sV p hs = s at *
  generalize hq : d / s = q at *
  have q1 : (d : Int) / s = q := by rw [← hq, Int.natCast_ediv]
  have q2 : (d : Int).tdiv s = q := by rw [Int.tdiv_eq_ediv_of_nonneg (by omega)]; exact q1
  have hqd : q ≤ d := by rw [← hq]; exact Nat.div_le_self _ _
  clear hss
  generalize hm : q + 1 = m at *
  have hmi : (q : Int) + 1 = m := by omega
  generalize hz : m * (a.size + b.size + 64) = z at *
  have hzi : (m : Int) * (a.size + b.size + 64) = z := by rw [← hz, Int.natCast_mul]; simp
  have hzb : z ≤ 100000000000 := by rw [← hz]; exact Nat.le_trans (Nat.mul_le_mul hc (show a.size + b.size + 64 ≤ 1048640 by omega)) (by omega)
  clear hz hm
  have hi : (m : Int) ≤ 65536 := by omega
  have hi2 : 67108864 < (z : Int) := by omega
  clear hn hc
  have hdd : (f ≤ t ∧ t = f + (d : Int)) ∨ (¬ f ≤ t ∧ f = t + (d : Int)) := by omega
  have hdb : d ≤ 4611686018427387904 := by omega
  clear hd
  have HA : Hid (¬ p = 0 → s = p.natAbs → Calls Tryf.prog 13 #[.int .i64 p] w fun e w' => e = .returned (.int .u64 s) ∧ w = w') := Lib.hid (fun _ h => by rw [h]; exact abs_any w p (by omega) (by omega))
  rcases hsc with ⟨hh, hs1⟩ | ⟨hh, hp, hs1⟩ | ⟨hh, hp, hs1⟩
  · subst hh hs1
    obtain rfl : q = d := by rw [← hq]; simp
    clear q1 q2 hq hsp HA
    have sb : ∀ x : Int, x + (q : Int) - x = q := fun x => by omega
    rcases hdd with ⟨hft, hdv⟩ | ⟨hft, hdv⟩
    all_goals (
      subst hdv
      go_enter Tryf.func5, Tryf.ntmps5
      go_wp2_with fail
      go_ret3
      exact ⟨rfl, rfl⟩)
  · subst hh hs1 hp
    obtain rfl : q = d := by rw [← hq]; simp
    clear q1 q2 hq hsp HA
    have sb : ∀ x : Int, x + (q : Int) - x = q := fun x => by omega
    rcases hdd with ⟨hft, hdv⟩ | ⟨hft, hdv⟩
    all_goals (
      subst hdv
      go_enter Tryf.func5, Tryf.ntmps5
      go_wp2_with fail
      go_ret3
      exact ⟨rfl, rfl⟩)
  · subst hh
    have HB := Lib.hid (HA.out hp hs1)
    clear hq HA hs1
    have sb : ∀ x : Int, x + (d : Int) - x = d := fun x => by omega
    rcases hdd with ⟨hft, hdv⟩ | ⟨hft, hdv⟩
    all_goals (
      subst hdv
      go_enter Tryf.func5, Tryf.ntmps5
      go_wp2_with (go_at_call 13; refine HB.out.mono ?_; rintro e w' ⟨rfl, rfl⟩)
      go_ret3
      exact ⟨rfl, rfl⟩)

set_option maxRecDepth 100000 in
set_option maxHeartbeats 3200000 in
theorem guard_yes (w : World) (a b : ByteArray) (f t p : Int) (hs : Bool) (hab : a.size + b.size ≤ 1048576) (hl : InL f t p) (hc : cntV f t p hs ≤ 65536) (hn : cntV f t p hs * (a.size + b.size + 64) ≤ 67108864) : Calls Tryf.prog 5 #[.string a, .string b, .int .i64 f, .int .i64 t, .int .i64 p, .bool hs] w fun e w' => e = .returned (.tuple #[.int .u64 (cntV f t p hs), .int .u64 (sV p hs), .bool true]) ∧ w = w' := by
  obtain ⟨b1, b2, b3, b4, b5, b6⟩ := hl
  have hsc := sV_cases p hs
  have hsp := sV_pos p hs
  unfold cntV at *
  generalize hd : (t - f).natAbs = d at *
  generalize hss : sV p hs = s at *
  generalize hq : d / s = q at *
  have q1 : (d : Int) / s = q := by rw [← hq, Int.natCast_ediv]
  have q2 : (d : Int).tdiv s = q := by rw [Int.tdiv_eq_ediv_of_nonneg (by omega)]; exact q1
  have hqd : q ≤ d := by rw [← hq]; exact Nat.div_le_self _ _
  clear hss
  generalize hm : q + 1 = m at *
  have hmi : (q : Int) + 1 = m := by omega
  generalize hz : m * (a.size + b.size + 64) = z at *
  have hzi : (m : Int) * (a.size + b.size + 64) = z := by rw [← hz, Int.natCast_mul]; simp
  have hzb : z ≤ 100000000000 := by rw [← hz]; exact Nat.le_trans (Nat.mul_le_mul hc (show a.size + b.size + 64 ≤ 1048640 by omega)) (by omega)
  clear hz hm
  have hi : (m : Int) ≤ 65536 := by omega
  have hi2 : (z : Int) ≤ 67108864 := by omega
  clear hn hc
  have hdd : (f ≤ t ∧ t = f + (d : Int)) ∨ (¬ f ≤ t ∧ f = t + (d : Int)) := by omega
  have hdb : d ≤ 4611686018427387904 := by omega
  clear hd
  have HA : Hid (¬ p = 0 → s = p.natAbs → Calls Tryf.prog 13 #[.int .i64 p] w fun e w' => e = .returned (.int .u64 s) ∧ w = w') := Lib.hid (fun _ h => by rw [h]; exact abs_any w p (by omega) (by omega))
  rcases hsc with ⟨hh, hs1⟩ | ⟨hh, hp, hs1⟩ | ⟨hh, hp, hs1⟩
  · subst hh hs1
    obtain rfl : q = d := by rw [← hq]; simp
    clear q1 q2 hq hsp HA
    have sb : ∀ x : Int, x + (q : Int) - x = q := fun x => by omega
    rcases hdd with ⟨hft, hdv⟩ | ⟨hft, hdv⟩
    all_goals (
      subst hdv
      go_enter Tryf.func5, Tryf.ntmps5
      go_wp2_with fail
      go_ret3
      exact ⟨rfl, rfl⟩)
  · subst hh hs1 hp
    obtain rfl : q = d := by rw [← hq]; simp
    clear q1 q2 hq hsp HA
    have sb : ∀ x : Int, x + (q : Int) - x = q := fun x => by omega
    rcases hdd with ⟨hft, hdv⟩ | ⟨hft, hdv⟩
    all_goals (
      subst hdv
      go_enter Tryf.func5, Tryf.ntmps5
      go_wp2_with fail
      go_ret3
      exact ⟨rfl, rfl⟩)
  · subst hh
    have HB := Lib.hid (HA.out hp hs1)
    clear hq HA hs1
    have sb : ∀ x : Int, x + (d : Int) - x = d := fun x => by omega
    rcases hdd with ⟨hft, hdv⟩ | ⟨hft, hdv⟩
    all_goals (
      subst hdv
      go_enter Tryf.func5, Tryf.ntmps5
      go_wp2_with (go_at_call 13; refine HB.out.mono ?_; rintro e w' ⟨rfl, rfl⟩)
      go_ret3
      exact ⟨rfl, rfl⟩)

end Go.Proofs.YtnnedmjkhjgbcaaFmt
