/-
  n010_145: FnAdvanceLitHdocModel, walked.
-/
import Derived.Test.YtejlgdiepjiodaaFmtQm
import Derived.IntWalk
namespace Go.Proofs.YtejlgdiepjiodaaFmt
open Go.RowKit

/-- The sizes, added up; each, and the sum, at most 1 << 20. -/
def acc : Nat → List Nat → Option Nat
  | t, [] => some t
  | t, x :: l => if 1048576 < x then none else if 1048576 < t + x then none else acc (t + x) l

set_option maxRecDepth 100000 in
set_option maxHeartbeats 1600000 in
theorem zb_FnAdvanceLitHdocModel {w : World} (p0 : ByteArray) (p1 : ByteArray) (s0 : p0.size ≤ 9223372036854775807) (s1 : p1.size ≤ 9223372036854775807) : Calls Tryf.prog 19 #[.string p0, .string p1] w fun e w' => e = .returned (.bool (acc 0 (p0.size :: (p1.size :: []))).isSome) ∧ w = w' := by
  obtain ⟨bv, hbv⟩ : ∃ b, b = (acc 0 (p0.size :: (p1.size :: []))).isSome := ⟨_, rfl⟩
  rw [← hbv]
  have HBV := Lib.hid hbv
  clear hbv
  go_enter Tryf.func19, Tryf.ntmps19
  by_cases g0 : 1048576 < p0.size
  · go_wp2_with fail
    go_ret
    rw [HBV.out]
    have e : acc 0 (p0.size :: (p1.size :: [])) = none := by
      simp only [acc, Nat.zero_add]
      repeat' split
      all_goals first | rfl | omega
    rw [e]
    exact ⟨rfl, rfl⟩
  by_cases g1 : 1048576 < p1.size
  · go_wp2_with fail
    go_ret
    rw [HBV.out]
    have e : acc 0 (p0.size :: (p1.size :: [])) = none := by
      simp only [acc, Nat.zero_add]
      repeat' split
      all_goals first | rfl | omega
    rw [e]
    exact ⟨rfl, rfl⟩
  by_cases g2 : 1048576 < p0.size + p1.size
  · go_wp2_with fail
    go_ret
    rw [HBV.out]
    have e : acc 0 (p0.size :: (p1.size :: [])) = none := by
      simp only [acc, Nat.zero_add]
      repeat' split
      all_goals first | rfl | omega
    rw [e]
    exact ⟨rfl, rfl⟩
  go_wp2_with fail
  go_ret
  rw [HBV.out]
  have e : (acc 0 (p0.size :: (p1.size :: []))).isSome = true := by
    simp only [acc, Nat.zero_add]
    repeat' split
    all_goals first | rfl | omega
  rw [e]
  exact ⟨rfl, rfl⟩

def alphaH (c : UInt8) : Bool := decide (c.toNat < 128 ∧ c.toNat ≠ 0 ∧ c.toNat ≠ 13 ∧ c.toNat ≠ 92)
def allH (l : List UInt8) : Bool := l.all alphaH

set_option maxRecDepth 100000 in
set_option maxHeartbeats 800000 in
theorem hdalpha (s : ByteArray) (w : World) (hs : s.size ≤ 10000000) :
    Calls Tryf.prog 20 #[.string s] w fun e w' => e = .returned (.bool (allH s.data.toList)) ∧ w = w' := by
  go_enter Tryf.func20, Tryf.ntmps20
  go_wp2
  go_loop [3, 4] (fun i _ => ∃ k : Nat, k ≤ s.size ∧ i = .int .i64 k ∧ Hid (∀ (j : Nat) (c : UInt8), j < k → s.data.toList[j]? = some c → alphaH c = true)) (fun i _ => s.size - (intOfV i).toNat)
  case atStart => exact ⟨0, Nat.zero_le _, rfl, Lib.hid (fun j c h => absurd h (by omega))⟩
  case round =>
    obtain ⟨k, hk, rfl, HN⟩ := hrel
    by_cases hlt : k < s.size
    · have hat := Lib.hid (str_at2 hlt)
      cases hx : alphaH s[k] with
      | false =>
        have HF : Hid (allH s.data.toList = false) := Lib.hid (by
          unfold allH
          rw [List.all_eq_false]
          exact ⟨s[k], List.mem_of_getElem? hat.out, by simp [hx]⟩)
        have hx' : ¬ (s[k].toNat < 128 ∧ s[k].toNat ≠ 0 ∧ s[k].toNat ≠ 13 ∧ s[k].toNat ≠ 92) := of_decide_eq_false hx
        clear hx
        by_cases h0 : (s[k].toNat : Int) = 0
        · clear hx'
          go_wp2
          go_ret
          rw [HF.out]
          exact ⟨rfl, rfl⟩
        have g0 : ((s[k].toNat : Int) == 0) = false := by simpa using h0
        by_cases h1 : (128 : Int) ≤ (s[k].toNat : Int)
        · clear hx'
          go_wp2
          go_ret
          rw [HF.out]
          exact ⟨rfl, rfl⟩
        by_cases h2 : (s[k].toNat : Int) = 13
        · clear hx'
          go_wp2
          go_ret
          rw [HF.out]
          exact ⟨rfl, rfl⟩
        have g2 : ((s[k].toNat : Int) == 13) = false := by simpa using h2
        have h3 : (s[k].toNat : Int) = 92 := by omega
        clear hx'
        go_wp2
        go_ret
        rw [HF.out]
        exact ⟨rfl, rfl⟩
      | true =>
        have hx' : s[k].toNat < 128 ∧ s[k].toNat ≠ 0 ∧ s[k].toNat ≠ 13 ∧ s[k].toNat ≠ 92 := of_decide_eq_true hx
        have HX := Lib.hid hx
        have g0 : ((s[k].toNat : Int) == 0) = false := by simp; omega
        have g1 : ¬ (128 : Int) ≤ (s[k].toNat : Int) := by omega
        have g2 : ((s[k].toNat : Int) == 13) = false := by simp; omega
        have g3 : ((s[k].toNat : Int) == 92) = false := by simp; omega
        clear hx hx'
        go_wp2
        go_round
        case rel => exact ⟨k + 1, by omega, by go_num, Lib.hid (fun j c hj hc => by
          by_cases e : j = k
          · subst e; rw [hat.out] at hc; rw [← Option.some.inj hc]; exact HX.out
          · exact HN.out j c (by omega) hc)⟩
        case measure => simp [intOfV]; omega
    · obtain rfl : k = s.size := by omega
      have HF : Hid (allH s.data.toList = true) := Lib.hid (by
        unfold allH
        rw [List.all_eq_true]
        intro c hc
        obtain ⟨j, hj, e⟩ := List.mem_iff_getElem.1 hc
        exact HN.out j c hj (by rw [List.getElem?_eq_getElem hj, e]))
      go_wp2
      go_ret
      rw [HF.out]
      exact ⟨rfl, rfl⟩

theorem allH_plain {l : List UInt8} (h : allH l = true) : ∀ y ∈ l, plB y := fun y hy => (of_decide_eq_true (List.all_eq_true.1 (show l.all alphaH = true from h) y hy) : y.toNat < 128 ∧ y.toNat ≠ 0 ∧ y.toNat ≠ 13 ∧ y.toNat ≠ 92)

theorem skip1_hm (w : World) (s st : ByteArray) (h1 : s.size ≤ 9223372036854775807) (h2 : st.size ≤ 9223372036854775807) (h : (acc 0 [s.size, st.size]).isSome = false) : Calls Tryf.prog 7 #[.string s, .string st] w fun e w' => e = .returned (.bool true) ∧ w = w' := by
  have HB := Lib.hid (fun w => zb_FnAdvanceLitHdocModel (w := w) s st h1 h2)
  rw [h] at HB
  clear h
  go_enter Tryf.func7, Tryf.ntmps7
  go_wp2_with (go_at_call 19; refine (HB.out _).mono ?_; rintro e w' ⟨rfl, rfl⟩)
  go_ret
  exact ⟨rfl, rfl⟩

theorem acc_two {a b : Nat} (h : (acc 0 [a, b]).isSome = true) : a ≤ 1048576 ∧ b ≤ 1048576 ∧ a + b ≤ 1048576 := by
  simp only [acc] at h
  repeat' split at h
  all_goals first | omega | (simp at h)

theorem skip2_hm (w : World) (s st : ByteArray) (h : (acc 0 [s.size, st.size]).isSome = true) (ha : allH s.data.toList = false) : Calls Tryf.prog 7 #[.string s, .string st] w fun e w' => e = .returned (.bool true) ∧ w = w' := by
  obtain ⟨h1, h2, h3⟩ := acc_two h
  have HB := Lib.hid (fun w => zb_FnAdvanceLitHdocModel (w := w) s st (by omega) (by omega))
  rw [h] at HB
  have HA := Lib.hid (fun w => hdalpha s w (by omega))
  rw [ha] at HA
  clear ha h
  go_enter Tryf.func7, Tryf.ntmps7
  go_wp2_with (first | (go_at_call 19; refine (HB.out _).mono ?_; rintro e w' ⟨rfl, rfl⟩) | (go_at_call 20; refine (HA.out _).mono ?_; rintro e w' ⟨rfl, rfl⟩))
  go_ret
  exact ⟨rfl, rfl⟩

set_option maxRecDepth 100000 in
set_option maxHeartbeats 800000 in
theorem ok_hm (w : World) (s st : ByteArray) (ea : Addr) (h : (acc 0 [s.size, st.size]).isSome = true) (ha : allH s.data.toList = true) (hg : w.cell? ⟨0, 0, none⟩ = some (EOFv ea)) : Calls Tryf.prog 7 #[.string s, .string st] w fun e w' => e = .returned (.bool true) ∧ Kept [] w w' := by
  obtain ⟨h1, h2, h3⟩ := acc_two h
  have HB := Lib.hid (fun w => zb_FnAdvanceLitHdocModel (w := w) s st (by omega) (by omega))
  rw [h] at HB
  have HA := Lib.hid (fun w => hdalpha s w (by omega))
  rw [ha] at HA
  have H1 := Lib.hid (zz_hdr (s := s) (st := st) (hdOk_plain (allH_plain ha) []) (by omega) hg)
  obtain ⟨F, hF⟩ : ∃ F, F = hdR st.data.toList s.data.toList := ⟨_, rfl⟩
  rw [← hF] at H1
  have H2 := Lib.hid (fun w => zmodel w s st (by omega) F hF)
  obtain ⟨t, v, r, c⟩ := F
  obtain ⟨V, hV⟩ : ∃ V : ByteArray, V = ⟨v.toArray⟩ := ⟨_, rfl⟩
  have e1 : ((t, v, r, c) : Int × List UInt8 × Int × Bool).1 = t := rfl
  have e2 : ((t, v, r, c) : Int × List UInt8 × Int × Bool).2.1 = v := rfl
  have e3 : ((t, v, r, c) : Int × List UInt8 × Int × Bool).2.2.1 = r := rfl
  have e4 : ((t, v, r, c) : Int × List UInt8 × Int × Bool).2.2.2 = c := rfl
  rw [e1, e2, e3, e4] at H1 H2
  rw [← hV] at H1 H2
  obtain ⟨kn, hkn⟩ : ∃ kn, knF (t, v, r, c) = kn := ⟨_, rfl⟩
  rw [hkn] at H2
  clear ha h hF hV hkn hg e1 e2 e3 e4
  cases kn <;> cases c
  all_goals (
    go_enter Tryf.func7, Tryf.ntmps7
    go_wp2_with (first | (go_at_call 19; refine (HB.out _).mono ?_; rintro e w' ⟨rfl, rfl⟩) | (go_at_call 20; refine (HA.out _).mono ?_; rintro e w' ⟨rfl, rfl⟩) | (go_at_call 21; refine H1.out.mono ?_; rintro e w1 ⟨rfl, hk1⟩; have HK1 := Lib.hid hk1; clear hk1) | (go_at_call 22; refine (H2.out _).mono ?_; rintro e w2 ⟨rfl, hk2⟩; have HK2 := Lib.hid hk2; clear hk2))
    go_ret
    exact ⟨rfl, HK1.out.trans HK2.out⟩)

theorem law_FnAdvanceLitHdocModel (w : World) (s st : ByteArray) (ea : Addr) (h1 : s.size ≤ 9223372036854775807) (h2 : st.size ≤ 9223372036854775807) (hg : w.cell? ⟨0, 0, none⟩ = some (EOFv ea)) : Calls Tryf.prog 7 #[.string s, .string st] w fun e w' => e = .returned (.bool true) ∧ Kept [] w w' := by
  have up : ∀ {e w'}, e = Ending.returned (.bool true) ∧ w = w' → e = .returned (.bool true) ∧ Kept [] w w' := fun h => ⟨h.1, h.2 ▸ Kept.refl _ _⟩
  cases ha : (acc 0 [s.size, st.size]).isSome with
  | false => exact (skip1_hm w s st h1 h2 ha).mono fun _ _ => up
  | true =>
    cases hb : allH s.data.toList with
    | false => exact (skip2_hm w s st ha hb).mono fun _ _ => up
    | true => exact ok_hm w s st ea ha hb hg
end Go.Proofs.YtejlgdiepjiodaaFmt
