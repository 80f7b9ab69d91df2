/-
  n010_145: the statements' own model of a numeric range, and that it says what zshNumRange answers.
-/
import Derived.Test.YtejlgdiepjiodaaFmtZsh
namespace Go.Proofs.YtejlgdiepjiodaaFmt
open Go.RowKit

/-- The first '>' is preceded only by digits and dashes, n + (how many dashes) = 1. -/
def rm (n : Nat) : List UInt8 → Bool
  | [] => false
  | a :: t => if a = 62 then n == 1 else if a = 45 then rm (n + 1) t else isDig a && rm n t

theorem rm_none {n : Nat} {l : List UInt8} (h : ∀ (j : Nat) (x : UInt8), l[j]? = some x → x ≠ 62) : rm n l = false := by
  induction l generalizing n with
  | nil => rfl
  | cons a t ih =>
    have h0 : a ≠ 62 := h 0 a rfl
    have ht := fun n => @ih n (fun j x hj => h (j + 1) x hj)
    simp [rm, h0, ht]
theorem rm_big {n : Nat} {l : List UInt8} (h : 2 ≤ n) : rm n l = false := by
  induction l generalizing n with
  | nil => rfl
  | cons a t ih =>
    unfold rm
    rw [ih h, ih (n := n + 1) (by omega)]
    have : (n == 1) = false := by simp; omega
    simp [this]
theorem rm_one (l : List UInt8) : rm 1 l = (match l.dropWhile isDig with | [] => false | b :: _ => b == 62) := by
  induction l with
  | nil => rfl
  | cons a t ih =>
    by_cases hd : isDig a = true
    · have h1 : a ≠ 62 := fun e => by rw [e] at hd; revert hd; decide
      have h2 : a ≠ 45 := fun e => by rw [e] at hd; revert hd; decide
      rw [List.dropWhile_cons_of_pos hd, ← ih]
      simp [rm, h1, h2, hd]
    · rw [List.dropWhile_cons_of_neg hd]
      have hd' : isDig a = false := by simpa using hd
      by_cases h1 : a = 62
      · simp [rm, h1]
      · by_cases h2 : a = 45
        · simp [rm, h2, rm_big]
        · simp [rm, h1, h2, hd']
theorem rm_zsh (l : List UInt8) : rm 0 l = zshM l := by
  induction l with
  | nil => rfl
  | cons a t ih =>
    by_cases hd : isDig a = true
    · have h1 : a ≠ 62 := fun e => by rw [e] at hd; revert hd; decide
      have h2 : a ≠ 45 := fun e => by rw [e] at hd; revert hd; decide
      have e : zshM (a :: t) = zshM t := by unfold zshM; rw [List.dropWhile_cons_of_pos hd]
      rw [e, ← ih]
      simp [rm, h1, h2, hd]
    · have hd' : isDig a = false := by simpa using hd
      have e : zshM (a :: t) = (a == 45 && rm 1 t) := by unfold zshM; rw [List.dropWhile_cons_of_neg hd, rm_one]; rfl
      rw [e]
      by_cases h1 : a = 62
      · simp [rm, h1]
      · by_cases h2 : a = 45
        · simp [rm, h2]
        · simp [rm, h1, h2, hd']
theorem rm_append {n : Nat} {l y : List UInt8} (h : rm n l = true) : rm n (l ++ y) = true := by
  induction l generalizing n with
  | nil => simp [rm] at h
  | cons a t ih =>
    rw [List.cons_append]
    unfold rm at h ⊢
    split
    · rename_i h1; rw [if_pos h1] at h; exact h
    · rename_i h1
      rw [if_neg h1] at h
      split
      · rename_i h2; rw [if_pos h2] at h; exact ih h
      · rename_i h2
        rw [if_neg h2] at h
        simp only [Bool.and_eq_true] at h ⊢
        exact ⟨h.1, ih h.2⟩
theorem rm_62 (n : Nat) {l : List UInt8} {k : Nat} (h : l[k]? = some 62) : rm n (l.drop k) = (n == 1) := by
  have hlt := (List.getElem?_eq_some_iff.1 h).1
  have e : l[k] = 62 := (List.getElem?_eq_some_iff.1 h).2
  rw [List.drop_eq_getElem_cons hlt, e]; simp [rm]
theorem rm_step (n : Nat) {l : List UInt8} {k : Nat} {x : UInt8} (h : l[k]? = some x) (hx : x ≠ 62) : rm n (l.drop k) = if x = 45 then rm (n + 1) (l.drop (k + 1)) else isDig x && rm n (l.drop (k + 1)) := by
  have hlt := (List.getElem?_eq_some_iff.1 h).1
  have e : l[k] = x := (List.getElem?_eq_some_iff.1 h).2
  rw [List.drop_eq_getElem_cons hlt, e]; simp [rm, hx]
theorem zshM_kept {s x : List UInt8} (h : zshM (s.take 1023) = true) : zshM ((s ++ x).take 1023) = true := by
  rw [← rm_zsh] at h ⊢
  by_cases h2 : 1023 ≤ s.length
  · rw [List.take_append_of_le_length h2]; exact h
  · rw [List.take_append, List.take_of_length_le (l := s) (by omega)]
    rw [List.take_of_length_le (by omega)] at h
    exact rm_append h

theorem isdig (c : UInt8) (w : World) : Calls Tryf.prog 30 #[.int .u8 c.toNat] w fun e w' => e = .returned (.bool (isDig c)) ∧ w = w' := by
  unfold isDig
  by_cases h1 : (48 : Int) ≤ (c.toNat : Int)
  · go_enter Tryf.func30, Tryf.ntmps30
    go_wp2
    go_ret
    simp [h1]
  · go_enter Tryf.func30, Tryf.ntmps30
    go_wp2
    go_ret
    simp
    omega

def intOf : Value → Int
  | .int _ n => n
  | _ => 0

theorem str_at {s : ByteArray} {k : Nat} (h : k < s.size) : s.data.toList[k]? = some s[k] := by
  rw [List.getElem?_eq_getElem (by exact h)]
  rfl

set_option maxRecDepth 100000 in
set_option maxHeartbeats 1600000 in
theorem model_any (s : ByteArray) (w : World) (hs : s.size ≤ 10000000) :
    Calls Tryf.prog 11 #[.string s] w fun e w' => e = .returned (.bool (rm 0 s.data.toList)) ∧ w = w' := by
  have hsl : s.data.toList.length = s.size := rfl
  have HSL := Lib.hid hsl
  clear hsl
  go_enter Tryf.func11, Tryf.ntmps11
  go_wp2
  go_loop [3, 4] (fun m i => ∃ k : Nat, k ≤ s.size ∧ i = .int .i64 k ∧ m = .int .i64 (-1) ∧ Hid (∀ (j : Nat) (x : UInt8), j < k → s.data.toList[j]? = some x → x ≠ 62)) (fun _ i => s.size - (intOf i).toNat)
  case atStart => exact ⟨0, Nat.zero_le _, rfl, rfl, Lib.hid (fun j x h => absurd h (by omega))⟩
  case round =>
    obtain ⟨k, hk, rfl, rfl, HN⟩ := hrel
    by_cases hlt : k < s.size
    · have hat := Lib.hid (str_at hlt)
      by_cases h62 : s[k] = 62
      · have g1 : ((s[k].toNat : Int) == 62) = true := by rw [h62]; rfl
        have H62 := Lib.hid h62
        clear h62
        go_wp2
        have g0 : decide ((k : Int) < 0) = false := by simp
        go_loop [2, 5, 6, 7] (fun _r d i _c => ∃ k2 n : Nat, k2 ≤ k ∧ n ≤ k2 ∧ i = .int .i64 k2 ∧ d = .int .i64 n ∧ Hid (rm 0 s.data.toList = rm n (s.data.toList.drop k2))) (fun _ _ i _ => k - (intOf i).toNat)
        case atStart => exact ⟨0, 0, Nat.zero_le _, Nat.le_refl _, rfl, rfl, Lib.hid rfl⟩
        case round =>
          obtain ⟨k2, n, hk2, hn2, rfl, rfl, HM⟩ := hrel
          by_cases hlt2 : k2 < k
          · have hlt3 : k2 < s.size := by omega
            have hat2 := Lib.hid (str_at hlt3)
            have hne := HN.out k2 _ hlt2 hat2.out
            have HST := Lib.hid (rm_step n hat2.out hne)
            by_cases h45 : s[k2] = 45
            · have g2 : ((s[k2].toNat : Int) == 45) = true := by rw [h45]; rfl
              have H2 := Lib.hid (HM.out.trans (HST.out.trans (if_pos h45)))
              clear h45 hne
              go_wp2
              go_round
              case rel => exact ⟨k2 + 1, n + 1, by omega, by omega, by go_num, by go_num, H2⟩
              case measure => simp [intOf]; omega
            · have g2 : ((s[k2].toNat : Int) == 45) = false := by
                simp only [beq_eq_false_iff_ne]; intro e; exact h45 (UInt8.toNat_inj.1 (by show s[k2].toNat = 45; omega))
              have H2 := Lib.hid (HM.out.trans (HST.out.trans (if_neg h45)))
              clear h45 hne
              by_cases hd : isDig s[k2] = true
              · have H3 := Lib.hid (H2.out.trans (by rw [hd, Bool.true_and]))
                have HC := Lib.hid (fun w => (isdig s[k2] w).mono (R' := fun e w' => e = .returned (.bool true) ∧ w = w') (fun e w' h => by rw [hd] at h; exact h))
                clear hd
                go_wp2_with (go_at_call 30; refine (HC.out _).mono ?_; rintro e w' ⟨rfl, rfl⟩)
                go_round
                case rel => first | exact ⟨k2 + 1, n, by omega, by omega, by go_num, rfl, H3⟩ | (refine ⟨trivial, ?_⟩; (repeat apply Exists.intro); exact ⟨⟨k2 + 1, n, by omega, by omega, by go_num, rfl, H3⟩, rfl⟩)
                case measure => simp [intOf]; omega
              · have hd' : isDig s[k2] = false := by simpa using hd
                have H3 := Lib.hid (H2.out.trans (by rw [hd', Bool.false_and]))
                have HC := Lib.hid (fun w => (isdig s[k2] w).mono (R' := fun e w' => e = .returned (.bool false) ∧ w = w') (fun e w' h => by rw [hd'] at h; exact h))
                clear hd hd'
                go_wp2_with (go_at_call 30; refine (HC.out _).mono ?_; rintro e w' ⟨rfl, rfl⟩)
                go_ret
                rw [H3.out]
                exact ⟨rfl, rfl⟩
          · obtain rfl : k2 = k := by omega
            have hk62 : s.data.toList[k2]? = some 62 := by rw [hat.out, H62.out]
            have H2 := Lib.hid (HM.out.trans (rm_62 n hk62))
            have e1 : (((n : Int)) == 1) = (n == 1) := by
              rw [Bool.eq_iff_iff]; simp only [beq_iff_eq]; omega
            have HE := Lib.hid e1
            clear hk62 e1
            go_wp2
            go_ret
            rw [H2.out, ← HE.out]
            exact ⟨rfl, rfl⟩
      · have g1 : ((s[k].toNat : Int) == 62) = false := by
          simp only [beq_eq_false_iff_ne]; intro e; exact h62 (UInt8.toNat_inj.1 (by show s[k].toNat = 62; omega))
        go_wp2
        go_round
        case rel => exact ⟨k + 1, by omega, by go_num, rfl, Lib.hid (fun j x hj hx => by
          by_cases e : j = k
          · subst e; rw [hat.out] at hx; exact fun e2 => h62 ((Option.some.inj hx).trans e2)
          · exact HN.out j x (by omega) hx)⟩
        case measure => simp [intOf]; omega
    · obtain rfl : k = s.size := by omega
      have HF := Lib.hid (rm_none (n := 0) (l := s.data.toList) (fun j x hx => HN.out j x (by rw [← HSL.out]; exact (List.getElem?_eq_some_iff.1 hx).1) hx))
      go_wp2
      go_ret
      rw [HF.out]
      exact ⟨rfl, rfl⟩

/-- The bound on the total length, laid by program. -/
theorem zb1 (s : ByteArray) (w : World) (h : s.size ≤ 1048576) : Calls Tryf.prog 9 #[.string s] w fun e w' => e = .returned (.bool true) ∧ w = w' := by
  go_enter Tryf.func9, Tryf.ntmps9
  go_wp2
  go_ret
  exact ⟨rfl, rfl⟩
theorem skip_FnZshNumRangeModel (w : World) (s : ByteArray) (h : ¬ s.size ≤ 1048576) (h2 : s.size ≤ 9223372036854775807) : Calls Tryf.prog 3 #[.string s] w fun e w' => e = .returned (.bool true) ∧ w = w' := by
  have h3 : 1048576 < s.size := by omega
  clear h
  go_enter Tryf.func3, Tryf.ntmps3
  go_wp2
  go_ret
  exact ⟨rfl, rfl⟩
end Go.Proofs.YtejlgdiepjiodaaFmt
