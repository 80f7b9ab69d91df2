/-
  n010_145: FnAdvanceLitHdocStopsAtItsWord: its helpers, walked.
-/
import Derived.Test.YtejlgdiepjiodaaFmtQn
import Derived.Test.YtejlgdiepjiodaaFmtQo
namespace Go.Proofs.YtejlgdiepjiodaaFmt
open Go.RowKit

def hasB (c : UInt8) (l : List UInt8) : Bool := l.any (fun y => y == c)
theorem hasB_no {c : UInt8} {l : List UInt8} (h : hasB c l = false) : ∀ y ∈ l, y ≠ c := fun y hy e => by
  have := List.any_eq_false.1 (show l.any (fun y => y == c) = false from h) y hy
  simp [e] at this

set_option maxRecDepth 100000 in
set_option maxHeartbeats 800000 in
theorem hasbyte (s : ByteArray) (c : UInt8) (w : World) (hs : s.size ≤ 10000000) (cv : Int) (hc : cv = c.toNat) :
    Calls Tryf.prog 24 #[.string s, .int .u8 cv] w fun e w' => e = .returned (.bool (hasB c s.data.toList)) ∧ w = w' := by
  go_enter Tryf.func24, Tryf.ntmps24
  go_wp2
  go_loop [5] (fun i => ∃ k : Nat, k ≤ s.size ∧ i = .int .i64 k ∧ Hid (∀ (j : Nat) (x : UInt8), j < k → s.data.toList[j]? = some x → x ≠ c)) (fun i => s.size - (intOfV i).toNat)
  case atStart => exact ⟨0, Nat.zero_le _, rfl, Lib.hid (fun j c h => absurd h (by omega))⟩
  case round =>
    obtain ⟨k, hk, rfl, HN⟩ := hrel
    by_cases hlt : k < s.size
    · have hat := Lib.hid (str_at2 hlt)
      by_cases hx : s[k] = c
      · have HF : Hid (hasB c s.data.toList = true) := Lib.hid (by
          unfold hasB
          rw [List.any_eq_true]
          exact ⟨s[k], List.mem_of_getElem? hat.out, by simp [hx]⟩)
        have g0 : (s[k].toNat : Int) = cv := by rw [hx, hc]
        clear hx hc
        go_wp2
        go_ret
        rw [HF.out]
        exact ⟨rfl, rfl⟩
      · have HX := Lib.hid hx
        have g0 : ((s[k].toNat : Int) == cv) = false := by
          have : ¬ s[k].toNat = c.toNat := fun e => hx (UInt8.toNat_inj.1 e)
          rw [hc]; simp; omega
        clear hx hc
        go_wp2
        go_round
        case rel => exact ⟨k + 1, by omega, by go_num, Lib.hid (fun j x hj hc => by
          by_cases e : j = k
          · subst e; rw [hat.out] at hc; rw [← Option.some.inj hc]; exact HX.out
          · exact HN.out j x (by omega) hc)⟩
        case measure => simp [intOfV]; omega
    · obtain rfl : k = s.size := by omega
      have HF : Hid (hasB c s.data.toList = false) := Lib.hid (by
        unfold hasB
        rw [List.any_eq_false]
        intro x hx
        obtain ⟨j, hj, e⟩ := List.mem_iff_getElem.1 hx
        have := HN.out j x hj (by rw [List.getElem?_eq_getElem hj, e])
        simpa using this)
      clear hc
      go_wp2
      go_ret
      rw [HF.out]
      exact ⟨rfl, rfl⟩

theorem drop_over (s : ByteArray) {k : Nat} (h : s.size ≤ k) : s.data.toList.drop k = [] := List.drop_eq_nil_of_le h
theorem someL_nil {stop line : List UInt8} : someL stop line [] = decide (line ≠ [] ∧ line = stop) := by rw [someL.eq_def]
theorem sl_ne (s : ByteArray) {k j : Nat} (h : k < j) (hj : j ≤ s.size) : sl s k j ≠ [] := by
  intro e
  have h3 := congrArg List.length e
  have e2 : s.data.toList.length = s.size := rfl
  rw [sl_eq, List.length_take, List.length_drop] at h3
  have h4 : ([] : List UInt8).length = 0 := rfl
  omega

set_option maxRecDepth 100000 in
set_option maxHeartbeats 800000 in
theorem someline (w : World) (s st : ByteArray) (hs : s.size ≤ 10000000) (F : Bool) (hF : F = someL st.data.toList [] s.data.toList) :
    Calls Tryf.prog 25 #[.string s, .string st] w fun e w' => e = .returned (.bool F) ∧ w = w' := by
  have HF0 : Hid (F = someL st.data.toList [] (s.data.toList.drop 0)) := Lib.hid (by rw [hF]; simp)
  clear hF
  go_enter Tryf.func25, Tryf.ntmps25
  go_wp2
  go_loop [5, 6] (fun a _ => ∃ k : Nat, k ≤ s.size + 1 ∧ a = .int .i64 k ∧ Hid (F = someL st.data.toList [] (s.data.toList.drop k))) (fun a _ => s.size + 1 - (intOfV a).toNat)
  case atStart => exact ⟨0, Nat.zero_le _, rfl, HF0⟩
  case round =>
    obtain ⟨k, hk, rfl, HN⟩ := hrel
    by_cases hkn : k < s.size
    · go_wp2
      go_loop [6] (fun a => ∃ j : Nat, k ≤ j ∧ j ≤ s.size ∧ a = .int .i64 j ∧ Hid (F = someL st.data.toList (sl s k j) (s.data.toList.drop j))) (fun a => s.size - (intOfV a).toNat)
      case atStart => exact ⟨k, Nat.le_refl _, by omega, rfl, Lib.hid (by rw [sl_self]; exact HN.out)⟩
      case round =>
        obtain ⟨j, hkj, hj, rfl, HM⟩ := hrel
        by_cases hlt : j < s.size
        · have hd : F = someL st.data.toList (sl s k j) (s[j] :: s.data.toList.drop (j + 1)) := by rw [← drop_at s hlt]; exact HM.out
          have hsn := sl_snoc s hkj hlt
          by_cases h10 : s[j] = 10
          · rw [h10, someL_lf] at hd
            have gj : (s[j].toNat : Int) = 10 := by rw [h10]; rfl
            have gj1 : ((s[j].toNat : Int) == 10) = true := by rw [h10]; rfl
            by_cases hst : s.extract k j = st
            · have HF := Lib.hid (show F = true by rw [hd]; simp [sl_str.2 hst])
              have g1 := ba_yes hst
              clear hd hsn HM HN h10
              go_wp2
              go_ret
              rw [HF.out]
              exact ⟨rfl, rfl⟩
            · have HF := Lib.hid (show F = someL st.data.toList [] (s.data.toList.drop (j + 1)) by
                rw [hd, decide_eq_false (fun e => hst (sl_str.1 e)), Bool.false_or])
              have g1 := ba_no hst
              clear hd hsn HM HN h10
              go_wp2
              go_round
              case rel => exact ⟨j + 1, by omega, by go_num, HF⟩
              case measure => simp [intOfV]; omega
          · have g1 : ((s[j].toNat : Int) == 10) = false := by
              have : ¬ s[j].toNat = 10 := fun e => h10 (UInt8.toNat_inj.1 e)
              simp; omega
            rw [someL_ne h10, ← hsn] at hd
            have HF := Lib.hid hd
            clear hd hsn HM HN h10
            go_wp2
            go_round
            case rel => exact ⟨j + 1, by omega, by omega, by go_num, HF⟩
            case measure => simp [intOfV]; omega
        · obtain rfl : j = s.size := by omega
          have hd := HM.out
          rw [drop_end, someL_nil] at hd
          by_cases hst : s.extract k s.size = st
          · have HF := Lib.hid (show F = true by rw [hd]; exact decide_eq_true ⟨sl_ne s hkn (Nat.le_refl _), sl_str.2 hst⟩)
            have g1 := ba_yes hst
            clear hd HM HN
            go_wp2
            go_ret
            rw [HF.out]
            exact ⟨rfl, rfl⟩
          · have HF := Lib.hid (show F = someL st.data.toList [] (s.data.toList.drop (s.size + 1)) by
              rw [hd, drop_over s (by omega), someL_nil, decide_eq_false (fun e => hst (sl_str.1 e.2))]; simp)
            have g1 := ba_no hst
            clear hd HM HN
            go_wp2
            go_round
            case rel => exact ⟨s.size + 1, by omega, by go_num, HF⟩
            case measure => simp [intOfV]; omega
    · have HF := Lib.hid (show F = false by rw [HN.out, drop_over s (by omega), someL_nil]; simp)
      clear HN
      go_wp2
      go_ret
      rw [HF.out]
      exact ⟨rfl, rfl⟩
end Go.Proofs.YtejlgdiepjiodaaFmt
