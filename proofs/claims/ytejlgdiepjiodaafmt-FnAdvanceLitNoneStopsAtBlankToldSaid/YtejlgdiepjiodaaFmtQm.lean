/-
  n010_145: the law's own model of a heredoc's body, walked: it answers what hdR says.
-/
import Derived.Test.YtejlgdiepjiodaaFmtQl
import Derived.Test.YtejlgdiepjiodaaFmtQd
import Derived.Test.YtejlgdiepjiodaaFmtByt
import Derived.BigQuiet
import Derived.Handy
namespace Go.Proofs.YtejlgdiepjiodaaFmt
open Go.RowKit

/-- The bytes from k to j. -/
def sl (s : ByteArray) (k j : Nat) : List UInt8 := (s.extract k j).data.toList
theorem sl_eq (s : ByteArray) (k j : Nat) : sl s k j = (s.data.toList.drop k).take (j - k) := by
  unfold sl
  rw [ext_list]
theorem sl_self (s : ByteArray) (k : Nat) : sl s k k = [] := by rw [sl_eq]; simp
theorem sl_snoc (s : ByteArray) {k j : Nat} (h : k ≤ j) (hj : j < s.size) : sl s k (j + 1) = sl s k j ++ [s[j]] := by
  rw [sl_eq, sl_eq, Nat.succ_sub h, List.take_add_one]
  congr 1
  rw [List.getElem?_drop, Nat.add_sub_cancel' h, str_at2 hj]
  rfl
theorem sl_join (s : ByteArray) {k j : Nat} (h : k ≤ j) : sl s 0 k ++ sl s k j = sl s 0 j := by
  rw [sl_eq, sl_eq, sl_eq]
  simp only [List.drop_zero, Nat.sub_zero]
  rw [show j = k + (j - k) by omega, List.take_add, Nat.add_sub_cancel_left]
theorem sl_zero (s : ByteArray) {k : Nat} (h : k ≤ s.size) (_hs : s.size ≠ 0) : sl s 0 k = [] ↔ k = 0 := by
  rw [sl_eq]
  have e : s.data.toList.length = s.size := rfl
  constructor
  · intro h2
    have h3 := congrArg List.length h2
    rw [List.length_take, List.length_drop] at h3
    have h4 : ([] : List UInt8).length = 0 := rfl
    omega
  · rintro rfl; simp
theorem drop_at (s : ByteArray) {j : Nat} (hj : j < s.size) : s.data.toList.drop j = s[j] :: s.data.toList.drop (j + 1) := by
  have e : s.data.toList.length = s.size := rfl
  rw [List.drop_eq_getElem_cons (by omega)]
  congr 1
theorem drop_end (s : ByteArray) : s.data.toList.drop s.size = [] := List.drop_eq_nil_of_le (Nat.le_refl _)
theorem sl_byte (s : ByteArray) (k j : Nat) : (⟨(sl s k j).toArray⟩ : ByteArray) = s.extract k j := rfl

theorem hdF_36 {stop done line u : List UInt8} : hdF stop done line (36 :: u) = (3, done ++ line, 36, false) := by rw [hdF]; simp
theorem hdF_96 {stop done line u : List UInt8} : hdF stop done line (96 :: u) = (3, done ++ line, 96, false) := by rw [hdF]; simp
theorem hdF_10 {stop done line u : List UInt8} : hdF stop done line (10 :: u) = if line = stop then (if done = [] then 2 else 4, done, 10, true) else hdF stop (done ++ line ++ [10]) [] u := by rw [hdF]; simp
theorem hdF_o {stop done line u : List UInt8} {x : UInt8} (h : ¬ (x = 36 ∨ x = 96)) (h2 : x ≠ 10) : hdF stop done line (x :: u) = hdF stop done (line ++ [x]) u := by rw [hdF]; simp [h, h2]
theorem hdF_nil {stop done line : List UInt8} : hdF stop done line [] = if line = stop then (if done = [] then 2 else 4, done, 1114112, true) else (3, [], 1114112, false) := by rw [hdF]

def knF (F : Int × List UInt8 × Int × Bool) : Bool := decide (¬ (F.1 = 3 ∧ F.2.2.1 = 1114112))

theorem sl_str {s st : ByteArray} {k j : Nat} : sl s k j = st.data.toList ↔ s.extract k j = st := by
  constructor
  · intro h
    apply ByteArray.ext
    exact Array.toList_inj.1 h
  · rintro rfl; rfl

theorem toList_eq (a : ByteArray) : a.toList = a.data.toList := by
  have := ByteArray.toList_mk a.data.toList
  simpa using this
theorem ba_yes {a b : ByteArray} (h : a = b) : (a.toList == b.toList) = true := by rw [h]; simp
theorem ba_no {a b : ByteArray} (h : ¬ a = b) : (a.toList == b.toList) = false := by
  rw [Bool.eq_false_iff]
  intro e
  refine h (ByteArray.ext (Array.toList_inj.1 ?_))
  have e2 := beq_iff_eq.1 e
  rw [toList_eq, toList_eq] at e2
  exact e2

set_option maxRecDepth 100000 in
set_option maxHeartbeats 800000 in
theorem zmodel (w : World) (s st : ByteArray) (hs : s.size ≤ 10000000) (F : Int × List UInt8 × Int × Bool) (hF : F = hdR st.data.toList s.data.toList) :
    Calls Tryf.prog 22 #[.string s, .string st] w fun e w' => e = .returned (.tuple #[.int .u32 F.1, .string ⟨F.2.1.toArray⟩, .bool (knF F), .int .i32 F.2.2.1, .bool F.2.2.2]) ∧ Kept [] w w' := by
  have elen : s.data.toList.length = s.size := rfl
  by_cases h0 : s.size = 0
  · have HF : Hid (F = (3, [], 1114112, false)) := Lib.hid (by rw [hF, hdR, if_pos (List.eq_nil_of_length_eq_zero (by omega))])
    clear hF
    go_enter Tryf.func22, Tryf.ntmps22
    go_wp2
    go_returns
    rw [HF.out]
    exact ⟨rfl, Kept.refl _ _⟩
  have HF0 : Hid (F = hdF st.data.toList (sl s 0 0) [] (s.data.toList.drop 0)) := Lib.hid (by
    rw [hF, hdR, if_neg (fun e => h0 (by rw [← elen, e]; rfl)), sl_self]
    simp)
  have g0 : ((s.size : Int) == 0) = false := by simpa using h0
  clear hF
  go_enter Tryf.func22, Tryf.ntmps22
  go_wp2
  go_loop [10, 11] (fun a _ => ∃ k : Nat, k ≤ s.size ∧ a = .int .i64 k ∧ Hid (F = hdF st.data.toList (sl s 0 k) [] (s.data.toList.drop k))) (fun a _ => s.size - (intOfV a).toNat)
  case atStart => exact ⟨0, Nat.zero_le _, rfl, HF0⟩
  case round =>
    obtain ⟨k, hk, rfl, HN⟩ := hrel
    go_wp2
    go_loop [11] (fun a => ∃ j : Nat, k ≤ j ∧ j ≤ s.size ∧ a = .int .i64 j ∧ Hid (F = hdF st.data.toList (sl s 0 k) (sl s k j) (s.data.toList.drop j))) (fun a => s.size - (intOfV a).toNat)
    case atStart => exact ⟨k, Nat.le_refl _, hk, rfl, Lib.hid (by rw [sl_self]; exact HN.out)⟩
    case round =>
      obtain ⟨j, hkj, hj, rfl, HM⟩ := hrel
      by_cases hlt : j < s.size
      · have hd : F = hdF st.data.toList (sl s 0 k) (sl s k j) (s[j] :: s.data.toList.drop (j + 1)) := by rw [← drop_at s hlt]; exact HM.out
        have hsn := sl_snoc s hkj hlt
        have hjn := sl_join s hkj
        by_cases h10 : s[j] = 10
        · rw [h10, hdF_10] at hd
          rw [h10] at hsn
          have gj : (s[j].toNat : Int) = 10 := by rw [h10]; rfl
          have gj1 : ((s[j].toNat : Int) == 10) = true := by rw [h10]; rfl
          by_cases hst : s.extract k j = st
          · rw [if_pos (sl_str.2 hst)] at hd
            have HF := Lib.hid hd
            have g1 := ba_yes hst
            clear hd hsn hjn HM HN h10
            have hz := sl_zero s hk h0
            by_cases hk0 : k = 0
            · subst hk0
              rw [sl_self] at HF
              clear hz
              go_wp2
              go_quiet (fail)
              go_wp2
              go_returns
              rw [HF.out]
              exact ⟨by simp [knF]; rfl, by first | exact (Kept.refl _ _).drewN _ | exact Kept.refl _ _⟩
            · have gk : ((k : Int) == 0) = false := by simpa using hk0
              rw [if_neg (fun e => hk0 (hz.1 e))] at HF
              clear hz
              go_wp2
              go_quiet (fail)
              go_wp2
              go_returns
              rw [HF.out]
              exact ⟨by simp [knF, sl_byte], by first | exact (Kept.refl _ _).drewN _ | exact Kept.refl _ _⟩
          · rw [if_neg (fun e => hst (sl_str.1 e)), List.append_assoc, ← hsn, sl_join s (by omega)] at hd
            have HF := Lib.hid hd
            have g1 := ba_no hst
            have gn : ¬ j = s.size := by omega
            clear hd hsn hjn HM HN h10
            go_wp2
            go_round
            case rel => exact ⟨j + 1, by omega, by go_num, HF⟩
            case measure => simp [intOfV]; omega
        · by_cases hq : s[j] = 36 ∨ s[j] = 96
          · have gj1 : ((s[j].toNat : Int) == 10) = false := by rcases hq with h | h <;> rw [h] <;> rfl
            rcases hq with hq | hq
            · rw [hq, hdF_36, hjn] at hd
              have HF := Lib.hid hd
              have gj : (s[j].toNat : Int) = 36 := by rw [hq]; rfl
              clear hd hsn hjn HM HN h10 hq
              go_wp2
              go_quiet (fail)
              go_wp2
              go_returns
              rw [HF.out]
              exact ⟨by simp [knF, sl_byte], by first | exact (Kept.refl _ _).drewN _ | exact Kept.refl _ _⟩
            · rw [hq, hdF_96, hjn] at hd
              have HF := Lib.hid hd
              have gj : (s[j].toNat : Int) = 96 := by rw [hq]; rfl
              clear hd hsn hjn HM HN h10 hq
              go_wp2
              go_quiet (fail)
              go_wp2
              go_returns
              rw [HF.out]
              exact ⟨by simp [knF, sl_byte], by first | exact (Kept.refl _ _).drewN _ | exact Kept.refl _ _⟩
          · have gi : ∀ c : UInt8, s[j] ≠ c → ((s[j].toNat : Int) == (c.toNat : Int)) = false := by
              intro c hc
              have : ¬ s[j].toNat = c.toNat := fun e => hc (UInt8.toNat_inj.1 e)
              simp; omega
            have g1 : ((s[j].toNat : Int) == 10) = false := gi 10 h10
            have g2 : ((s[j].toNat : Int) == 36) = false := gi 36 (fun e => hq (.inl e))
            have g3 : ((s[j].toNat : Int) == 96) = false := gi 96 (fun e => hq (.inr e))
            rw [hdF_o hq h10, ← hsn] at hd
            have HF := Lib.hid hd
            clear hd hsn hjn HM HN h10 hq gi
            go_wp2
            go_round
            case rel => exact ⟨j + 1, by omega, by omega, by go_num, HF⟩
            case measure => simp [intOfV]; omega
      · obtain rfl : j = s.size := by omega
        have hd := HM.out
        rw [drop_end, hdF_nil] at hd
        by_cases hst : s.extract k s.size = st
        · rw [if_pos (sl_str.2 hst)] at hd
          have HF := Lib.hid hd
          have g1 := ba_yes hst
          clear hd HM HN
          have hz := sl_zero s hk h0
          by_cases hk0 : k = 0
          · subst hk0
            rw [sl_self] at HF
            clear hz
            go_wp2
            go_quiet (fail)
            go_wp2
            go_returns
            rw [HF.out]
            exact ⟨by simp [knF]; rfl, by first | exact (Kept.refl _ _).drewN _ | exact Kept.refl _ _⟩
          · have gk : ((k : Int) == 0) = false := by simpa using hk0
            rw [if_neg (fun e => hk0 (hz.1 e))] at HF
            clear hz
            go_wp2
            go_quiet (fail)
            go_wp2
            go_returns
            rw [HF.out]
            exact ⟨by simp [knF, sl_byte], by first | exact (Kept.refl _ _).drewN _ | exact Kept.refl _ _⟩
        · rw [if_neg (fun e => hst (sl_str.1 e))] at hd
          have HF := Lib.hid hd
          have g1 := ba_no hst
          clear hd HM HN
          go_wp2
          go_returns
          rw [HF.out]
          exact ⟨rfl, Kept.refl _ _⟩
end Go.Proofs.YtejlgdiepjiodaaFmt
