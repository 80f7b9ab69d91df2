/-
  n010_42: the law's own model: firstStop, litStops, plainLitInput, expectedLit.
-/
import Derived.Test.YtaaobebpjblbdaaFmtNs
import Derived.Test.YtaaobebpjblbdaaFmtAdl
namespace Go.Proofs.YtaaobebpjblbdaaFmt
open Go.RowKit

/-- Where the first byte of a kind stands; -1: nowhere. -/
def fstI (l : List UInt8) (f : UInt8 → Bool) : Int := if l.any f then ((l.takeWhile fun c => !f c).length : Int) else -1
theorem take_of_first {l : List UInt8} {f : UInt8 → Bool} {k : Nat} (hk : k < l.length) (h : ∀ (j : Nat) (c : UInt8), j < k → l[j]? = some c → f c = false) (hf : f l[k] = true) : l.takeWhile (fun c => !f c) = l.take k ∧ l.dropWhile (fun c => !f c) = l.drop k := by
  induction l generalizing k with
  | nil => simp at hk
  | cons a t ih =>
    cases k with
    | zero =>
      have hf' : f a = true := hf
      simp [hf']
    | succ k =>
      have ha : f a = false := h 0 a (by omega) rfl
      have ht := ih (k := k) (by simpa using hk) (fun j c hj hc => h (j + 1) c (by omega) (by simpa using hc)) (by simpa using hf)
      simp [ha, ht.1, ht.2]
theorem any_of_at {l : List UInt8} {f : UInt8 → Bool} {k : Nat} (hk : k < l.length) (hf : f l[k] = true) : l.any f = true := by
  rw [List.any_eq_true]
  exact ⟨_, List.getElem_mem hk, hf⟩

set_option maxRecDepth 100000 in
set_option maxHeartbeats 800000 in
theorem first_any (s : ByteArray) (m : ByteArray) (w : World) (hs : s.size ≤ 10000000) (hm : m.size ≤ 10000000) :
    Calls Tryf.prog 17 #[.string s, .string m] w fun e w' => e = .returned (.int .i64 (fstI s.data.toList (fun c => inSetB m.data.toList c.toNat))) ∧ w = w' := by
  have HC := Lib.hid (fun (x : Int) (b : Bool) (hb : inSetB m.data.toList x = b) (w : World) => (inset_any m x w hm).mono (R' := fun e w' => e = .returned (.bool b) ∧ w = w') (fun e w' h => by rw [hb] at h; exact h))
  go_enter Tryf.func17, Tryf.ntmps17
  go_wp2
  go_loop [4, 5] (fun _ i => ∃ k : Nat, k ≤ s.size ∧ i = .int .i64 k ∧ Hid (∀ (j : Nat) (c : UInt8), j < k → s.data.toList[j]? = some c → inSetB m.data.toList c.toNat = false)) (fun _ i => s.size - (intOf i).toNat)
  case atStart => exact ⟨0, Nat.zero_le _, rfl, Lib.hid (fun j c h => absurd h (by omega))⟩
  case round =>
    obtain ⟨k, hk, rfl, HN⟩ := hrel
    by_cases hlt : k < s.size
    · have hat := Lib.hid (str_at hlt)
      have hwr := rune_u8 s[k]
      by_cases hx : inSetB m.data.toList s[k].toNat = true
      · have HF : Hid (fstI s.data.toList (fun c => inSetB m.data.toList c.toNat) = k) := Lib.hid (by
          have hlt' : k < s.data.toList.length := hlt
          have hx' : inSetB m.data.toList (s.data.toList[k]).toNat = true := hx
          unfold fstI
          rw [if_pos (any_of_at hlt' hx'), (take_of_first hlt' HN.out hx').1]
          simp; omega)
        have HX := Lib.hid (HC.out _ _ hx)
        clear hx
        go_wp2_with (go_at_call 19; refine (HX.out _).mono ?_; rintro e w' ⟨rfl, rfl⟩)
        go_ret
        rw [HF.out]
        exact ⟨rfl, rfl⟩
      · have hx' : inSetB m.data.toList s[k].toNat = false := by simpa using hx
        have HX := Lib.hid (HC.out _ _ hx')
        have HX' := Lib.hid hx'
        clear hx hx'
        go_wp2_with (go_at_call 19; refine (HX.out _).mono ?_; rintro e w' ⟨rfl, rfl⟩)
        go_round
        case rel => first | exact ⟨k + 1, by omega, by go_num, Lib.hid (fun j c hj hc => by
          by_cases e : j = k
          · subst e; rw [hat.out] at hc; rw [← Option.some.inj hc]; exact HX'.out
          · exact HN.out j c (by omega) hc)⟩ | (refine ⟨trivial, ?_⟩; (repeat apply Exists.intro); exact ⟨⟨k + 1, by omega, by go_num, Lib.hid (fun j c hj hc => by
          by_cases e : j = k
          · subst e; rw [hat.out] at hc; rw [← Option.some.inj hc]; exact HX'.out
          · exact HN.out j c (by omega) hc)⟩, rfl⟩)
        case measure => simp [intOf]; omega
    · obtain rfl : k = s.size := by omega
      have HF : Hid (fstI s.data.toList (fun c => inSetB m.data.toList c.toNat) = -1) := Lib.hid (by
        unfold fstI
        have : s.data.toList.any (fun c => inSetB m.data.toList c.toNat) = false := by
          rw [List.any_eq_false]
          intro c hc
          obtain ⟨j, hj, e⟩ := List.getElem_of_mem hc
          rw [HN.out j c hj (by rw [List.getElem?_eq_getElem hj, e])]
          simp
        rw [this]
        rfl)
      go_wp2
      go_ret
      rw [HF.out]
      exact ⟨rfl, rfl⟩

def quotesB : List UInt8 := [39, 34, 96, 36]
def arithB : List UInt8 := [47, 58, 61, 37, 94, 44, 63, 33, 126, 42, 91, 93, 43, 45, 32, 9, 59, 38, 62, 60, 124, 40, 41, 10, 13]
/-- The bytes that end a literal. -/
def stopsB (st : Nat) (z : Bool) : List UInt8 :=
  if st = 0 then quotesB ++ [125] else if st = 1 then quotesB ++ [125, 47] else if st = 2 then quotesB ++ (arithB ++ (if z then [] else [46])) else quotesB ++ [125] ++ (arithB ++ (if z then [] else [46]))

set_option maxRecDepth 100000 in
theorem stops_any (st : Int) (h1 : 0 ≤ st) (h2 : st ≤ 3) (z : Bool) (w : World) : Calls Tryf.prog 18 #[.int .i64 st, .bool z] w fun e w' => e = .returned (.string ⟨(stopsB st.toNat z).toArray⟩) ∧ w = w' := by
  have hs : st = 0 ∨ st = 1 ∨ st = 2 ∨ st = 3 := by omega
  clear h1 h2
  cases z
  all_goals (
    rcases hs with rfl | rfl | rfl | rfl
    all_goals (
      go_enter Tryf.func18, Tryf.ntmps18
      go_wp2
      go_ret
      exact ⟨by kernel_rfl, rfl⟩))

/-- plainLitByte. -/
def plainLB (c : UInt8) : Bool := decide (c.toNat < 128 ∧ c.toNat ≠ 0 ∧ c.toNat ≠ 13 ∧ c.toNat ≠ 92)
theorem plainLB_iff (c : UInt8) : plainLB c = true ↔ plainB c := by unfold plainLB plainB; simp
theorem plainlb_any (c : UInt8) (w : World) : Calls Tryf.prog 10 #[.int .u8 c.toNat] w fun e w' => e = .returned (.bool (plainLB c)) ∧ w = w' := by
  have hb : c.toNat < 256 := c.toNat_lt
  by_cases h0 : c.toNat = 0
  · have hr : plainLB c = false := by unfold plainLB; simp [h0]
    rw [hr, h0]
    clear hr h0 hb
    go_enter Tryf.func10, Tryf.ntmps10
    go_wp2
    go_ret
    exact ⟨rfl, rfl⟩
  by_cases h13 : c.toNat = 13
  · have hr : plainLB c = false := by unfold plainLB; simp [h13]
    rw [hr, h13]
    clear hr h0 hb h13
    go_enter Tryf.func10, Tryf.ntmps10
    go_wp2
    go_ret
    exact ⟨rfl, rfl⟩
  by_cases h92 : c.toNat = 92
  · have hr : plainLB c = false := by unfold plainLB; simp [h92]
    rw [hr, h92]
    clear hr h0 hb h13 h92
    go_enter Tryf.func10, Tryf.ntmps10
    go_wp2
    go_ret
    exact ⟨rfl, rfl⟩
  have g0 : ((c.toNat : Int) != 0) = true := by simp; omega
  have g13 : ((c.toNat : Int) != 13) = true := by simp; omega
  have g92 : ((c.toNat : Int) != 92) = true := by simp; omega
  by_cases h128 : c.toNat < 128
  · have hr : plainLB c = true := by unfold plainLB; simp [h0, h13, h92, h128]
    rw [hr]
    have g128 : decide ((c.toNat : Int) < 128) = true := by simp; omega
    clear hr h0 h13 h92 hb h128
    go_enter Tryf.func10, Tryf.ntmps10
    go_wp2
    go_ret
    exact ⟨rfl, rfl⟩
  · have hr : plainLB c = false := by unfold plainLB; simp [h128]
    rw [hr]
    have g128 : decide ((c.toNat : Int) < 128) = false := by simp; omega
    clear hr h0 h13 h92 hb h128
    go_enter Tryf.func10, Tryf.ntmps10
    go_wp2
    go_ret
    exact ⟨rfl, rfl⟩

set_option maxRecDepth 100000 in
set_option maxHeartbeats 800000 in
theorem plainin_any (s : ByteArray) (w : World) (hs : s.size ≤ 10000000) :
    Calls Tryf.prog 6 #[.string s] w fun e w' => e = .returned (.bool (s.data.toList.all plainLB)) ∧ w = w' := by
  obtain ⟨bv, hbv⟩ : ∃ b, b = s.data.toList.all plainLB := ⟨_, rfl⟩
  rw [← hbv]
  have HBV := Lib.hid hbv
  clear hbv
  go_enter Tryf.func6, Tryf.ntmps6
  go_wp2
  go_loop [2, 3] (fun _ i => ∃ k : Nat, k ≤ s.size ∧ i = .int .i64 k ∧ Hid (∀ (j : Nat) (c : UInt8), j < k → s.data.toList[j]? = some c → plainLB c = true)) (fun _ i => s.size - (intOf i).toNat)
  case atStart => exact ⟨0, Nat.zero_le _, rfl, Lib.hid (fun j c h => absurd h (by omega))⟩
  case round =>
    obtain ⟨k, hk, rfl, HN⟩ := hrel
    by_cases hlt : k < s.size
    · have hat := Lib.hid (str_at hlt)
      by_cases hx : plainLB s[k] = true
      · have HX := Lib.hid (fun w => (plainlb_any s[k] w).mono (R' := fun e w' => e = .returned (.bool true) ∧ w = w') (fun e w' h => by rw [hx] at h; exact h))
        have HX' := Lib.hid hx
        clear hx
        go_wp2_with (go_at_call 10; refine (HX.out _).mono ?_; rintro e w' ⟨rfl, rfl⟩)
        go_round
        case rel => first | exact ⟨k + 1, by omega, by go_num, Lib.hid (fun j c hj hc => by
          by_cases e : j = k
          · subst e; rw [hat.out] at hc; rw [← Option.some.inj hc]; exact HX'.out
          · exact HN.out j c (by omega) hc)⟩ | (refine ⟨trivial, ?_⟩; (repeat apply Exists.intro); exact ⟨⟨k + 1, by omega, by go_num, Lib.hid (fun j c hj hc => by
          by_cases e : j = k
          · subst e; rw [hat.out] at hc; rw [← Option.some.inj hc]; exact HX'.out
          · exact HN.out j c (by omega) hc)⟩, rfl⟩)
        case measure => simp [intOf]; omega
      · have hx' : plainLB s[k] = false := by simpa using hx
        have HX := Lib.hid (fun w => (plainlb_any s[k] w).mono (R' := fun e w' => e = .returned (.bool false) ∧ w = w') (fun e w' h => by rw [hx'] at h; exact h))
        have HF : Hid (bv = false) := Lib.hid (by
          rw [HBV.out, List.all_eq_false]
          exact ⟨s[k], List.mem_of_getElem? hat.out, hx⟩)
        clear hx hx'
        go_wp2_with (go_at_call 10; refine (HX.out _).mono ?_; rintro e w' ⟨rfl, rfl⟩)
        go_ret
        rw [HF.out]
        exact ⟨rfl, rfl⟩
    · obtain rfl : k = s.size := by omega
      have HF : Hid (bv = true) := Lib.hid (by
        rw [HBV.out, List.all_eq_true]
        intro c hc
        obtain ⟨j, hj, e⟩ := List.getElem_of_mem hc
        exact HN.out j c hj (by rw [List.getElem?_eq_getElem hj, e]))
      go_wp2
      go_ret
      rw [HF.out]
      exact ⟨rfl, rfl⟩
end Go.Proofs.YtaaobebpjblbdaaFmt
