/-
  n010_145: FnAdvanceLitDquoteValueIsStable, walked.
-/
import Derived.Test.YtejlgdiepjiodaaFmtQc
import Derived.Test.YtejlgdiepjiodaaFmtByt
import Derived.IntWalk
namespace Go.Proofs.YtejlgdiepjiodaaFmt
open Go.RowKit

def intOfV : Value → Int
  | .int _ n => n
  | _ => 0
theorem str_at2 {s : ByteArray} {k : Nat} (h : k < s.size) : s.data.toList[k]? = some s[k] := by
  rw [List.getElem?_eq_getElem (by exact h)]
  rfl
def alphaD (c : UInt8) : Bool := decide (c.toNat < 128 ∧ c.toNat ≠ 0 ∧ c.toNat ≠ 13)
def allD (l : List UInt8) : Bool := l.all alphaD

set_option maxRecDepth 100000 in
set_option maxHeartbeats 800000 in
theorem dqalpha (s : ByteArray) (w : World) (hs : s.size ≤ 10000000) :
    Calls Tryf.prog 14 #[.string s] w fun e w' => e = .returned (.bool (allD s.data.toList)) ∧ w = w' := by
  go_enter Tryf.func14, Tryf.ntmps14
  go_wp2
  go_loop [3, 4] (fun i _ => ∃ k : Nat, k ≤ s.size ∧ i = .int .i64 k ∧ Hid (∀ (j : Nat) (c : UInt8), j < k → s.data.toList[j]? = some c → alphaD c = true)) (fun i _ => s.size - (intOfV i).toNat)
  case atStart => exact ⟨0, Nat.zero_le _, rfl, Lib.hid (fun j c h => absurd h (by omega))⟩
  case round =>
    obtain ⟨k, hk, rfl, HN⟩ := hrel
    by_cases hlt : k < s.size
    · have hat := Lib.hid (str_at2 hlt)
      cases hx : alphaD s[k] with
      | false =>
        have HF : Hid (allD s.data.toList = false) := Lib.hid (by
          unfold allD
          rw [List.all_eq_false]
          exact ⟨s[k], List.mem_of_getElem? hat.out, by simp [hx]⟩)
        have hx' : ¬ (s[k].toNat < 128 ∧ s[k].toNat ≠ 0 ∧ s[k].toNat ≠ 13) := of_decide_eq_false hx
        clear hx
        by_cases h0 : (s[k].toNat : Int) = 0
        · clear hx'
          go_wp2
          go_ret
          rw [HF.out]
          exact ⟨rfl, rfl⟩
        have g0 : ((s[k].toNat : Int) == 0) = false := by simpa using h0
        by_cases h1 : (128 : Int) ≤ (s[k].toNat : Int)
        · clear hx'
          go_wp2
          go_ret
          rw [HF.out]
          exact ⟨rfl, rfl⟩
        have h2 : (s[k].toNat : Int) = 13 := by omega
        clear hx'
        go_wp2
        go_ret
        rw [HF.out]
        exact ⟨rfl, rfl⟩
      | true =>
        have hx' : s[k].toNat < 128 ∧ s[k].toNat ≠ 0 ∧ s[k].toNat ≠ 13 := of_decide_eq_true hx
        have HX := Lib.hid hx
        have g0 : ((s[k].toNat : Int) == 0) = false := by simp; omega
        have g1 : ¬ (128 : Int) ≤ (s[k].toNat : Int) := by omega
        have g2 : ((s[k].toNat : Int) == 13) = false := by simp; omega
        clear hx hx'
        go_wp2
        go_round
        case rel => exact ⟨k + 1, by omega, by go_num, Lib.hid (fun j c hj hc => by
          by_cases e : j = k
          · subst e; rw [hat.out] at hc; rw [← Option.some.inj hc]; exact HX.out
          · exact HN.out j c (by omega) hc)⟩
        case measure => simp [intOfV]; omega
    · obtain rfl : k = s.size := by omega
      have HF : Hid (allD s.data.toList = true) := Lib.hid (by
        unfold allD
        rw [List.all_eq_true]
        intro c hc
        obtain ⟨j, hj, e⟩ := List.mem_iff_getElem.1 hc
        exact HN.out j c hj (by rw [List.getElem?_eq_getElem hj, e]))
      go_wp2
      go_ret
      rw [HF.out]
      exact ⟨rfl, rfl⟩

theorem zb_dq (s : ByteArray) (b : Bool) (hb : decide (s.size ≤ 1048576) = b) (h2 : s.size ≤ 9223372036854775807) (w : World) : Calls Tryf.prog 13 #[.string s] w fun e w' => e = .returned (.bool b) ∧ w = w' := by
  cases b with
  | true =>
    have h1 : s.size ≤ 1048576 := of_decide_eq_true hb
    clear hb
    go_enter Tryf.func13, Tryf.ntmps13
    go_wp2
    go_ret
    exact ⟨rfl, rfl⟩
  | false =>
    have h1 : ¬ s.size ≤ 1048576 := of_decide_eq_false hb
    have h3 : 1048576 < s.size := by omega
    clear hb h1
    go_enter Tryf.func13, Tryf.ntmps13
    go_wp2
    go_ret
    exact ⟨rfl, rfl⟩

theorem skip1_dq (w : World) (s : ByteArray) (hs : s.size ≤ 9223372036854775807) (h : ¬ s.size ≤ 1048576) : Calls Tryf.prog 5 #[.string s] w fun e w' => e = .returned (.bool true) ∧ w = w' := by
  have HB := Lib.hid (zb_dq s false (by simp; omega) hs)
  clear h
  go_enter Tryf.func5, Tryf.ntmps5
  go_wp2_with (go_at_call 13; refine (HB.out _).mono ?_; rintro e w' ⟨rfl, rfl⟩)
  go_ret
  exact ⟨rfl, rfl⟩

theorem skip2_dq (w : World) (s : ByteArray) (h : s.size ≤ 1048576) (ha : allD s.data.toList = false) : Calls Tryf.prog 5 #[.string s] w fun e w' => e = .returned (.bool true) ∧ w = w' := by
  have HB := Lib.hid (zb_dq s true (by simp; omega) (by omega))
  have HA := Lib.hid (fun w => dqalpha s w (by omega))
  rw [ha] at HA
  clear ha
  go_enter Tryf.func5, Tryf.ntmps5
  go_wp2_with (first | (go_at_call 13; refine (HB.out _).mono ?_; rintro e w' ⟨rfl, rfl⟩) | (go_at_call 14; refine (HA.out _).mono ?_; rintro e w' ⟨rfl, rfl⟩))
  go_ret
  exact ⟨rfl, rfl⟩

theorem ext_prefix {s : ByteArray} {l : List UInt8} (h : l <+: s.data.toList) : s.extract 0 (⟨l.toArray⟩ : ByteArray).size = ⟨l.toArray⟩ := by
  have e : (⟨l.toArray⟩ : ByteArray).size = l.length := rfl
  rw [e]
  apply ByteArray.ext
  apply Array.toList_inj.1
  rw [ext_list]
  obtain ⟨t, ht⟩ := h
  rw [← ht]
  simp

set_option maxRecDepth 100000 in
set_option maxHeartbeats 800000 in
theorem ok_dq (w : World) (s : ByteArray) (ea : Addr) (h : s.size ≤ 1048576) (ha : allD s.data.toList = true) (hg : w.cell? ⟨0, 0, none⟩ = some (EOFv ea)) : Calls Tryf.prog 5 #[.string s] w fun e w' => e = .returned (.bool true) ∧ Kept [] w w' := by
  have HB := Lib.hid (zb_dq s true (by simp; omega) (by omega))
  have HA := Lib.hid (fun w => dqalpha s w (by omega))
  rw [ha] at HA
  have hal : ∀ y ∈ s.data.toList, alphaB y := fun y hy => (of_decide_eq_true (List.all_eq_true.1 (show s.data.toList.all alphaD = true from ha) y hy) : y.toNat < 128 ∧ y.toNat ≠ 0 ∧ y.toNat ≠ 13)
  obtain ⟨hpre, hag⟩ := dq_len false s.data.toList
  have H1 := Lib.hid (zz_dq hal (by omega) hg)
  obtain ⟨F, hF⟩ : ∃ F, F = dqL false s.data.toList := ⟨_, rfl⟩
  rw [← hF] at hpre hag H1
  obtain ⟨V, hV⟩ : ∃ V : ByteArray, V = ⟨F.1.toArray⟩ := ⟨_, rfl⟩
  have hv1 : V.size ≤ s.size := by
    have e : V.size = F.1.length := by rw [hV]; rfl
    rw [e]; exact hpre.length_le
  have hv2 : s.extract 0 V.size = V := by rw [hV]; exact ext_prefix hpre
  have hv3 : V.data.toList = F.1 := by rw [hV]
  have H2 := Lib.hid (fun (w1 : World) (k : Kept [] w w1) => zz_dq (w := w1) (s := V) (ea := ea) (fun y hy => hal y (hpre.subset (hv3 ▸ hy))) (by omega) ((k.cell (p := ⟨0, 0, none⟩) (block_lt_of_cell hg) (by simp)).trans hg))
  rw [hv3, hag] at H2
  rw [← hV] at H1 H2
  obtain ⟨t1, ht1⟩ : ∃ t, t = F.2.1 := ⟨_, rfl⟩
  obtain ⟨r1, hr1⟩ : ∃ t, t = F.2.2 := ⟨_, rfl⟩
  rw [← ht1, ← hr1] at H1
  clear ha hal hpre hag hF hV hv3 ht1 hr1 hg
  go_enter Tryf.func5, Tryf.ntmps5
  go_wp2_with (first | (go_at_call 13; refine (HB.out _).mono ?_; rintro e w' ⟨rfl, rfl⟩) | (go_at_call 14; refine (HA.out _).mono ?_; rintro e w' ⟨rfl, rfl⟩) | (go_at_call_of 15 (Value.string s); refine H1.out.mono ?_; rintro e w1 ⟨rfl, hk1⟩; have HK1 := Lib.hid hk1; clear hk1) | (go_at_call 15; refine (H2.out _ HK1.out).mono ?_; rintro e w2 ⟨rfl, hk2⟩; have HK2 := Lib.hid (HK1.out.trans hk2); clear hk2))
  go_ret
  exact ⟨rfl, HK2.out⟩

theorem law_FnAdvanceLitDquoteValueIsStable (w : World) (s : ByteArray) (ea : Addr) (hs : s.size ≤ 9223372036854775807) (hg : w.cell? ⟨0, 0, none⟩ = some (EOFv ea)) : Calls Tryf.prog 5 #[.string s] w fun e w' => e = .returned (.bool true) ∧ Kept [] w w' := by
  have up : ∀ {e w'}, e = Ending.returned (.bool true) ∧ w = w' → e = .returned (.bool true) ∧ Kept [] w w' := fun h => ⟨h.1, h.2 ▸ Kept.refl _ _⟩
  by_cases h1 : s.size ≤ 1048576
  case neg => exact (skip1_dq w s hs h1).mono fun _ _ => up
  cases ha : allD s.data.toList with
  | false => exact (skip2_dq w s h1 ha).mono fun _ _ => up
  | true => exact ok_dq w s ea h1 ha hg
end Go.Proofs.YtejlgdiepjiodaaFmt
