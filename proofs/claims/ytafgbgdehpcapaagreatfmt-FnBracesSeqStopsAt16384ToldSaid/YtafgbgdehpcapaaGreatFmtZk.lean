/-
  zzMaxLen, zzSeqLimitOK.
-/
import Derived.Test.YtafgbgdehpcapaaGreatFmtHM
namespace Go.Proofs.YtafgbgdehpcapaaGreatFmt
open Go.RowKit

def mxl (xs : List ByteArray) : Nat := (szs xs).foldl max 0
theorem foldl_le {l : List Nat} {a M : Nat} (ha : a ≤ M) (h : ∀ x ∈ l, x ≤ M) : l.foldl max a ≤ M := by
  induction l generalizing a with
  | nil => exact ha
  | cons x r ih => exact ih (by have := h x (by simp); omega) (fun y hy => h y (by simp [hy]))
theorem mxl_le {xs : List ByteArray} (h : ∀ x ∈ szs xs, x ≤ 1048576) : mxl xs ≤ 1048576 := foldl_le (by omega) h
theorem le_sum {l : List Nat} {x : Nat} (h : x ∈ l) : x ≤ l.sum := by
  induction l with
  | nil => cases h
  | cons y r ih =>
    rw [List.sum_cons]
    rcases List.mem_cons.1 h with rfl | h
    · omega
    · have := ih h; omega

set_option maxRecDepth 100000 in
set_option maxHeartbeats 1600000 in
theorem maxlen_any {w : World} {P : Nat → Prop} {A : Option Addr} {n c : Nat} {xs : List ByteArray} (h : RdV P w (.slice A n c) (strV xs)) (hs : ∀ x ∈ szs xs, x ≤ 1048576) :
    Calls Tryz.prog 27 #[.slice A n c] w fun e w' => e = .returned (.int .u64 (mxl xs)) ∧ w = w' := by
  have hl := strs_len h
  have hcell := strs_at h
  have hc63 : c ≤ 9223372036854775807 ∧ n ≤ c := by
    obtain ⟨_, c', e, h1, h2, _⟩ := h
    cases e
    unfold maxLen at h2
    exact ⟨by omega, h1⟩
  obtain ⟨h63, hnc⟩ := hc63
  obtain ⟨tot, htot⟩ : ∃ t, t = mxl xs := ⟨_, rfl⟩
  rw [← htot]
  have HT := Lib.hid htot
  have HL := Lib.hid hl
  have hnx : Hid (∀ (k : Nat) (x : ByteArray), xs[k]? = some x → x.size ≤ 1048576 ∧ ((szs xs).take (k + 1)).foldl max 0 = max (((szs xs).take k).foldl max 0) x.size) := Lib.hid (fun k x hx => by
    refine ⟨hs _ (List.mem_map.2 ⟨x, List.mem_of_getElem? hx, rfl⟩), ?_⟩
    rw [List.take_add_one, List.foldl_append]
    unfold szs
    rw [List.getElem?_map, hx]
    simp)
  clear h hl htot hs
  go_enter Tryz.func27, Tryz.ntmps27
  go_wp2_with fail
  go_loop [3, 4] (fun m i => ∃ k t : Nat, k ≤ n ∧ i = .int .i64 k ∧ m = .int .u64 t ∧ t ≤ 1048576 ∧ Hid (t = ((szs xs).take k).foldl max 0)) (fun _ i => n - (intOf i).toNat)
  case atStart => exact ⟨0, 0, Nat.zero_le _, rfl, rfl, Nat.zero_le _, Lib.hid rfl⟩
  case round =>
    obtain ⟨k, t, hk, rfl, rfl, ht, HA⟩ := hrel
    by_cases hlt : k < n
    · have hlt' : k < xs.length := by rw [HL.out]; exact hlt
      obtain ⟨x, hx⟩ : ∃ x, xs[k]? = some x := ⟨_, List.getElem?_eq_getElem hlt'⟩
      obtain ⟨g, o, hA, d0⟩ := hcell.out k x hx
      obtain ⟨hxs, hnew⟩ := hnx.out k x hx
      rw [← HA.out] at hnew
      have HN := Lib.hid hnew
      clear hlt' hx hnew
      subst hA
      by_cases hq : t < x.size
      · have HN2 : Hid (x.size = ((szs xs).take (k + 1)).foldl max 0) := Lib.hid (by rw [HN.out]; omega)
        go_wp2_with fail
        go_round
        case rel => exact ⟨k + 1, x.size, by omega, by go_num, by go_num, hxs, HN2⟩
        case measure => simp [intOf]; omega
      · have HN2 : Hid (t = ((szs xs).take (k + 1)).foldl max 0) := Lib.hid (by rw [HN.out]; omega)
        go_wp2_with fail
        go_round
        case rel => exact ⟨k + 1, t, by omega, by go_num, rfl, ht, HN2⟩
        case measure => simp [intOf]; omega
    · obtain rfl : n = k := by omega
      go_wp2_with fail
      go_ret
      refine ⟨?_, rfl⟩
      rw [HA.out, HT.out, List.take_of_length_le (by unfold szs; rw [List.length_map, HL.out]; exact Nat.le_refl _)]
      rfl

/-- What zzSeqLimitOK answers. -/
def limF (a b c : Nat) (xs ys : List ByteArray) : Bool := sobF a b c xs ys 256 && decide ((if 16385 < xs.length * ys.length then 16385 else xs.length * ys.length) * (a + b + c + mxl xs + mxl ys + 64) ≤ 67108864)
theorem lim_sob {a b c : Nat} {xs ys : List ByteArray} (h : limF a b c xs ys = true) : sobF a b c xs ys 256 = true := by unfold limF at h; simp only [Bool.and_eq_true] at h; exact h.1

set_option maxRecDepth 100000 in
set_option maxHeartbeats 1600000 in
theorem seqlim_any {w : World} {P Q : Nat → Prop} {A1 A2 : Option Addr} {n1 c1 n2 c2 : Nat} {a b c : ByteArray} {xs ys : List ByteArray} (h1 : RdV P w (.slice A1 n1 c1) (strV xs)) (h2 : RdV Q w (.slice A2 n2 c2) (strV ys)) (hb1 : ∀ x ∈ xs, x.size ≤ 9223372036854775807) (hb2 : ∀ x ∈ ys, x.size ≤ 9223372036854775807) (ha : a.size ≤ 1048576) (hb : b.size ≤ 1048576) (hc : c.size ≤ 1048576) (hn1 : n1 ≤ 1048576) (hn2 : n2 ≤ 1048576) :
    Calls Tryz.prog 14 #[.string a, .string b, .string c, .slice A1 n1 c1, .slice A2 n2 c2] w fun e w' => e = .returned (.bool (limF a.size b.size c.size xs ys)) ∧ w = w' := by
  have HS := sob_any (M := 256) h1 h2 hb1 hb2 ha hb hc (by omega) hn1 hn2
  have l1 := strs_len h1
  have l2 := strs_len h2
  cases hsob : sobF a.size b.size c.size xs ys 256 with
  | false =>
    have e : limF a.size b.size c.size xs ys = false := by unfold limF; rw [hsob]; rfl
    rw [e]
    rw [hsob] at HS
    have HS := Lib.hid HS
    clear e h1 h2 hb1 hb2 l1 l2 hsob
    go_enter Tryz.func14, Tryz.ntmps14
    go_wp2_with (go_at_call 17; refine HS.out.mono ?_; rintro e w' ⟨rfl, rfl⟩)
    go_ret
    exact ⟨rfl, rfl⟩
  | true =>
    obtain ⟨m1, m2, s1, s2, _⟩ := sob_yes hsob
    have S1 := Lib.hid (maxlen_any h1 (fun x hx => by have := le_sum hx; omega))
    have S2 := Lib.hid (maxlen_any h2 (fun x hx => by have := le_sum hx; omega))
    have b1 := mxl_le (xs := xs) (fun x hx => by have := le_sum hx; omega)
    have b2 := mxl_le (xs := ys) (fun x hx => by have := le_sum hx; omega)
    obtain ⟨t1, ht1⟩ : ∃ p, p = mxl xs := ⟨_, rfl⟩
    obtain ⟨t2, ht2⟩ : ∃ p, p = mxl ys := ⟨_, rfl⟩
    obtain ⟨p12, hp12⟩ : ∃ p, p = n1 * n2 := ⟨_, rfl⟩
    obtain ⟨M, hM⟩ : ∃ M, M = if 16385 < p12 then 16385 else p12 := ⟨_, rfl⟩
    obtain ⟨p2, hp2⟩ : ∃ p, p = M * (a.size + b.size + c.size + t1 + t2 + 64) := ⟨_, rfl⟩
    have e : limF a.size b.size c.size xs ys = decide (p2 ≤ 67108864) := by
      unfold limF
      rw [hsob, hp2, hM, hp12, ht1, ht2, l1, l2]
      rfl
    rw [e]
    rw [hsob] at HS
    rw [← ht1] at S1 b1
    rw [← ht2] at S2 b2
    rw [l1] at m1
    rw [l2] at m2
    have b12 : p12 ≤ 65536 := by rw [hp12]; exact Nat.mul_le_mul m1 m2
    have bM : M ≤ 16385 := by rw [hM]; split <;> omega
    have bp2 : p2 ≤ 300000000000 := by rw [hp2]; exact Nat.le_trans (Nat.mul_le_mul bM (show a.size + b.size + c.size + t1 + t2 + 64 ≤ 5242944 by omega)) (by omega)
    have i12 : (n1 : Int) * n2 = p12 := by rw [hp12, Int.natCast_mul]
    have ip2 : (M : Int) * (a.size + b.size + c.size + t1 + t2 + 64) = p2 := by rw [hp2, Int.natCast_mul]; simp
    have HS := Lib.hid HS
    clear e h1 h2 hb1 hb2 l1 l2 hsob hp12 hp2 ht1 ht2 s1 s2 bM
    by_cases hq : 16385 < p12
    · rw [if_pos hq] at hM
      subst hM
      go_enter Tryz.func14, Tryz.ntmps14
      go_wp2_with (first | (go_at_call 17; refine HS.out.mono ?_; rintro e w' ⟨rfl, rfl⟩) | (go_at_call_of 27 (Value.slice A1 n1 c1); refine S1.out.mono ?_; rintro e w' ⟨rfl, rfl⟩) | (go_at_call_of 27 (Value.slice A2 n2 c2); refine S2.out.mono ?_; rintro e w' ⟨rfl, rfl⟩))
      go_ret
      refine ⟨?_, rfl⟩
      have e9 : ((16385 : Int) * ((a.size : Int) + b.size + c.size + t1 + t2 + 64) ≤ 67108864) ↔ (p2 ≤ 67108864) := by omega
      exact congrArg (fun b => Ending.returned (Value.bool b)) (decide_eq_decide.2 e9)
    · rw [if_neg hq] at hM
      subst hM
      go_enter Tryz.func14, Tryz.ntmps14
      go_wp2_with (first | (go_at_call 17; refine HS.out.mono ?_; rintro e w' ⟨rfl, rfl⟩) | (go_at_call_of 27 (Value.slice A1 n1 c1); refine S1.out.mono ?_; rintro e w' ⟨rfl, rfl⟩) | (go_at_call_of 27 (Value.slice A2 n2 c2); refine S2.out.mono ?_; rintro e w' ⟨rfl, rfl⟩))
      go_ret
      refine ⟨?_, rfl⟩
      show Ending.returned (Value.bool (decide ((p2 : Int) ≤ 67108864))) = _
      congr 2
      simp only [decide_eq_decide]
      omega
end Go.Proofs.YtafgbgdehpcapaaGreatFmt
