/-
  The statements' own guards: zzStopOK, zzCartesianOK, zzNestedOK.
-/
import Derived.Test.YtafgbgdehpcapaaGreatFmtHL
namespace Go.Proofs.YtafgbgdehpcapaaGreatFmt
open Go.RowKit


theorem acc_mem {n m : Nat} {l : List Nat} (h : acc n l = some m) : ∀ x ∈ l, x ≤ 1048576 := by
  induction l generalizing n with
  | nil => intro x hx; cases hx
  | cons s r ih =>
    unfold acc at h
    split at h
    · cases h
    · split at h
      · cases h
      · intro x hx
        rcases List.mem_cons.1 hx with rfl | hx
        · omega
        · exact ih h x hx

theorem sob_yes {a b c M : Nat} {xs ys : List ByteArray} (h : sobF a b c xs ys M = true) : xs.length ≤ M ∧ ys.length ≤ M ∧ (szs xs).sum ≤ 1048576 ∧ (szs ys).sum ≤ 1048576 ∧ a + b + c + (szs xs).sum + (szs ys).sum ≤ 1048576 := by
  unfold sobF at h
  simp only [Bool.and_eq_true, decide_eq_true_eq] at h
  obtain ⟨h1, h2, h3⟩ := h
  have g1 : 0 ≤ lbF xs := by unfold lbF; split <;> omega
  have g2 : 0 ≤ lbF ys := by unfold lbF; split <;> omega
  have q1 := lbF_small (xs := xs) (by omega)
  have q2 := lbF_small (xs := ys) (by omega)
  exact ⟨h1, h2, q1.2, q2.2, by omega⟩

/-- What zzCartesianOK answers. -/
def cartF (a b c : Nat) (xs ys : List ByteArray) : Bool := sobF a b c xs ys 256 && decide (xs.length * ys.length * (a + b + c + 64) + ys.length * (szs xs).sum + xs.length * (szs ys).sum ≤ 67108864)

set_option maxRecDepth 100000 in
set_option maxHeartbeats 1600000 in
theorem cart_any {w : World} {P Q : Nat → Prop} {A1 A2 : Option Addr} {n1 c1 n2 c2 : Nat} {a b c : ByteArray} {xs ys : List ByteArray} (h1 : RdV P w (.slice A1 n1 c1) (strV xs)) (h2 : RdV Q w (.slice A2 n2 c2) (strV ys)) (hb1 : ∀ x ∈ xs, x.size ≤ 9223372036854775807) (hb2 : ∀ x ∈ ys, x.size ≤ 9223372036854775807) (ha : a.size ≤ 1048576) (hb : b.size ≤ 1048576) (hc : c.size ≤ 1048576) (hn1 : n1 ≤ 1048576) (hn2 : n2 ≤ 1048576) :
    Calls Tryz.prog 6 #[.string a, .string b, .string c, .slice A1 n1 c1, .slice A2 n2 c2] w fun e w' => e = .returned (.bool (cartF a.size b.size c.size xs ys)) ∧ w = w' := by
  have HS := sob_any (M := 256) h1 h2 hb1 hb2 ha hb hc (by omega) hn1 hn2
  have l1 := strs_len h1
  have l2 := strs_len h2
  cases hsob : sobF a.size b.size c.size xs ys 256 with
  | false =>
    have e : cartF a.size b.size c.size xs ys = false := by unfold cartF; rw [hsob]; rfl
    rw [e]
    rw [hsob] at HS
    have HS := Lib.hid HS
    clear e h1 h2 hb1 hb2 l1 l2 hsob
    go_enter Tryz.func6, Tryz.ntmps6
    go_wp2_with (go_at_call 17; refine HS.out.mono ?_; rintro e w' ⟨rfl, rfl⟩)
    go_ret
    exact ⟨rfl, rfl⟩
  | true =>
    obtain ⟨m1, m2, s1, s2, _⟩ := sob_yes hsob
    have S1 := Lib.hid (sumlen_any h1 s1)
    have S2 := Lib.hid (sumlen_any h2 s2)
    obtain ⟨p12, hp12⟩ : ∃ p, p = n1 * n2 := ⟨_, rfl⟩
    obtain ⟨p2, hp2⟩ : ∃ p, p = p12 * (a.size + b.size + c.size + 64) := ⟨_, rfl⟩
    obtain ⟨u1, hu1⟩ : ∃ p, p = (szs xs).sum := ⟨_, rfl⟩
    obtain ⟨u2, hu2⟩ : ∃ p, p = (szs ys).sum := ⟨_, rfl⟩
    obtain ⟨q1, hq1⟩ : ∃ p, p = n2 * u1 := ⟨_, rfl⟩
    obtain ⟨q2, hq2⟩ : ∃ p, p = n1 * u2 := ⟨_, rfl⟩
    have e : cartF a.size b.size c.size xs ys = decide (p2 + q1 + q2 ≤ 67108864) := by
      unfold cartF
      rw [hsob, hp2, hp12, hq1, hq2, hu1, hu2, l1, l2]
      rfl
    rw [e]
    rw [hsob] at HS
    rw [← hu1] at S1 s1
    rw [← hu2] at S2 s2
    rw [l1] at m1
    rw [l2] at m2
    have b12 : p12 ≤ 65536 := by rw [hp12]; exact Nat.mul_le_mul m1 m2
    have bp2 : p2 ≤ 300000000000 := by rw [hp2]; exact Nat.le_trans (Nat.mul_le_mul b12 (show a.size + b.size + c.size + 64 ≤ 3145792 by omega)) (by omega)
    have bq1 : q1 ≤ 268435456 := by rw [hq1]; exact Nat.le_trans (Nat.mul_le_mul m2 s1) (by omega)
    have bq2 : q2 ≤ 268435456 := by rw [hq2]; exact Nat.le_trans (Nat.mul_le_mul m1 s2) (by omega)
    have i12 : (n1 : Int) * n2 = p12 := by rw [hp12, Int.natCast_mul]
    have ip2 : (p12 : Int) * (a.size + b.size + c.size + 64) = p2 := by rw [hp2, Int.natCast_mul]; simp
    have iq1 : (n2 : Int) * u1 = q1 := by rw [hq1, Int.natCast_mul]
    have iq2 : (n1 : Int) * u2 = q2 := by rw [hq2, Int.natCast_mul]
    have HS := Lib.hid HS
    clear e h1 h2 hb1 hb2 l1 l2 hsob hp12 hp2 hu1 hu2 hq1 hq2
    go_enter Tryz.func6, Tryz.ntmps6
    go_wp2_with (first | (go_at_call 17; refine HS.out.mono ?_; rintro e w' ⟨rfl, rfl⟩) | (go_at_call_of 18 (Value.slice A1 n1 c1); refine S1.out.mono ?_; rintro e w' ⟨rfl, rfl⟩) | (go_at_call_of 18 (Value.slice A2 n2 c2); refine S2.out.mono ?_; rintro e w' ⟨rfl, rfl⟩))
    go_ret
    refine ⟨?_, rfl⟩
    show Ending.returned (Value.bool (decide ((p2 : Int) + q1 + q2 ≤ 67108864))) = _
    congr 2
    simp only [decide_eq_decide]
    omega

end Go.Proofs.YtafgbgdehpcapaaGreatFmt
