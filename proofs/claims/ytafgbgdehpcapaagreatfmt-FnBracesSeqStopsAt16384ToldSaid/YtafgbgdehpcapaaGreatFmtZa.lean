/-
  BracesSeq's consumer in plain terms: it counts the calls, hands on at most 16384 words, then tells of the error; the consumer behind it says no at its k-th.
-/
import Derived.Test.YtafgbgdehpcapaaGreatFmtHM
namespace Go.Proofs.YtafgbgdehpcapaaGreatFmt
open Go.RowKit

/-- How many calls, how many words were taken, whether the error was seen. -/
def stpQ (k : Int) (s : Nat × Nat × Bool) (_ : List Value) : (Nat × Nat × Bool) × Bool :=
  if s.1 < 16384 then (if 0 ≤ k ∧ k ≤ s.2.1 then ((s.1 + 1, s.2.1, s.2.2), false) else ((s.1 + 1, s.2.1 + 1, s.2.2), true))
  else ((s.1 + 1, s.2.1, s.2.2 || !(decide (0 ≤ k ∧ k ≤ s.2.1))), false)
/-- The words come in their order. -/
def GQ (yss : List (List Value)) (s : Nat × Nat × Bool) (y : List Value) : Prop := s.1 = s.2.1 ∧ s.2.2 = false ∧ yss[s.2.1]? = some y ∧ s.1 ≤ 16384
def finQ (k : Int) (T : Nat) : (Nat × Nat × Bool) × Bool :=
  if 0 ≤ k ∧ k < T ∧ k ≤ 16384 then ((k.toNat + 1, k.toNat, false), false) else if T ≤ 16384 then ((T, T, false), true) else ((16385, 16384, true), false)

theorem drop_at {yss : List (List Value)} {m : Nat} {y : List Value} {r : List (List Value)} (h : yss.drop m = y :: r) : yss[m]? = some y ∧ yss.drop (m + 1) = r ∧ m < yss.length := by
  have hl : m < yss.length := by
    rcases Nat.lt_or_ge m yss.length with q | q
    · exact q
    · rw [List.drop_of_length_le q] at h; cases h
  rw [List.drop_eq_getElem_cons hl] at h
  injection h with h1 h2
  exact ⟨by rw [List.getElem?_eq_getElem hl, h1], h2, hl⟩
theorem safe_q {k : Int} {yss : List (List Value)} : ∀ (l : List (List Value)) (m : Nat), yss.drop m = l → m ≤ 16384 → safe (GQ yss) (stpQ k) (m, m, false) l := by
  intro l
  induction l with
  | nil => intro m _ _; trivial
  | cons y r ih =>
    intro m h h6
    obtain ⟨h1, h2, h3⟩ := drop_at h
    refine ⟨⟨rfl, rfl, h1, h6⟩, fun hs => ?_⟩
    by_cases hm : m < 16384
    · by_cases hk : 0 ≤ k ∧ k ≤ m
      · have e : stpQ k (m, m, false) y = ((m + 1, m, false), false) := by unfold stpQ; rw [if_pos hm, if_pos hk]
        rw [e] at hs; cases hs
      · have e : stpQ k (m, m, false) y = ((m + 1, m + 1, false), true) := by unfold stpQ; rw [if_pos hm, if_neg hk]
        rw [e]
        exact ih (m + 1) h2 (by omega)
    · have e : (stpQ k (m, m, false) y).2 = false := by unfold stpQ; rw [if_neg hm]
      rw [e] at hs; cases hs
theorem runs_q {k : Int} {yss : List (List Value)} : ∀ (l : List (List Value)) (m : Nat), yss.drop m = l → m ≤ yss.length → (k < 0 ∨ (m : Int) ≤ k) → m ≤ 16384 → runs (stpQ k) (m, m, false) l = finQ k yss.length := by
  intro l
  induction l with
  | nil =>
    intro m h hm hk h6
    have hT : yss.length = m := by
      have := congrArg List.length h
      simp at this
      omega
    unfold finQ
    rw [hT, if_neg (by omega), if_pos h6]
    rfl
  | cons y r ih =>
    intro m h hm hk h6
    obtain ⟨h1, h2, h3⟩ := drop_at h
    rw [runs]
    by_cases hm6 : m < 16384
    · by_cases hkm : 0 ≤ k ∧ k ≤ m
      · have e : stpQ k (m, m, false) y = ((m + 1, m, false), false) := by unfold stpQ; rw [if_pos hm6, if_pos hkm]
        rw [e, if_neg (by simp)]
        unfold finQ
        rw [if_pos (by omega), show k.toNat = m by omega]
      · have e : stpQ k (m, m, false) y = ((m + 1, m + 1, false), true) := by unfold stpQ; rw [if_pos hm6, if_neg hkm]
        rw [e, if_pos rfl]
        exact ih (m + 1) h2 (by omega) (by omega) (by omega)
    · have hm0 : m = 16384 := by omega
      subst hm0
      by_cases hkm : 0 ≤ k ∧ k ≤ ((16384 : Nat) : Int)
      · have e : stpQ k (16384, 16384, false) y = ((16385, 16384, false), false) := by
          unfold stpQ
          rw [if_neg (by simp)]
          have : (decide (0 ≤ k ∧ k ≤ ((16384 : Nat) : Int))) = true := decide_eq_true hkm
          simp only [this]
          rfl
        rw [e, if_neg (by simp)]
        unfold finQ
        rw [if_pos (by omega), show k.toNat = 16384 by omega]
      · have e : stpQ k (16384, 16384, false) y = ((16385, 16384, true), false) := by
          unfold stpQ
          rw [if_neg (by simp)]
          have : (decide (0 ≤ k ∧ k ≤ ((16384 : Nat) : Int))) = false := decide_eq_false hkm
          simp only [this]
          rfl
        rw [e, if_neg (by simp)]
        unfold finQ
        rw [if_neg (by omega), if_neg (by omega)]
end Go.Proofs.YtafgbgdehpcapaaGreatFmt
