/-
  A body of whole lines, its stop word, a line's end: what the heredoc's lexer answers.
-/
import Derived.Test.YtejlgdiepjiodaaFmtQl
namespace Go.Proofs.YtejlgdiepjiodaaFmt
open Go.RowKit

/-- Some line of 'line ++ u' is the stop word; an empty rest behind the last LF is no line. -/
def someL (stop : List UInt8) : List UInt8 → List UInt8 → Bool
  | line, [] => decide (line ≠ [] ∧ line = stop)
  | line, x :: u => if x = 10 then (decide (line = stop) || someL stop [] u) else someL stop (line ++ [x]) u

theorem someL_lf {stop line u : List UInt8} : someL stop line (10 :: u) = (decide (line = stop) || someL stop [] u) := by rw [someL.eq_def]; simp
theorem someL_ne {stop line u : List UInt8} {x : UInt8} (h : x ≠ 10) : someL stop line (x :: u) = someL stop (line ++ [x]) u := by rw [someL.eq_def]; simp [h]

def plainH (y : UInt8) : Prop := plB y ∧ y ≠ 36 ∧ y ≠ 96

theorem hdF_lf {stop done line u : List UInt8} (h : line ≠ stop) : hdF stop done line (10 :: u) = hdF stop (done ++ line ++ [10]) [] u := by rw [hdF]; simp [h]
theorem hdF_stop {stop done u : List UInt8} : hdF stop done stop (10 :: u) = (if done = [] then 2 else 4, done, 10, true) := by rw [hdF]; simp
theorem hdF_ne {stop done line u : List UInt8} {x : UInt8} (h : x ≠ 10 ∧ x ≠ 36 ∧ x ≠ 96) : hdF stop done line (x :: u) = hdF stop done (line ++ [x]) u := by rw [hdF]; simp [h]
theorem hdOk_lf {stop line u : List UInt8} (h : line ≠ stop) : hdOk stop line (10 :: u) ↔ hdOk stop [] u := by
  rw [hdOk]; simp [h, plB]
theorem hdOk_stop {stop u : List UInt8} : hdOk stop stop (10 :: u) := by
  rw [hdOk]; simp [plB]
theorem hdOk_ne {stop line u : List UInt8} {x : UInt8} (h : x ≠ 10 ∧ x ≠ 36 ∧ x ≠ 96) (hx : plB x) : hdOk stop line (x :: u) ↔ hdOk stop (line ++ [x]) u := by rw [hdOk]; simp [h, hx]

theorem hd_word {stop : List UInt8} {x done : List UInt8} (hs : ∀ y ∈ stop, plainH y ∧ y ≠ 10) : ∀ t line : List UInt8, line ++ t = stop → hdF stop done line (t ++ 10 :: x) = (if done = [] then 2 else 4, done, 10, true) ∧ hdOk stop line (t ++ 10 :: x)
  | [], line, h => by
    have : line = stop := by simpa using h
    subst this
    exact ⟨hdF_stop, hdOk_stop⟩
  | y :: t, line, h => by
    have hy := hs y (by rw [← h]; simp)
    have ih := hd_word (x := x) (done := done) hs t (line ++ [y]) (by simpa using h)
    have hne : y ≠ 10 ∧ y ≠ 36 ∧ y ≠ 96 := ⟨hy.2, hy.1.2.1, hy.1.2.2⟩
    show hdF stop done line (y :: (t ++ 10 :: x)) = _ ∧ hdOk stop line (y :: (t ++ 10 :: x))
    rw [hdF_ne hne, hdOk_ne hne hy.1.1]
    exact ih

theorem hd_body {stop v : List UInt8} : ∀ u done line : List UInt8, (∀ y ∈ u, plainH y) → someL stop line u = false → ((line = [] ∧ u = []) ∨ u.getLast? = some 10) →
    hdF stop done line (u ++ v) = hdF stop (done ++ line ++ u) [] v ∧ (hdOk stop line (u ++ v) ↔ hdOk stop [] v)
  | [], done, line, _, _, he => by
    rcases he with ⟨rfl, _⟩ | he
    · simp
    · simp at he
  | y :: u, done, line, hp, hn, he => by
    have hy := hp y (by simp)
    have he : (y :: u).getLast? = some 10 := by rcases he with ⟨_, h⟩ | h; (cases h); exact h
    by_cases h10 : y = 10
    · subst h10
      rw [someL_lf, Bool.or_eq_false_iff, decide_eq_false_iff_not] at hn
      have ih := hd_body (stop := stop) (v := v) u (done ++ line ++ [10]) [] (fun z hz => hp z (by simp [hz])) hn.2 (by
        cases u with
        | nil => exact .inl ⟨rfl, rfl⟩
        | cons z u => right; simpa using he)
      show hdF stop done line (10 :: (u ++ v)) = _ ∧ (hdOk stop line (10 :: (u ++ v)) ↔ _)
      rw [hdF_lf hn.1, hdOk_lf hn.1, ih.1, ih.2]
      simp
    · have hne : y ≠ 10 ∧ y ≠ 36 ∧ y ≠ 96 := ⟨h10, hy.2.1, hy.2.2⟩
      rw [someL_ne h10] at hn
      have ih := hd_body (stop := stop) (v := v) u done (line ++ [y]) (fun z hz => hp z (by simp [hz])) hn (by
        cases u with
        | nil => simp at he; exact absurd he h10
        | cons z u => right; simpa using he)
      show hdF stop done line (y :: (u ++ v)) = _ ∧ (hdOk stop line (y :: (u ++ v)) ↔ _)
      rw [hdF_ne hne, hdOk_ne hne hy.1, ih.1, ih.2]
      simp

theorem hd_law {b stop x : List UInt8} (hb : ∀ y ∈ b, plainH y) (hs : ∀ y ∈ stop, plainH y ∧ y ≠ 10) (hn : someL stop [] b = false) (he : b = [] ∨ b.getLast? = some 10) :
    hdR stop (b ++ stop ++ 10 :: x) = (if b = [] then 2 else 4, b, 10, true) ∧ hdOk stop [] (b ++ stop ++ 10 :: x) := by
  have h1 := hd_body (stop := stop) (v := stop ++ 10 :: x) b [] [] hb hn (by rcases he with h | h; exact .inl ⟨rfl, h⟩; exact .inr h)
  have h2 := hd_word (stop := stop) (x := x) (done := b) hs stop [] rfl
  rw [hdR, if_neg (by simp), List.append_assoc]
  constructor
  · rw [h1.1]; simpa using h2.1
  · rw [h1.2]; exact h2.2
end Go.Proofs.YtejlgdiepjiodaaFmt
