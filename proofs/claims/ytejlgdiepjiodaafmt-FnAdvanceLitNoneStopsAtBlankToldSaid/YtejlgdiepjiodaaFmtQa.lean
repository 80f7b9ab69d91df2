/-
  advanceLitDquote: what it reads of ASCII bytes, in plain terms, and rune by rune.
-/
import Derived.Test.YtejlgdiepjiodaaFmtSl
namespace Go.Proofs.YtejlgdiepjiodaaFmt
open Go.RowKit

/-- The literal that is read off the bytes, its token, the rune at which it ends; b: the rune ahead is a backslash. -/
def dqL : Bool → List UInt8 → List UInt8 × Int × Int
  | _, [] => ([], 4, 1114112)
  | b, x :: u =>
    if x = 34 then ([], 4, 34)
    else if x = 96 ∨ x = 36 then ([], 3, x.toNat)
    else if x = 92 then
      (if b = false ∧ u.head? = some 10 then ([], 3, 1114113)
      else match u with
        | [] => ([92], 4, 1114112)
        | c :: t => (92 :: c :: (dqL (c == 92) t).1, (dqL (c == 92) t).2))
    else (x :: (dqL false u).1, (dqL false u).2)

theorem dqL_nil (b : Bool) : dqL b [] = ([], 4, 1114112) := by rw [dqL.eq_def]
theorem dqL_34 (b : Bool) (u : List UInt8) : dqL b (34 :: u) = ([], 4, 34) := by rw [dqL.eq_def]; simp
theorem dqL_96 (b : Bool) (u : List UInt8) : dqL b (96 :: u) = ([], 3, 96) := by rw [dqL.eq_def]; simp
theorem dqL_36 (b : Bool) (u : List UInt8) : dqL b (36 :: u) = ([], 3, 36) := by rw [dqL.eq_def]; simp
theorem dqL_nl (t : List UInt8) : dqL false (92 :: 10 :: t) = ([], 3, 1114113) := by rw [dqL.eq_def]; simp
theorem dqL_92n (b : Bool) : dqL b [92] = ([92], 4, 1114112) := by rw [dqL.eq_def]; simp
theorem dqL_92 {b : Bool} {c : UInt8} {t : List UInt8} (h : ¬ (b = false ∧ c = 10)) : dqL b (92 :: c :: t) = (92 :: c :: (dqL (c == 92) t).1, (dqL (c == 92) t).2) := by rw [dqL.eq_def]; simp [h]
theorem dqL_other {b : Bool} {x : UInt8} {u : List UInt8} (h1 : x ≠ 34) (h2 : x ≠ 96) (h3 : x ≠ 36) (h4 : x ≠ 92) : dqL b (x :: u) = (x :: (dqL false u).1, (dqL false u).2) := by rw [dqL.eq_def]; simp [h1, h2, h3, h4]

theorem dq_len (b : Bool) (s : List UInt8) : (dqL b s).1 <+: s ∧ dqL b (dqL b s).1 = ((dqL b s).1, 4, 1114112) := by
  induction hn : s.length using Nat.strongRecOn generalizing b s with
  | _ n ih =>
    cases s with
    | nil => simp [dqL_nil]
    | cons x u =>
      by_cases h1 : x = 34
      · subst h1; simp [dqL_34, dqL_nil]
      by_cases h2 : x = 96
      · subst h2; simp [dqL_96, dqL_nil]
      by_cases h3 : x = 36
      · subst h3; simp [dqL_36, dqL_nil]
      by_cases h4 : x = 92
      · subst h4
        cases u with
        | nil => simp [dqL_92n]
        | cons c t =>
          by_cases h5 : b = false ∧ c = 10
          · obtain ⟨rfl, rfl⟩ := h5; simp [dqL_nl, dqL_nil]
          · obtain ⟨i1, i2⟩ := ih t.length (by simp at hn; omega) (c == 92) t rfl
            rw [dqL_92 h5]
            refine ⟨List.cons_prefix_cons.2 ⟨rfl, List.cons_prefix_cons.2 ⟨rfl, i1⟩⟩, ?_⟩
            show dqL b (92 :: c :: (dqL (c == 92) t).1) = _
            rw [dqL_92 h5, i2]
      · obtain ⟨i1, i2⟩ := ih u.length (by simp at hn; omega) false u rfl
        rw [dqL_other h1 h2 h3 h4]
        refine ⟨List.cons_prefix_cons.2 ⟨rfl, i1⟩, ?_⟩
        show dqL b (x :: (dqL false u).1) = _
        rw [dqL_other h1 h2 h3 h4, i2]

def alphaB (y : UInt8) : Prop := y.toNat < 128 ∧ y.toNat ≠ 0 ∧ y.toNat ≠ 13

/-- What rune() has come to, u being unread ahead of it and lit the literal. -/
def DqS (m : Nat) (w : World) (B pb rb : Nat) (ea : Addr) (q : Pc) (lit : Option (List UInt8)) (b : Bool) (u : List UInt8) (a : Int) : Prop :=
  (a = 1114112 ∧ u = [] ∧ ∃ k, k ≤ m ∧ LexS w B pb rb ea q 1114112 [] lit k) ∨
  (a = 1114113 ∧ ∃ t, u = 92 :: 10 :: t ∧ b = false ∧ LexS w B pb rb ea q 1114113 t lit 0) ∨
  ∃ x t, u = x :: t ∧ a = x.toNat ∧ ¬ (x = 92 ∧ b = false ∧ t.head? = some 10) ∧ LexS w B pb rb ea q x.toNat t (lit.map (· ++ [x])) 0

theorem map_nil {lit : Option (List UInt8)} : lit.map (· ++ []) = lit := by cases lit <;> simp

theorem dq_next {w : World} {B pb rb : Nat} {ea : Addr} {q : Pc} {r : Int} {u : List UInt8} {lit : Option (List UInt8)} (h : LexS w B pb rb ea q r u lit 0) (hB : 0 < B) (hr : r ≠ 1114112) (hu : ∀ y ∈ u, alphaB y) :
    Calls Tryf.prog 28 #[.pointer (some ⟨pb, 0, none⟩)] w fun e w' => ∃ a, e = .returned (.int .i32 a) ∧ DqS 1 w' B pb rb ea q lit (decide (r = 92)) u a ∧ Kr B pb rb w w' := by
  cases u with
  | nil =>
    refine (rune_s_eof h (by omega) hB).mono ?_
    rintro e w' ⟨rfl, h1, h2⟩
    exact ⟨_, rfl, .inl ⟨rfl, rfl, 1, by omega, h1⟩, h2⟩
  | cons x t =>
    have hx := hu x (by simp)
    have key : ∀ (_ : Nx r (x :: t) x.toNat 1 [x] t 0) (_ : ¬ (x = 92 ∧ decide (r = 92) = false ∧ t.head? = some 10)), Calls Tryf.prog 28 #[.pointer (some ⟨pb, 0, none⟩)] w fun e w' => ∃ a, e = .returned (.int .i32 a) ∧ DqS 1 w' B pb rb ea q lit (decide (r = 92)) (x :: t) a ∧ Kr B pb rb w w' := by
      intro hn hc
      refine (rune_s h (by omega) hB hr hn).mono ?_
      rintro e w' ⟨rfl, h1, h2⟩
      exact ⟨_, rfl, .inr (.inr ⟨x, t, rfl, rfl, hc, h1⟩), h2⟩
    by_cases h92 : x = 92
    · subst h92
      by_cases hr2 : r = 92
      · exact key (.same t hr2) (by simp [hr2])
      · cases ht : t with
        | nil => rw [ht] at key; exact key (.other [] hr2 (by simp) (by simp)) (by simp)
        | cons y t2 =>
          by_cases hy : y = 10
          · subst hy ht
            refine (rune_s h (by omega) hB hr (.nl t2 hr2)).mono ?_
            rintro e w' ⟨rfl, h1, h2⟩
            rw [map_nil] at h1
            exact ⟨_, rfl, .inr (.inl ⟨rfl, t2, rfl, by simpa using hr2, h1⟩), h2⟩
          · have hy13 : y ≠ 13 := fun e => by
              have := (hu y (by simp [ht])).2.2
              rw [e] at this
              exact this rfl
            rw [ht] at key
            exact key (.other (y :: t2) hr2 (by simpa using hy) (by simp [hy13])) (by simp [hy])
    · exact key (.plain x t hx.1 hx.2.1 hx.2.2 (fun e => h92 (UInt8.toNat_inj.1 e))) (by simp [h92])

theorem DqS.up {w : World} {B pb rb : Nat} {ea : Addr} {q : Pc} {lit : Option (List UInt8)} {b : Bool} {u : List UInt8} {a : Int} (h : DqS 1 w B pb rb ea q lit b u a) : DqS 2 w B pb rb ea q lit b u a := by
  rcases h with ⟨h1, h2, k, hk, h⟩ | h
  · exact .inl ⟨h1, h2, k, by omega, h⟩
  · exact .inr h

/-- newLit where the first rune stands. -/
theorem dq_newlit {m : Nat} {w : World} {B pb rb : Nat} {ea : Addr} {q : Pc} {b : Bool} {u : List UInt8} {a : Int} (h : DqS m w B pb rb ea q none b u a) (hB : 0 < B) (hu : ∀ y ∈ u, alphaB y) (hl : u.length ≤ 100000000) :
    Calls Tryf.prog 42 #[.pointer (some ⟨pb, 0, none⟩), .int .i32 a] w fun e w' => e = .returned (.tuple #[]) ∧ DqS m w' B pb rb ea q (some []) b u a ∧ Kr B pb rb w w' := by
  rcases h with ⟨rfl, rfl, k, hk, h⟩ | ⟨rfl, t, rfl, rfl, h⟩ | ⟨x, t, rfl, rfl, hc, h⟩
  · refine (newlit_s_eof h hB (.inl rfl) (by simp)).mono ?_
    rintro e w' ⟨rfl, h1, h2⟩
    exact ⟨rfl, .inl ⟨rfl, rfl, k, hk, h1⟩, Kr.of h2 (by simp)⟩
  · refine (newlit_s_eof h hB (.inr rfl) (by simp at hl; omega)).mono ?_
    rintro e w' ⟨rfl, h1, h2⟩
    exact ⟨rfl, .inr (.inl ⟨rfl, t, rfl, rfl, h1⟩), Kr.of h2 (by simp)⟩
  · refine (newlit_s h hB (hu x (by simp)).1 (by simp at hl; omega)).mono ?_
    rintro e w' ⟨rfl, h1, h2⟩
    exact ⟨rfl, .inr (.inr ⟨x, t, rfl, rfl, hc, h1⟩), Kr.of h2 (by simp)⟩
end Go.Proofs.YtejlgdiepjiodaaFmt
