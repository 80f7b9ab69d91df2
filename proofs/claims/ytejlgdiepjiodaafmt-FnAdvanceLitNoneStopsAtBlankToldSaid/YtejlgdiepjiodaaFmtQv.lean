/-
  advanceLitNone in POSIX shell, outside of all quotes: in plain terms, and rune by rune.
-/
import Derived.Test.YtejlgdiepjiodaaFmtQu
namespace Go.Proofs.YtejlgdiepjiodaaFmt
open Go.RowKit

/-- Runes at which a word ends. -/
def stopN (x : UInt8) : Prop := x = 32 ∨ x = 9 ∨ x = 10 ∨ x = 38 ∨ x = 124 ∨ x = 59 ∨ x = 41 ∨ x = 40
def litN (x : UInt8) : Prop := x = 96 ∨ x = 34 ∨ x = 39 ∨ x = 36
def globN (x : UInt8) : Prop := x = 63 ∨ x = 42 ∨ x = 43 ∨ x = 64 ∨ x = 33
instance (x : UInt8) : Decidable (stopN x) := by unfold stopN; infer_instance
instance (x : UInt8) : Decidable (litN x) := by unfold litN; infer_instance
instance (x : UInt8) : Decidable (globN x) := by unfold globN; infer_instance

/-- Token, value, the place of '=', the rune at which it rests; L: what is read, e: the place of '=' so far. -/
def noF : List UInt8 → Int → List UInt8 → Int × List UInt8 × Int × Int
  | L, e, [] => (4, L, e, 1114112)
  | L, e, x :: u =>
    if x = 13 then (4, L, e, if u.head? = some 10 then 10 else 13)
    else if stopN x then (4, L, e, x.toNat)
    else if x = 62 ∨ x = 60 then (if (hd2 u).1 = 40 then 3 else if litR L then 5 else 4, L, e, x.toNat)
    else if litN x then (3, L, e, x.toNat)
    else if globN x ∧ egB u = true then (3, L, e, x.toNat)
    else noF (L ++ [x]) (if x = 61 ∧ e < 0 then (L.length : Int) else e) u

theorem noF_cr {L u : List UInt8} {e : Int} (h : u.head? ≠ some 10) : noF L e (13 :: u) = (4, L, e, 13) := by rw [noF]; simp [h]
theorem noF_crlf {L u : List UInt8} {e : Int} : noF L e (13 :: 10 :: u) = (4, L, e, 10) := by rw [noF]; simp
theorem noF_stop {L u : List UInt8} {e : Int} {x : UInt8} (h : stopN x) : noF L e (x :: u) = (4, L, e, (x.toNat : Int)) := by
  have h13 : x ≠ 13 := by rintro rfl; revert h; decide
  rw [noF]; simp [h, h13]
theorem noF_redir {L u : List UInt8} {e : Int} {x : UInt8} (h : x = 62 ∨ x = 60) : noF L e (x :: u) = (if (hd2 u).1 = 40 then 3 else if litR L then 5 else 4, L, e, (x.toNat : Int)) := by
  have h13 : x ≠ 13 := by rintro rfl; revert h; decide
  have h1 : ¬ stopN x := by rcases h with rfl | rfl <;> decide
  rw [noF]; simp [h, h13, h1]
theorem noF_lit {L u : List UInt8} {e : Int} {x : UInt8} (h : litN x) : noF L e (x :: u) = (3, L, e, (x.toNat : Int)) := by
  have h13 : x ≠ 13 := by rintro rfl; revert h; decide
  have h1 : ¬ stopN x := by rcases h with rfl | rfl | rfl | rfl <;> decide
  have h2 : ¬ (x = 62 ∨ x = 60) := by rcases h with rfl | rfl | rfl | rfl <;> decide
  rw [noF]; simp [h, h13, h1, h2]
theorem noF_glob {L u : List UInt8} {e : Int} {x : UInt8} (h : globN x) : noF L e (x :: u) = if egB u = true then (3, L, e, (x.toNat : Int)) else noF (L ++ [x]) e u := by
  have h13 : x ≠ 13 := by rintro rfl; revert h; decide
  have h61 : x ≠ 61 := by rintro rfl; revert h; decide
  have h1 : ¬ stopN x := by rcases h with rfl | rfl | rfl | rfl | rfl <;> decide
  have h2 : ¬ (x = 62 ∨ x = 60) := by rcases h with rfl | rfl | rfl | rfl | rfl <;> decide
  have h3 : ¬ litN x := by rcases h with rfl | rfl | rfl | rfl | rfl <;> decide
  rw [noF]; simp [h, h13, h1, h2, h3, h61]
theorem noF_eq {L u : List UInt8} {e : Int} : noF L e (61 :: u) = noF (L ++ [61]) (if e < 0 then (L.length : Int) else e) u := by
  have h1 : ¬ stopN 61 := by decide
  have h3 : ¬ litN 61 := by decide
  have h4 : ¬ globN 61 := by decide
  rw [noF]; simp [h1, h3, h4]
theorem noF_other {L u : List UInt8} {e : Int} {x : UInt8} (h0 : x ≠ 13) (h1 : ¬ stopN x) (h2 : ¬ (x = 62 ∨ x = 60)) (h3 : ¬ litN x) (h4 : ¬ globN x) (h5 : x ≠ 61) : noF L e (x :: u) = noF (L ++ [x]) e u := by
  rw [noF]; simp [h0, h1, h2, h3, h4, h5]

/-- The bytes of a word. -/
def alN (y : UInt8) : Prop := y.toNat < 128 ∧ y.toNat ≠ 0 ∧ y.toNat ≠ 92
def noOk (u : List UInt8) : Prop := ∃ w x, u = w ++ 32 :: x ∧ ∀ y ∈ w, alN y

theorem noOk_head {x : UInt8} {u : List UInt8} (h : noOk (x :: u)) : alN x := by
  obtain ⟨w, z, e, hw⟩ := h
  cases w with
  | nil => cases e; exact ⟨by decide, by decide, by decide⟩
  | cons y w => cases e; exact hw _ (by simp)
theorem noOk_tail {x : UInt8} {u : List UInt8} (h : noOk (x :: u)) (hx : ¬ stopN x) : noOk u := by
  obtain ⟨w, z, e, hw⟩ := h
  cases w with
  | nil => cases e; exact absurd (.inl rfl) hx
  | cons y w => cases e; exact ⟨w, z, rfl, fun y hy => hw y (by simp [hy])⟩
theorem noOk_ne {u : List UInt8} (h : noOk u) : u ≠ [] := by
  obtain ⟨w, z, rfl, _⟩ := h
  simp

theorem hd2_same {w x y : List UInt8} (h : w ≠ [] ∨ True) : (hd2 (w ++ 32 :: x)).1 = (hd2 (w ++ 32 :: y)).1 ∧ egB (w ++ 32 :: x) = egB (w ++ 32 :: y) := by
  match w with
  | [] =>
    have e : ∀ z : List UInt8, (hd2 ([] ++ 32 :: z)).1 = 32 := fun z => by cases z <;> rfl
    refine ⟨by rw [e, e], ?_⟩
    unfold egB
    rw [e, e]
    simp
  | [a] => exact ⟨rfl, rfl⟩
  | a :: b :: w => exact ⟨rfl, rfl⟩

theorem noF_same (x y : List UInt8) : ∀ (w L : List UInt8) (e : Int), noF L e (w ++ 32 :: x) = noF L e (w ++ 32 :: y) ∧ L <+: (noF L e (w ++ 32 :: x)).2.1 ∧ (noF L e (w ++ 32 :: x)).2.1 <+: L ++ w
  | [], L, e => by
    have h : ∀ z : List UInt8, noF L e ([] ++ 32 :: z) = (4, L, e, 32) := fun z => noF_stop (.inl rfl)
    rw [h, h]
    exact ⟨rfl, List.prefix_refl _, by simp⟩
  | c :: w, L, e => by
    have hh := hd2_same (w := w) (x := x) (y := y) (.inr trivial)
    have ends : ∀ (t : Int) (r : Int), noF L e (c :: (w ++ 32 :: x)) = (t, L, e, r) → noF L e (c :: (w ++ 32 :: y)) = (t, L, e, r) → noF L e ((c :: w) ++ 32 :: x) = noF L e ((c :: w) ++ 32 :: y) ∧ L <+: (noF L e ((c :: w) ++ 32 :: x)).2.1 ∧ (noF L e ((c :: w) ++ 32 :: x)).2.1 <+: L ++ (c :: w) := by
      intro t r h1 h2
      show noF L e (c :: (w ++ 32 :: x)) = noF L e (c :: (w ++ 32 :: y)) ∧ L <+: (noF L e (c :: (w ++ 32 :: x))).2.1 ∧ (noF L e (c :: (w ++ 32 :: x))).2.1 <+: _
      rw [h1, h2]
      exact ⟨rfl, List.prefix_refl _, List.prefix_append _ _⟩
    have goes : ∀ (e' : Int), noF L e (c :: (w ++ 32 :: x)) = noF (L ++ [c]) e' (w ++ 32 :: x) → noF L e (c :: (w ++ 32 :: y)) = noF (L ++ [c]) e' (w ++ 32 :: y) → noF L e ((c :: w) ++ 32 :: x) = noF L e ((c :: w) ++ 32 :: y) ∧ L <+: (noF L e ((c :: w) ++ 32 :: x)).2.1 ∧ (noF L e ((c :: w) ++ 32 :: x)).2.1 <+: L ++ (c :: w) := by
      intro e' h1 h2
      obtain ⟨i1, i2, i3⟩ := noF_same x y w (L ++ [c]) e'
      show noF L e (c :: (w ++ 32 :: x)) = noF L e (c :: (w ++ 32 :: y)) ∧ L <+: (noF L e (c :: (w ++ 32 :: x))).2.1 ∧ (noF L e (c :: (w ++ 32 :: x))).2.1 <+: _
      rw [h1, h2]
      exact ⟨i1, (List.prefix_append _ _).trans i2, by simpa using i3⟩
    by_cases h13 : c = 13
    · subst h13
      by_cases hu : (w ++ 32 :: x).head? = some 10
      · have hu2 : (w ++ 32 :: y).head? = some 10 := by
          cases w with
          | nil => simp at hu
          | cons => simpa using hu
        exact ends 4 10 (by rw [noF]; simp [hu]) (by rw [noF]; simp [hu2])
      · have hu2 : ¬ (w ++ 32 :: y).head? = some 10 := by
          cases w with
          | nil => simp
          | cons => simpa using hu
        exact ends 4 13 (noF_cr hu) (noF_cr hu2)
    by_cases h1 : stopN c
    · exact ends _ _ (noF_stop h1) (noF_stop h1)
    by_cases h2 : c = 62 ∨ c = 60
    · exact ends _ _ (noF_redir h2) (by rw [noF_redir h2, hh.1])
    by_cases h3 : litN c
    · exact ends _ _ (noF_lit h3) (noF_lit h3)
    by_cases h4 : globN c
    · cases he : egB (w ++ 32 :: x) with
      | true => exact ends 3 c.toNat (by rw [noF_glob h4, he]; rfl) (by rw [noF_glob h4, ← hh.2, he]; rfl)
      | false => exact goes e (by rw [noF_glob h4, he]; rfl) (by rw [noF_glob h4, ← hh.2, he]; rfl)
    by_cases h5 : c = 61
    · subst h5
      exact goes _ noF_eq noF_eq
    · exact goes e (noF_other h13 h1 h2 h3 h4 h5) (noF_other h13 h1 h2 h3 h4 h5)

/-- What rune() has come to. -/
def NoS (w : World) (B pb rb : Nat) (ea : Addr) (q : Pc) (lit : Option (List UInt8)) (u : List UInt8) (a : Int) : Prop :=
  (∃ x t, u = x :: t ∧ a = x.toNat ∧ x ≠ 13 ∧ LexS w B pb rb ea q x.toNat t (lit.map (· ++ [x])) 0) ∨
  (∃ t, u = 13 :: t ∧ t.head? ≠ some 10 ∧ a = 13 ∧ LexS w B pb rb ea q 13 t (lit.map (· ++ [13])) 0) ∨
  (∃ t, u = 13 :: 10 :: t ∧ a = 10 ∧ LexS w B pb rb ea q 10 t (lit.map (· ++ [10])) 0)

theorem no_next {w : World} {B pb rb : Nat} {ea : Addr} {q : Pc} {r : Int} {u : List UInt8} {lit : Option (List UInt8)} (h : LexS w B pb rb ea q r u lit 0) (hB : 0 < B) (hr : r ≠ 1114112) (hu : noOk u) :
    Calls Tryf.prog 28 #[.pointer (some ⟨pb, 0, none⟩)] w fun e w' => ∃ a, e = .returned (.int .i32 a) ∧ NoS w' B pb rb ea q lit u a ∧ Kr B pb rb w w' := by
  cases u with
  | nil => exact absurd rfl (noOk_ne hu)
  | cons x t =>
    have hx := noOk_head hu
    by_cases h13 : x = 13
    · subst h13
      by_cases ht : t.head? = some 10
      · obtain ⟨t2, rfl⟩ : ∃ t2, t = 10 :: t2 := by cases t with
          | nil => cases ht
          | cons y t2 => simp at ht; exact ⟨t2, by rw [ht]⟩
        refine (rune_s h (by omega) hB hr (.crlf t2 _ _ _ _ _ (.plain 10 t2 (by decide) (by decide) (by decide) (by decide)))).mono ?_
        rintro e w' ⟨rfl, h1, h2⟩
        exact ⟨_, rfl, .inr (.inr ⟨t2, rfl, rfl, h1⟩), h2⟩
      · refine (rune_s h (by omega) hB hr (.cr t (by
        cases t with
        | nil => simp
        | cons => simpa using ht))).mono ?_
        rintro e w' ⟨rfl, h1, h2⟩
        exact ⟨_, rfl, .inr (.inl ⟨t, rfl, ht, rfl, h1⟩), h2⟩
    · refine (rune_s h (by omega) hB hr (.plain x t hx.1 hx.2.1 (fun e => h13 (UInt8.toNat_inj.1 e)) hx.2.2)).mono ?_
      rintro e w' ⟨rfl, h1, h2⟩
      exact ⟨_, rfl, .inl ⟨x, t, rfl, rfl, h13, h1⟩, h2⟩

theorem no_newlit {w : World} {B pb rb : Nat} {ea : Addr} {q : Pc} {u : List UInt8} {a : Int} (h : NoS w B pb rb ea q none u a) (hB : 0 < B) (hu : noOk u) (hl : u.length ≤ 100000000) :
    Calls Tryf.prog 42 #[.pointer (some ⟨pb, 0, none⟩), .int .i32 a] w fun e w' => e = .returned (.tuple #[]) ∧ NoS w' B pb rb ea q (some []) u a ∧ Kr B pb rb w w' := by
  rcases h with ⟨x, t, rfl, rfl, h13, h⟩ | ⟨t, rfl, ht, rfl, h⟩ | ⟨t, rfl, rfl, h⟩
  · refine (newlit_s h hB (noOk_head hu).1 (by simp at hl; omega)).mono ?_
    rintro e w' ⟨rfl, h1, h2⟩
    exact ⟨rfl, .inl ⟨x, t, rfl, rfl, h13, h1⟩, Kr.of h2 (by simp)⟩
  · refine (newlit_s (x := 13) h hB (by decide) (by simp at hl; omega)).mono ?_
    rintro e w' ⟨rfl, h1, h2⟩
    exact ⟨rfl, .inr (.inl ⟨t, rfl, ht, rfl, h1⟩), Kr.of h2 (by simp)⟩
  · refine (newlit_s (x := 10) h hB (by decide) (by simp at hl; omega)).mono ?_
    rintro e w' ⟨rfl, h1, h2⟩
    exact ⟨rfl, .inr (.inr ⟨t, rfl, rfl, h1⟩), Kr.of h2 (by simp)⟩
end Go.Proofs.YtejlgdiepjiodaaFmt
