/-
  n010_117, in plain terms: valid bytes, lines, the line that is the stop word, the scan of a regular expression.
-/
import Derived.Test.YtnjaeooblfihbaaFmtMb
namespace Go.Proofs.YtnjaeooblfihbaaFmt
open Go.RowKit

/-- All bytes of a rune of more than one byte are high. -/
theorem mb_high {bs : List UInt8} {a : Nat} (h : MB bs a) : ∀ x ∈ bs, 128 ≤ x.toNat := by
  obtain ⟨h1, h2⟩ := h
  obtain ⟨_, _, h3, _⟩ := mb_facts ⟨h1, h2⟩
  have key : ∀ k, k < bs.length → 128 ≤ byAt bs k := by
    intro k hk
    unfold dcN Lib.decodeN at h2
    have q0 : ¬ byAt bs 0 < 128 := by
      intro hc
      rw [if_pos hc] at h2
      have := congrArg Prod.snd h2
      simp at this
      omega
    rw [if_neg q0] at h2
    split at h2
    · split at h2
      · have := congrArg Prod.snd h2
        simp at this
        match k, hk with
        | 0, _ => omega
        | 1, _ => omega
        | k + 2, hk => omega
      · have := congrArg Prod.snd h2
        simp at this
        omega
    · split at h2
      · split at h2
        · have := congrArg Prod.snd h2
          simp at this
          match k, hk with
          | 0, _ => omega
          | 1, _ => omega
          | 2, _ => omega
          | k + 3, hk => omega
        · have := congrArg Prod.snd h2
          simp at this
          omega
      · split at h2
        · split at h2
          · have := congrArg Prod.snd h2
            simp at this
            match k, hk with
            | 0, _ => omega
            | 1, _ => omega
            | 2, _ => omega
            | 3, _ => omega
            | k + 4, hk => omega
          · have := congrArg Prod.snd h2
            simp at this
            omega
        · have := congrArg Prod.snd h2
          simp at this
          omega
  intro x hx
  obtain ⟨k, hk, rfl⟩ := List.getElem_of_mem hx
  have := key k hk
  unfold byAt at this
  rw [List.getElem?_eq_getElem hk] at this
  exact this

theorem by0 (x : UInt8) (l : List UInt8) : byAt (x :: l) 0 = x.toNat := rfl
theorem by1 (x y : UInt8) (l : List UInt8) : byAt (x :: y :: l) 1 = y.toNat := rfl
theorem by2 (x y z : UInt8) (l : List UInt8) : byAt (x :: y :: z :: l) 2 = z.toNat := rfl
theorem by3 (x y z v : UInt8) (l : List UInt8) : byAt (x :: y :: z :: v :: l) 3 = v.toNat := rfl

theorem mb_2 {x y : UInt8} (h1 : 194 ≤ x.toNat) (h2 : x.toNat ≤ 223) (h3 : 128 ≤ y.toNat) (h4 : y.toNat ≤ 191) : ∃ a, MB [x, y] a := by
  refine ⟨x.toNat % 32 * 64 + y.toNat % 64, by simp, ?_⟩
  unfold dcN
  rw [by0, by1, show ([x, y] : List UInt8).length = 2 from rfl]
  unfold Lib.decodeN
  rw [if_neg (by omega), if_pos (by omega), if_pos (by omega)]
theorem mb_3 {x y z : UInt8} (h1 : 224 ≤ x.toNat) (h2 : x.toNat ≤ 239) (h3 : 128 ≤ y.toNat) (h4 : y.toNat ≤ 191) (h5 : x.toNat = 224 → 160 ≤ y.toNat) (h6 : x.toNat = 237 → y.toNat ≤ 159) (h7 : 128 ≤ z.toNat) (h8 : z.toNat ≤ 191) : ∃ a, MB [x, y, z] a := by
  refine ⟨x.toNat % 16 * 4096 + y.toNat % 64 * 64 + z.toNat % 64, by simp, ?_⟩
  unfold dcN
  rw [by0, by1, by2, show ([x, y, z] : List UInt8).length = 3 from rfl]
  unfold Lib.decodeN
  rw [if_neg (by omega), if_neg (by omega), if_pos (by omega), if_pos (by omega)]
theorem mb_4 {x y z v : UInt8} (h1 : 240 ≤ x.toNat) (h2 : x.toNat ≤ 244) (h3 : 128 ≤ y.toNat) (h4 : y.toNat ≤ 191) (h5 : x.toNat = 240 → 144 ≤ y.toNat) (h6 : x.toNat = 244 → y.toNat ≤ 143) (h7 : 128 ≤ z.toNat) (h8 : z.toNat ≤ 191) (h9 : 128 ≤ v.toNat) (h10 : v.toNat ≤ 191) : ∃ a, MB [x, y, z, v] a := by
  refine ⟨x.toNat % 8 * 262144 + y.toNat % 64 * 4096 + z.toNat % 64 * 64 + v.toNat % 64, by simp, ?_⟩
  unfold dcN
  rw [by0, by1, by2, by3, show ([x, y, z, v] : List UInt8).length = 4 from rfl]
  unfold Lib.decodeN
  rw [if_neg (by omega), if_neg (by omega), if_neg (by omega), if_pos (by omega), if_pos (by omega)]

/-- Valid UTF-8 without NUL. -/
inductive Vd : List UInt8 → Prop
  | nil : Vd []
  | asc (x : UInt8) (t : List UInt8) (h1 : x.toNat < 128) (h2 : x.toNat ≠ 0) (h : Vd t) : Vd (x :: t)
  | mb (bs t : List UInt8) (a : Nat) (hm : MB bs a) (h : Vd t) : Vd (bs ++ t)

/-- No byte a is followed by byte b. -/
def NoPair (a b : UInt8) (s : List UInt8) : Prop := ∀ i, s[i]? = some a → s[i + 1]? ≠ some b
theorem NoPair.tail {a b x : UInt8} {t : List UInt8} (h : NoPair a b (x :: t)) : NoPair a b t := fun i hi => h (i + 1) hi
theorem NoPair.drop {a b : UInt8} {s : List UInt8} (h : NoPair a b s) (n : Nat) : NoPair a b (s.drop n) := fun i hi => by
  rw [List.getElem?_drop] at hi ⊢
  exact h (n + i) hi
theorem NoPair.app {a b : UInt8} {s t : List UInt8} (h : NoPair a b (s ++ t)) : NoPair a b t := fun i hi => by
  have h1 := h (s.length + i) (by rw [List.getElem?_append_right (by omega), Nat.add_sub_cancel_left]; exact hi)
  rw [show s.length + i + 1 = s.length + (i + 1) by omega, List.getElem?_append_right (by omega), Nat.add_sub_cancel_left] at h1
  exact h1

/-- The line at the head. -/
def lineOf : List UInt8 → List UInt8
  | [] => []
  | x :: t => if x = 10 then [] else x :: lineOf t
theorem lineOf_no10 (t : List UInt8) : (10 : UInt8) ∉ lineOf t := by
  induction t with
  | nil => simp [lineOf]
  | cons x t ih =>
    unfold lineOf
    split
    · simp
    · rename_i h
      simp only [List.mem_cons, not_or]
      exact ⟨fun e => h e.symm, ih⟩
theorem lineOf_app {l t : List UInt8} (h : (10 : UInt8) ∉ l) : lineOf (l ++ t) = l ++ lineOf t := by
  induction l with
  | nil => rfl
  | cons x l ih =>
    simp only [List.mem_cons, not_or] at h
    rw [List.cons_append, lineOf, if_neg (fun e => h.1 e.symm), ih h.2]
    rfl
theorem lineOf_stop {l t : List UInt8} (h : (10 : UInt8) ∉ l) : lineOf (l ++ 10 :: t) = l := by
  rw [lineOf_app h, lineOf, if_pos rfl, List.append_nil]
theorem lineOf_all {l : List UInt8} (h : (10 : UInt8) ∉ l) : lineOf l = l := by
  have := lineOf_app (t := []) h
  simpa [lineOf] using this
/-- What is behind the line. -/
theorem lineOf_split (t : List UInt8) : (t = lineOf t) ∨ ∃ v, t = lineOf t ++ 10 :: v := by
  induction t with
  | nil => exact .inl rfl
  | cons x t ih =>
    unfold lineOf
    split
    · rename_i h
      exact .inr ⟨t, by rw [h]; rfl⟩
    · rcases ih with h | ⟨v, h⟩
      · exact .inl (by rw [← h])
      · exact .inr ⟨v, by rw [List.cons_append, ← h]⟩

/-- A line begins at a. -/
def LineAt (s : List UInt8) (a : Nat) : Prop := a = 0 ∨ (0 < a ∧ s[a - 1]? = some 10)
/-- The line that begins at a is the stop word. -/
def Hit (s stop : List UInt8) (a : Nat) : Prop := a < s.length ∧ LineAt s a ∧ lineOf (s.drop a) = stop
/-- The first such. -/
def First (s stop : List UInt8) (a : Nat) : Prop := Hit s stop a ∧ ∀ b, b < a → ¬ Hit s stop b
/-- No such line ahead of a. -/
def Free (s stop : List UInt8) (a : Nat) : Prop := ∀ b, b < a → ¬ Hit s stop b
theorem first_one {s stop : List UInt8} {a b : Nat} (h : First s stop a) (k : First s stop b) : a = b := by
  rcases Nat.lt_trichotomy a b with q | q | q
  · exact absurd h.1 (k.2 a q)
  · exact q
  · exact absurd k.1 (h.2 b q)
theorem free_zero (s stop : List UInt8) : Free s stop 0 := fun b hb => by omega
/-- From one line's begin to the next. -/
theorem free_next {s stop : List UInt8} {a : Nat} (hf : Free s stop a) (hn : lineOf (s.drop a) ≠ stop) : Free s stop (a + (lineOf (s.drop a)).length + 1) := by
  intro b hb hh
  rcases Nat.lt_trichotomy b a with q | q | q
  · exact hf b q hh
  · subst q
    exact hn hh.2.2
  · obtain ⟨h1, h2, _⟩ := hh
    rcases h2 with h2 | ⟨h2, h3⟩
    · omega
    · have hlen : b - 1 - a < (lineOf (s.drop a)).length := by omega
      have e : (lineOf (s.drop a))[b - 1 - a]? = some 10 := by
        rcases lineOf_split (s.drop a) with h | ⟨v, h⟩
        · rw [← h, List.getElem?_drop, show a + (b - 1 - a) = b - 1 by omega]
          exact h3
        · have h4 : (s.drop a)[b - 1 - a]? = some 10 := by
            rw [List.getElem?_drop, show a + (b - 1 - a) = b - 1 by omega]
            exact h3
          rw [h, List.getElem?_append_left hlen] at h4
          exact h4
      exact lineOf_no10 _ (List.mem_of_getElem? e)
theorem free_none {s stop : List UInt8} {a : Nat} (hf : Free s stop a) (ha : s.length ≤ a) : ∀ b, ¬ Hit s stop b := by
  intro b hh
  rcases Nat.lt_or_ge b a with q | q
  · exact hf b q hh
  · have := hh.1
    omega

/-- What the stop word may not be. -/
def StOk (stop : List UInt8) : Prop := (∀ x t, stop = x :: t → x.toNat < 128) ∧ stop ≠ [92] ∧ stop ≠ [10, 92]

/-- The scan of a regular expression: token, place, state, open parentheses; e: a backslash is just ahead. -/
def reL : Bool → List UInt8 → Int → Nat → Int × Nat × Int × Int
  | _, [], d, n => (4, n, 1, d)
  | true, _ :: t, d, n => reL false t d (n + 1)
  | false, x :: t, d, n =>
    if x = 92 then reL true t d (n + 1)
    else if x = 40 then reL false t (d + 1) (n + 1)
    else if x = 41 then (if d - 1 < 0 then (4, n, 8192, d - 1) else reL false t (d - 1) (n + 1))
    else if x = 32 ∨ x = 9 ∨ x = 13 ∨ x = 10 ∨ x = 59 ∨ x = 38 ∨ x = 62 ∨ x = 60 then (if d ≤ 0 then (4, n, 8192, d) else reL false t d (n + 1))
    else if x = 34 ∨ x = 39 ∨ x = 36 ∨ x = 96 then (3, n, 16384, d)
    else reL false t d (n + 1)
theorem reL_ext (t : List UInt8) : ∀ (s : List UInt8) (e : Bool) (d : Int) (n : Nat), (reL e s d n).2.2.1 ≠ 1 → reL e (s ++ t) d n = reL e s d n
  | [], e, d, n, h => by cases e <;> exact absurd rfl h
  | x :: s, true, d, n, h => by
    rw [List.cons_append, reL, reL]
    rw [reL] at h
    exact reL_ext t s _ _ _ h
  | x :: s, false, d, n, h => by
    rw [List.cons_append, reL, reL]
    rw [reL] at h
    by_cases h1 : x = 92
    · rw [if_pos h1] at h ⊢; rw [if_pos h1]; exact reL_ext t s _ _ _ h
    rw [if_neg h1] at h ⊢; rw [if_neg h1]
    by_cases h2 : x = 40
    · rw [if_pos h2] at h ⊢; rw [if_pos h2]; exact reL_ext t s _ _ _ h
    rw [if_neg h2] at h ⊢; rw [if_neg h2]
    by_cases h3 : x = 41
    · rw [if_pos h3] at h ⊢; rw [if_pos h3]
      by_cases h4 : d - 1 < 0
      · rw [if_pos h4, if_pos h4]
      · rw [if_neg h4] at h ⊢; rw [if_neg h4]; exact reL_ext t s _ _ _ h
    rw [if_neg h3] at h ⊢; rw [if_neg h3]
    by_cases h5 : x = 32 ∨ x = 9 ∨ x = 13 ∨ x = 10 ∨ x = 59 ∨ x = 38 ∨ x = 62 ∨ x = 60
    · rw [if_pos h5] at h ⊢; rw [if_pos h5]
      by_cases h4 : d ≤ 0
      · rw [if_pos h4, if_pos h4]
      · rw [if_neg h4] at h ⊢; rw [if_neg h4]; exact reL_ext t s _ _ _ h
    rw [if_neg h5] at h ⊢; rw [if_neg h5]
    by_cases h6 : x = 34 ∨ x = 39 ∨ x = 36 ∨ x = 96
    · rw [if_pos h6, if_pos h6]
    · rw [if_neg h6] at h ⊢; rw [if_neg h6]; exact reL_ext t s _ _ _ h
theorem reL_le : ∀ (s : List UInt8) (e : Bool) (d : Int) (n : Nat), n ≤ (reL e s d n).2.1 ∧ (reL e s d n).2.1 ≤ n + s.length
  | [], e, d, n => by cases e <;> simp [reL]
  | x :: s, true, d, n => by
    rw [reL]
    have := reL_le s false d (n + 1)
    simp only [List.length_cons]
    omega
  | x :: s, false, d, n => by
    rw [reL]
    have h1 := fun e d => reL_le s e d (n + 1)
    simp only [List.length_cons]
    split
    · have := h1 true d; omega
    split
    · have := h1 false (d + 1); omega
    split
    · split
      · simp
      · have := h1 false (d - 1); omega
    split
    · split
      · simp
      · have := h1 false d; omega
    split
    · simp
    · have := h1 false d; omega
/-- High bytes are passed over. -/
theorem reL_high {bs : List UInt8} (h : ∀ x ∈ bs, 128 ≤ x.toNat) (u : List UInt8) (d : Int) (n : Nat) : reL false (bs ++ u) d n = reL false u d (n + bs.length) := by
  induction bs generalizing n with
  | nil => rfl
  | cons x bs ih =>
    have hx := h x (by simp)
    have hne : ∀ c : UInt8, c.toNat < 128 → x ≠ c := fun c hc e => by rw [e] at hx; omega
    rw [List.cons_append, reL, if_neg (hne 92 (by decide)), if_neg (hne 40 (by decide)), if_neg (hne 41 (by decide)), if_neg (by
      simp only [not_or]
      exact ⟨hne _ (by decide), hne _ (by decide), hne _ (by decide), hne _ (by decide), hne _ (by decide), hne _ (by decide), hne _ (by decide), hne _ (by decide)⟩), if_neg (by
      simp only [not_or]
      exact ⟨hne _ (by decide), hne _ (by decide), hne _ (by decide), hne _ (by decide)⟩), ih (fun y hy => h y (by simp [hy])) (n + 1)]
    congr 1
    simp only [List.length_cons]
    omega
theorem reL_high_esc {bs : List UInt8} (h : ∀ x ∈ bs, 128 ≤ x.toNat) (h0 : bs ≠ []) (u : List UInt8) (d : Int) (n : Nat) : reL true (bs ++ u) d n = reL false u d (n + bs.length) := by
  cases bs with
  | nil => exact absurd rfl h0
  | cons x bs =>
    rw [List.cons_append, reL, reL_high (fun y hy => h y (by simp [hy]))]
    congr 1
    simp only [List.length_cons]
    omega

/-- The width of a rune of more than one byte. -/
theorem mb_len {bs : List UInt8} {a : Nat} (h : MB bs a) : (bs.length = 2 ∧ a < 2048) ∨ (bs.length = 3 ∧ 2048 ≤ a ∧ a < 65536 ∧ ¬ (55296 ≤ a ∧ a ≤ 57343)) ∨ (bs.length = 4 ∧ 65536 ≤ a) := by
  obtain ⟨h1, h2⟩ := h
  unfold dcN Lib.decodeN at h2
  split at h2
  · have := congrArg Prod.snd h2; simp at this; omega
  split at h2
  · split at h2
    · have e1 := congrArg Prod.fst h2; have e2 := congrArg Prod.snd h2
      simp only at e1 e2
      left; omega
    · have := congrArg Prod.snd h2; simp at this; omega
  split at h2
  · split at h2
    · have e1 := congrArg Prod.fst h2; have e2 := congrArg Prod.snd h2
      simp only at e1 e2
      right; left; omega
    · have := congrArg Prod.snd h2; simp at this; omega
  split at h2
  · split at h2
    · have e1 := congrArg Prod.fst h2; have e2 := congrArg Prod.snd h2
      simp only at e1 e2
      right; right; omega
    · have := congrArg Prod.snd h2; simp at this; omega
  · have := congrArg Prod.snd h2; simp at this; omega
end Go.Proofs.YtnjaeooblfihbaaFmt
