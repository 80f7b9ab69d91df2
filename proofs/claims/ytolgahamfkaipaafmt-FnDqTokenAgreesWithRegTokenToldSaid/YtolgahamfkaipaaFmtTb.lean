/-
  The rune at the head of the unread bytes, and a lexer's token function as a tree: what it reads, what it answers. Plain terms.
-/
import Derived.Test.YtolgahamfkaipaaFmtMb
namespace Go.Proofs.YtolgahamfkaipaaFmt
section
open Go.RowKit

theorem dec_alt (n b0 b1 b2 b3 : Nat) (h : 128 ≤ b0) : Lib.decodeN n b0 b1 b2 b3 = (65533, 1) ∨ 2 ≤ (Lib.decodeN n b0 b1 b2 b3).2 := by
  unfold Lib.decodeN
  repeat' split
  all_goals first | (left; rfl) | (right; simp; done) | (exfalso; omega)
theorem mb_of {u : List UInt8} {a L : Nat} (h : dcN u = (a, L)) (hL : 2 ≤ L) : ∃ bs d, u = bs ++ d ∧ MB bs a ∧ bs.length = L := by
  obtain ⟨f1, f2, f3, f4, f5, f6, f7, fm, _⟩ := dec_facts (byAt_lt u 0) (byAt_lt u 1) (byAt_lt u 2) (byAt_lt u 3) h hL
  have hlen : (u.take L).length = L := by simp; omega
  have hb : ∀ k, k < L → byAt (u.take L) k = byAt u k := fun k hk => by
    unfold byAt
    rw [List.getElem?_take, if_pos hk]
  refine ⟨u.take L, u.drop L, (List.take_append_drop _ _).symm, ⟨by omega, ?_⟩, hlen⟩
  rw [hlen]
  unfold dcN
  rw [hlen, hb 0 (by omega), hb 1 (by omega)]
  exact fm L _ _ hL (Nat.le_refl _) (fun q => hb 2 q) (fun q => hb 3 q)
/-- No rune is at the head. -/
def Bad (u : List UInt8) : Prop := u ≠ [] ∧ 128 ≤ byAt u 0 ∧ dcN u = (65533, 1)
theorem bad_pre {win d : List UInt8} (h : Bad (win ++ d)) (hw : win ≠ []) : Bad win := by
  obtain ⟨h1, h2, h3⟩ := h
  rw [byAt_app (List.length_pos_iff.2 hw)] at h2
  refine ⟨hw, h2, ?_⟩
  rcases dec_alt win.length _ (byAt win 1) (byAt win 2) (byAt win 3) h2 with e | e
  · exact e
  · obtain ⟨bs, d', hu, hm, hl⟩ := mb_of (u := win) (a := (dcN win).1) (L := (dcN win).2) rfl e
    have hw2 := (mb_whole (d := d' ++ d) hm).1
    rw [← List.append_assoc, ← hu, h3] at hw2
    have := congrArg Prod.snd hw2
    have hb := hm.1
    simp only at this
    omega

/-- The rune at the head of the unread bytes, as rune() gives it: behind the last byte, and at bytes that are no rune, the end's mark. -/
def nxt : List UInt8 → Int
  | [] => 1114112
  | x :: d => if x.toNat < 128 then (x.toNat : Int) else if dcN (x :: d) = (65533, 1) then 1114112 else ((dcN (x :: d)).1 : Int)
theorem nxt_cons (x : UInt8) (d : List UInt8) : nxt (x :: d) = if x.toNat < 128 then (x.toNat : Int) else if dcN (x :: d) = (65533, 1) then 1114112 else ((dcN (x :: d)).1 : Int) := rfl
theorem nxt_ascii {x : UInt8} {d : List UInt8} (h : x.toNat < 128) : nxt (x :: d) = x.toNat := if_pos h
theorem nxt_cases (u : List UInt8) : (u = [] ∧ nxt u = 1114112) ∨ (∃ x d, u = x :: d ∧ x.toNat < 128 ∧ nxt u = x.toNat) ∨ (Bad u ∧ nxt u = 1114112) ∨ (∃ bs d a, u = bs ++ d ∧ MB bs a ∧ nxt u = (a : Nat) ∧ 128 ≤ a ∧ a ≤ 1114111) := by
  cases u with
  | nil => exact .inl ⟨rfl, rfl⟩
  | cons x d =>
    by_cases hx : x.toNat < 128
    · exact .inr (.inl ⟨x, d, rfl, hx, nxt_ascii hx⟩)
    · have hb : byAt (x :: d) 0 = x.toNat := rfl
      by_cases hd : dcN (x :: d) = (65533, 1)
      · exact .inr (.inr (.inl ⟨⟨by simp, by omega, hd⟩, by rw [nxt_cons, if_neg hx, if_pos hd]⟩))
      · rcases dec_alt (x :: d).length (byAt (x :: d) 0) (byAt (x :: d) 1) (byAt (x :: d) 2) (byAt (x :: d) 3) (by omega) with e | e
        · exact absurd e hd
        · obtain ⟨bs, d', hu, hm, hl⟩ := mb_of (u := x :: d) (a := (dcN (x :: d)).1) (L := (dcN (x :: d)).2) rfl e
          obtain ⟨f1, f2, f3, f4, f5, f6, _⟩ := dec_facts (byAt_lt (x :: d) 0) (byAt_lt (x :: d) 1) (byAt_lt (x :: d) 2) (byAt_lt (x :: d) 3) (show Lib.decodeN _ _ _ _ _ = ((dcN (x :: d)).1, (dcN (x :: d)).2) from rfl) e
          exact .inr (.inr (.inr ⟨bs, d', _, hu, hm, by rw [nxt_cons, if_neg hx, if_neg hd], f5, f6⟩))
theorem nxt_nonneg (u : List UInt8) : 0 ≤ nxt u := by
  rcases nxt_cases u with ⟨_, h⟩ | ⟨x, d, _, _, h⟩ | ⟨_, h⟩ | ⟨bs, d, a, _, _, h, _⟩ <;> rw [h] <;> omega
theorem nxt_low {u : List UInt8} (h : nxt u < 128) : ∃ x d, u = x :: d ∧ x.toNat < 128 ∧ nxt u = x.toNat := by
  rcases nxt_cases u with ⟨_, e⟩ | h1 | ⟨_, e⟩ | ⟨bs, d, a, _, _, e, _⟩
  · omega
  · exact h1
  · omega
  · omega

/-- A token function: it answers, or reads a rune and goes on. -/
inductive Tree where
  | ret (t : Int)
  | read (f : Int → Tree)
/-- n: the rune at hand; u: what is unread behind it; j: so many runes were read. -/
def Tree.run : Tree → Int → List UInt8 → Int → Int × Int × Int
  | .ret t, n, _, j => (t, j, n)
  | .read f, _, u, j => (f (nxt u)).run (nxt u) u.tail (j + 1)
def one (t : Int) : Tree := .read fun _ => .ret t
def two (x t t0 : Int) : Tree := .read fun a => if a = x then one t else .ret t0
/-- LangVariant.in. -/
def inL (lv m : Int) : Bool := bits BinOp.and IntKind.i64 lv m == lv

def parT (r : Int) : Tree :=
  if r = 125 then one 29
  else if r = 58 then .read fun a => if a = 43 then one 82 else if a = 45 then one 84 else if a = 63 then one 86 else if a = 61 then one 88 else if a = 35 then one 93 else if a = 124 then one 94 else if a = 42 then one 95 else .ret 104
  else if r = 43 then one 81 else if r = 45 then one 83 else if r = 63 then one 85 else if r = 61 then one 87
  else if r = 37 then two 37 90 89 else if r = 35 then two 35 92 91 else if r = 33 then one 39 else if r = 93 then one 30
  else if r = 47 then two 47 102 101 else if r = 94 then two 94 97 96 else if r = 44 then two 44 99 98
  else if r = 64 then one 100 else if r = 42 then one 43 else if r = 1114112 then .ret 1 else .ret 0
def dolP : Tree := .read fun b => if b = 40 then one 23 else .ret 22
def dqT (lv r : Int) : Tree :=
  if r = 34 then one 8 else if r = 96 then .ret 9
  else .read fun a => if a = 123 then one 20 else if a = 91 then (if inL lv 9 then one 21 else .ret 17) else if a = 40 then dolP else .ret 17
def regT (lv r : Int) : Tree :=
  if r = 39 then one 7 else if r = 34 then one 8 else if r = 96 then .ret 9
  else if r = 38 then .read fun a =>
    if a = 38 then one 11
    else if a = 62 then .read fun b => if b = 124 then one 75 else if b = 33 then (if inL lv 16 then one 75 else .ret 74) else if b = 62 then .read (fun c => if c = 124 then one 77 else if c = 33 then (if inL lv 16 then one 77 else .ret 76) else .ret 76) else .ret 74
    else if a = 124 then (if inL lv 16 then one 15 else .ret 10) else if a = 33 then (if inL lv 16 then one 16 else .ret 10) else .ret 10
  else if r = 124 then .read fun a => if a = 124 then one 12 else if a = 38 then (if inL lv 29 then one 14 else .ret 13) else .ret 13
  else if r = 36 then .read fun a =>
    if a = 39 then (if inL lv 29 then one 18 else .ret 17) else if a = 34 then (if inL lv 13 then one 19 else .ret 17) else if a = 123 then one 20 else if a = 91 then (if inL lv 9 then one 21 else .ret 17) else if a = 40 then dolP else .ret 17
  else if r = 40 then .read fun a => if a = 40 then (if inL lv 29 then one 28 else .ret 27) else .ret 27
  else if r = 41 then one 32
  else if r = 59 then .read fun a =>
    if a = 59 then .read (fun b => if b = 38 then (if inL lv 9 then one 37 else .ret 35) else .ret 35) else if a = 38 then (if inL lv 29 then one 36 else .ret 34) else if a = 124 then (if inL lv 20 then one 38 else .ret 34) else .ret 34
  else if r = 60 then .read fun a =>
    if a = 60 then .read (fun b => if b = 45 then one 72 else if b = 60 then one 73 else .ret 71) else if a = 62 then one 66 else if a = 38 then one 67 else if a = 40 then (if inL lv 25 then one 78 else .ret 65) else .ret 65
  else .read fun a =>
    if a = 62 then .read (fun b => if b = 124 then one 70 else if b = 33 then (if inL lv 16 then one 70 else .ret 64) else if b = 38 then (if inL lv 16 then .read (fun c => if c = 124 then one 77 else if c = 33 then one 77 else .ret 76) else .ret 64) else .ret 64)
    else if a = 38 then .read (fun b => if inL lv 16 then (if b = 124 then one 75 else if b = 33 then one 75 else .ret 68) else .ret 68)
    else if a = 124 then one 69 else if a = 33 then (if inL lv 16 then one 69 else .ret 63) else if a = 40 then (if inL lv 25 then one 80 else .ret 63) else .ret 63
def dbl (lv x t1 t2 t3 t0 : Int) : Tree := .read fun a => if a = x then .read (fun b => if b = 61 then (if inL lv 16 then one t1 else .ret t2) else .ret t2) else if a = 61 then one t3 else .ret t0
def ariT (lv r : Int) : Tree :=
  if r = 33 then two 61 46 39 else if r = 61 then two 61 45 87 else if r = 126 then one 40 else if r = 40 then one 27 else if r = 41 then one 32
  else if r = 38 then dbl lv 38 59 11 54 10 else if r = 124 then dbl lv 124 60 12 55 13
  else if r = 60 then .read fun a => if a = 60 then two 61 57 71 else if a = 61 then one 47 else .ret 65
  else if r = 62 then .read fun a => if a = 62 then two 61 58 64 else if a = 61 then one 48 else .ret 63
  else if r = 43 then .read fun a => if a = 43 then one 41 else if a = 61 then one 49 else .ret 81
  else if r = 45 then .read fun a => if a = 45 then one 42 else if a = 61 then one 50 else .ret 83
  else if r = 37 then two 61 53 89
  else if r = 42 then dbl lv 42 62 44 51 43
  else if r = 47 then two 61 52 101
  else if r = 94 then dbl lv 94 61 97 56 96
  else if r = 91 then one 25 else if r = 93 then one 30 else if r = 44 then one 98 else if r = 63 then one 85 else if r = 58 then one 104 else if r = 35 then one 91 else one 103

/-- So many runes at most are read. -/
inductive Tree.AtMost : Tree → Nat → Prop where
  | ret (t : Int) (n : Nat) : AtMost (.ret t) n
  | read (f : Int → Tree) (n : Nat) (h : ∀ a, AtMost (f a) n) : AtMost (.read f) (n + 1)
/-- Behind each rune that it reads, an answer is the one that the end's mark gets too; what is no ASCII gets an answer. -/
inductive Tree.Sd : Tree → Prop where
  | ret (t : Int) : Sd (.ret t)
  | read (f : Int → Tree) (h : ∀ a, Sd (f a)) (hE : ∀ a t, f a = .ret t → f 1114112 = .ret t) (hN : ∀ a, 128 ≤ a → ∃ t, f a = .ret t) : Sd (.read f)

theorem run_count {T : Tree} {n : Nat} (h : T.AtMost n) : ∀ (r : Int) (u : List UInt8) (j : Int), j ≤ (T.run r u j).2.1 ∧ (T.run r u j).2.1 ≤ j + n := by
  induction h with
  | ret t n => intro r u j; simp only [Tree.run]; omega
  | read f n h ih =>
    intro r u j
    have := ih (nxt u) (nxt u) u.tail (j + 1)
    simp only [Tree.run]
    omega
/-- A token's own bytes alone give the same token, and then the end. -/
theorem run_sd {T : Tree} (h : T.Sd) : ∀ (r : Int) (u : List UInt8) (j : Int), (∃ t, T = .ret t) ∨ ∃ k : Nat, (T.run r u j).2.1 = j + k + 1 ∧ k ≤ u.length ∧ T.run r (u.take k) j = ((T.run r u j).1, (T.run r u j).2.1, 1114112) := by
  induction h with
  | ret t => intro r u j; exact .inl ⟨t, rfl⟩
  | read f h hE hN ih =>
    intro r u j
    refine .inr ?_
    rcases ih (nxt u) (nxt u) u.tail (j + 1) with ⟨t, ht⟩ | ⟨k, h1, h2, h3⟩
    · refine ⟨0, ?_, by omega, ?_⟩
      · simp only [Tree.run, ht]; omega
      · have e : nxt (List.take 0 u) = 1114112 := rfl
        simp only [Tree.run, e, ht, hE _ _ ht]
    · -- the rune at hand was no answer: it is ASCII
      have hlow : nxt u < 128 := by
        by_cases hh : nxt u < 128
        · exact hh
        · obtain ⟨t, ht⟩ := hN (nxt u) (by omega)
          rw [ht] at h1
          simp only [Tree.run] at h1
          omega
      obtain ⟨x, d, rfl, hx, hn⟩ := nxt_low hlow
      refine ⟨k + 1, ?_, by simp at h2 ⊢; omega, ?_⟩
      · simp only [Tree.run]; rw [h1]; omega
      · have e : nxt (List.take (k + 1) (x :: d)) = nxt (x :: d) := by rw [List.take_succ_cons, nxt_ascii hx, nxt_ascii hx]
        have e2 : (List.take (k + 1) (x :: d)).tail = (x :: d).tail.take k := by rw [List.take_succ_cons]; rfl
        simp only [Tree.run]
        rw [e, e2]
        exact h3
end
section
open Go.RowKit

theorem one_sd (t : Int) : (one t).Sd := .read _ (fun _ => .ret _) (fun _ _ h => h) (fun _ _ => ⟨_, rfl⟩)
theorem one_ne (t s : Int) : one t ≠ .ret s := by unfold one; intro h; cases h
theorem ite_sd {c : Prop} [Decidable c] {A B : Tree} (h1 : A.Sd) (h2 : B.Sd) : (if c then A else B).Sd := by by_cases h : c <;> simp [h, h1, h2]
theorem ite_most {c : Prop} [Decidable c] {A B : Tree} {n : Nat} (h1 : A.AtMost n) (h2 : B.AtMost n) : (if c then A else B).AtMost n := by by_cases h : c <;> simp [h, h1, h2]
theorem ite_ret {c : Prop} [Decidable c] {A B : Tree} {t : Int} (h : (if c then A else B) = .ret t) : (c ∧ A = .ret t) ∨ (¬ c ∧ B = .ret t) := by
  by_cases hc : c
  · rw [if_pos hc] at h; exact .inl ⟨hc, h⟩
  · rw [if_neg hc] at h; exact .inr ⟨hc, h⟩
theorem ite_ex {c : Prop} [Decidable c] {A B : Tree} (h1 : ∃ t, A = .ret t) (h2 : ∃ t, B = .ret t) : ∃ t, (if c then A else B) = .ret t := by by_cases h : c <;> simp [h, h1, h2]
theorem one_most (t : Int) (n : Nat) : (one t).AtMost (n + 1) := .read _ _ (fun _ => .ret _ _)
/-- What is no ASCII gets an answer, the end's mark too; an answer is the end's mark's. -/
structure Tree.Fit (f : Int → Tree) : Prop where
  sd : ∀ a, (f a).Sd
  e : ∀ a t, f a = .ret t → f 1114112 = .ret t
  n : ∀ a, 128 ≤ a → ∃ t, f a = .ret t
theorem Tree.Fit.read {f : Int → Tree} (h : Fit f) : (Tree.read f).Sd := .read f h.sd h.e h.n
theorem Tree.Fit.ret (t : Int) : Fit (fun _ => .ret t) := ⟨fun _ => .ret _, fun _ _ h => h, fun _ _ => ⟨_, rfl⟩⟩
/-- One key: behind it the tree goes on. -/
theorem Tree.Fit.key {x : Int} {A : Tree} {g : Int → Tree} (hx : x < 128) (hA : A.Sd) (hn : ∀ t, A ≠ .ret t) (h : Fit g) : Fit (fun a => if a = x then A else g a) := by
  refine ⟨fun a => ?_, fun a t => ?_, fun a ha => ?_⟩
  · by_cases e : a = x <;> simp [e, hA, h.sd]
  · by_cases e : a = x
    · rw [if_pos e]; intro h2; exact absurd h2 (hn t)
    · rw [if_neg e, if_neg (by omega)]; exact h.e a t
  · rw [if_neg (by omega)]; exact h.n a ha
/-- A key that a dialect may lack: then the answer is the end's mark's. -/
theorem Tree.Fit.may {x : Int} {c : Bool} {A : Tree} {g : Int → Tree} {t0 : Int} (hx : x < 128) (hA : A.Sd) (hn : ∀ t, A ≠ .ret t) (h : Fit g) (h0 : g 1114112 = .ret t0) : Fit (fun a => if a = x then (if c then A else .ret t0) else g a) := by
  cases c with
  | true => simpa using key hx hA hn h
  | false =>
    refine ⟨fun a => ?_, fun a t => ?_, fun a ha => ?_⟩
    · by_cases e : a = x
      · simp only [e, if_true, Bool.false_eq_true, if_false]; exact .ret _
      · simp only [e, if_false]; exact h.sd a
    · by_cases e : a = x
      · rw [if_pos e, if_neg (by omega : ¬ (1114112 : Int) = x), h0]; intro h2; exact h2
      · rw [if_neg e, if_neg (by omega : ¬ (1114112 : Int) = x)]; exact h.e a t
    · rw [if_neg (by omega)]; exact h.n a ha
theorem Tree.Fit.cond {c : Bool} {g : Int → Tree} {t0 : Int} (h : Fit g) : Fit (fun a => if c then g a else .ret t0) := by
  cases c with
  | true => simpa using h
  | false => simpa using Tree.Fit.ret t0
theorem read_ne (f : Int → Tree) (t : Int) : Tree.read f ≠ .ret t := fun h => by cases h
theorem regT_sd (lv r : Int) : (regT lv r).Sd := by
  unfold regT dolP
  repeat' (first
    | exact Tree.Sd.ret _
    | exact one_sd _
    | refine ite_sd ?_ ?_
    | refine Tree.Fit.read ?_
    | exact Tree.Fit.ret _
    | refine Tree.Fit.cond ?_
    | refine Tree.Fit.may (by omega) (one_sd _) (one_ne _) ?_ rfl
    | refine Tree.Fit.may (by omega) (Tree.Fit.read ?_) (read_ne _) ?_ rfl
    | refine Tree.Fit.key (by omega) (one_sd _) (one_ne _) ?_
    | refine Tree.Fit.key (by omega) (Tree.Fit.read ?_) (read_ne _) ?_)
set_option maxRecDepth 100000 in
set_option maxHeartbeats 4000000 in
theorem regT_most (lv r : Int) : (regT lv r).AtMost 4 := by
  unfold regT dolP
  repeat' (first
    | exact Tree.AtMost.ret _ _
    | exact one_most _ _
    | refine ite_most ?_ ?_
    | refine Tree.AtMost.read _ _ (fun a => ?_))

theorem dq_reg (lv r : Int) (u : List UInt8) (hr : r = 34 ∨ r = 96 ∨ r = 36) (hn : r = 36 → nxt u ≠ 39 ∧ nxt u ≠ 34) : (dqT lv r).run r u 0 = (regT lv r).run r u 0 := by
  rcases hr with rfl | rfl | rfl
  · rfl
  · rfl
  · obtain ⟨h1, h2⟩ := hn rfl
    simp [dqT, regT, Tree.run, h1, h2]

theorem ari_same {lv lv' : Int} (h : inL lv 16 = inL lv' 16) (r : Int) : ariT lv r = ariT lv' r := by
  unfold ariT dbl
  simp only [h]
def ZTok (t : Int) : Prop := t = 59 ∨ t = 60 ∨ t = 62 ∨ t = 61
def ZRel (z b : Int × Int × Int) : Prop := (z.2.1 = b.2.1 ∧ z.1 = b.1) ∨ (z.2.1 = 3 ∧ b.2.1 = 2 ∧ ZTok z.1)
theorem dbl_rel (x t1 t2 t3 t0 r : Int) (u : List UInt8) (ht : ZTok t1) : ZRel ((dbl 16 x t1 t2 t3 t0).run r u 0) ((dbl 1 x t1 t2 t3 t0).run r u 0) := by
  have e1 : inL 1 16 = false := by decide +kernel
  have e2 : inL 16 16 = true := by decide +kernel
  unfold dbl ZRel
  simp only [Tree.run, e1, e2]
  by_cases h1 : nxt u = x
  · simp only [h1, if_true]
    by_cases h2 : nxt u.tail = 61
    · simp [Tree.run, h2, one, ht]
    · simp [Tree.run, h2]
  · simp only [h1, if_false]
    by_cases h2 : nxt u = 61 <;> simp [Tree.run, h2, one]
theorem zrel_ite {c : Prop} [Decidable c] {A B A' B' : Tree} {r : Int} {u : List UInt8} (h1 : ZRel (A.run r u 0) (A'.run r u 0)) (h2 : ZRel (B.run r u 0) (B'.run r u 0)) : ZRel ((if c then A else B).run r u 0) ((if c then A' else B').run r u 0) := by by_cases h : c <;> simp [h, h1, h2]
theorem zrel_refl (A : Tree) (r : Int) (u : List UInt8) : ZRel (A.run r u 0) (A.run r u 0) := .inl ⟨rfl, rfl⟩
set_option maxHeartbeats 4000000 in
theorem ari_rel (r : Int) (u : List UInt8) : ZRel ((ariT 16 r).run r u 0) ((ariT 1 r).run r u 0) := by
  unfold ariT
  repeat' (first
    | exact zrel_refl _ _ _
    | exact dbl_rel _ _ _ _ _ _ _ (.inl rfl)
    | exact dbl_rel _ _ _ _ _ _ _ (.inr (.inl rfl))
    | exact dbl_rel _ _ _ _ _ _ _ (.inr (.inr (.inl rfl)))
    | exact dbl_rel _ _ _ _ _ _ _ (.inr (.inr (.inr rfl)))
    | refine zrel_ite ?_ ?_)
end
end Go.Proofs.YtolgahamfkaipaaFmt
