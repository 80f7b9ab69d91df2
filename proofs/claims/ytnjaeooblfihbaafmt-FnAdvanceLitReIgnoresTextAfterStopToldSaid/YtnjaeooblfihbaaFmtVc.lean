/-
  What rune() has come to, on valid bytes; newLit there.
-/
import Derived.Test.YtnjaeooblfihbaaFmtVb
namespace Go.Proofs.YtnjaeooblfihbaaFmt
open Go.RowKit

/-- What rune() has come to: u was unread ahead of it, lit the literal ahead of it. -/
def RdS (w : World) (B pb rb : Nat) (ea : Addr) (q : Pc) (lit : Option (List UInt8)) (u : List UInt8) (a : Int) : Prop :=
  (a = 1114112 ∧ u = [] ∧ ∃ k, k ≤ 3 ∧ LexL w B pb rb ea q 1114112 [] lit k) ∨
  (∃ x t, u = x :: t ∧ a = x.toNat ∧ x.toNat < 128 ∧ x.toNat ≠ 0 ∧ Vd t ∧ LexL w B pb rb ea q x.toNat t (lit.map (· ++ [x])) 0 ∧ (x = 96 → w.cell? ⟨pb, 32, none⟩ = some (.int .i64 0))) ∨
  (∃ bs t, ∃ n : Nat, u = bs ++ t ∧ a = n ∧ MB bs n ∧ Vd t ∧ LexL w B pb rb ea q n t (lit.map (· ++ bs)) 0 ∧
    (lit = none → ∃ m k : Nat, w.cell? ⟨pb, 2, none⟩ = some (.int .u64 m) ∧ w.cell? ⟨pb, 1, none⟩ = some (.slice (some ⟨pb, 39, none⟩) k 1024) ∧ bs.length ≤ m ∧ m ≤ k ∧ k ≤ 1024 ∧ ∀ j x, bs[j]? = some x → w.cell? ⟨pb, 39 + (m - bs.length) + j, none⟩ = some (By x))) ∨
  (∃ t, u = 92 :: 10 :: t ∧ a = 1114113 ∧ Vd t ∧ LexL w B pb rb ea q 1114113 t lit 0)

theorem vd_tail {x : UInt8} {t : List UInt8} (h : Vd (x :: t)) (hx : x.toNat < 128) : Vd t := by
  generalize hs : x :: t = s at h
  cases h with
  | nil => cases hs
  | asc y t' h1 h2 h => cases hs; exact h
  | mb bs t' a hm h =>
    have h1 := (mb_facts hm).1
    have hl := hm.1
    match bs, hl, h1 with
    | y :: bs', _, h1 =>
      have h1 : 194 ≤ byAt (y :: bs') 0 := h1
      rw [List.cons_append] at hs
      injection hs with e1 e2
      rw [show byAt (y :: bs') 0 = y.toNat from rfl, ← e1] at h1
      omega

theorem next_l {w : World} {B pb rb : Nat} {ea : Addr} {q : Pc} {r : Int} {u : List UInt8} {lit : Option (List UInt8)} (h : LexL w B pb rb ea q r u lit 0) (hB : 0 < B) (hr : r ≠ 1114112) (hv : Vd u) (hc : NoPair 13 10 u) :
    Calls Tryf.prog 22 #[.pointer (some ⟨pb, 0, none⟩)] w fun e w' => ∃ a, e = .returned (.int .i32 a) ∧ RdS w' B pb rb ea q lit u a ∧ Kr B pb rb w w' := by
  cases hv with
  | nil =>
    refine (rune_l_eof h (by omega) hB).mono ?_
    rintro e w' ⟨rfl, h1, h2⟩
    exact ⟨_, rfl, .inl ⟨rfl, rfl, 1, by omega, h1⟩, h2⟩
  | asc x t h1 h2 hvt =>
    by_cases h96 : x = 96
    · subst h96
      refine (rune_l96 h (by omega) hB hr).mono ?_
      rintro e w' ⟨rfl, h3, h4, h5⟩
      exact ⟨_, rfl, .inr (.inl ⟨96, t, rfl, rfl, h1, h2, hvt, h3, fun _ => h5⟩), h4⟩
    have plain : ∀ {c : List UInt8} {d : List UInt8} {b : Int} {dc : Nat}, Nx r (x :: t) x.toNat b c d dc → c = [x] → d = t → Calls Tryf.prog 22 #[.pointer (some ⟨pb, 0, none⟩)] w fun e w' => ∃ a, e = .returned (.int .i32 a) ∧ RdS w' B pb rb ea q lit (x :: t) a ∧ Kr B pb rb w w' := by
      intro c d b dc hn ec ed
      subst ec ed
      refine (rune_l h (by omega) hB hr hn).mono ?_
      rintro e w' ⟨rfl, h3, h4⟩
      exact ⟨_, rfl, .inr (.inl ⟨x, _, rfl, rfl, h1, h2, hvt, h3, fun e => absurd e h96⟩), h4⟩
    by_cases h13 : x = 13
    · subst h13
      exact plain (.cr t (fun e => hc 0 rfl (by simpa using e))) rfl rfl
    by_cases h92 : x = 92
    · subst h92
      by_cases hr92 : r = 92
      · exact plain (.same t hr92) rfl rfl
      · by_cases h10 : t[0]? = some 10
        · obtain ⟨t', rfl⟩ : ∃ t', t = 10 :: t' := by
            cases t with
            | nil => simp at h10
            | cons y t' => simp at h10; exact ⟨t', by rw [h10]⟩
          refine (rune_l h (by omega) hB hr (.nl t' hr92)).mono ?_
          rintro e w' ⟨rfl, h3, h4⟩
          refine ⟨_, rfl, .inr (.inr (.inr ⟨t', rfl, rfl, vd_tail hvt (by decide), ?_⟩)), h4⟩
          cases lit with
          | none => exact h3
          | some l => simpa using h3
        · exact plain (.other t hr92 h10 (fun e => hc.tail 0 e.1 e.2)) rfl rfl
    · exact plain (.plain x t h1 h2 (fun e => h13 (UInt8.toNat_inj.1 e)) (fun e => h92 (UInt8.toNat_inj.1 e))) rfl rfl
  | mb bs t a hm hvt =>
    refine (rune_lmb h (by omega) hB hr hm).mono ?_
    rintro e w' ⟨rfl, h3, h4, h5⟩
    exact ⟨_, rfl, .inr (.inr (.inl ⟨bs, t, a, rfl, rfl, hm, hvt, h3, fun _ => h5⟩)), h4⟩

theorem newlit_r {w : World} {B pb rb : Nat} {ea : Addr} {q : Pc} {u : List UInt8} {a : Int} (h : RdS w B pb rb ea q none u a) (hB : 0 < B) (hl : u.length ≤ 100000000) :
    Calls Tryf.prog 34 #[.pointer (some ⟨pb, 0, none⟩), .int .i32 a] w fun e w' => e = .returned (.tuple #[]) ∧ RdS w' B pb rb ea q (some []) u a ∧ Kept [pb] w w' ∧ (∃ n, w'.cell? ⟨pb, 2087, none⟩ = some (.slice (some ⟨pb, 1063, none⟩) n 1024)) := by
  rcases h with ⟨rfl, rfl, k, hk, h⟩ | ⟨x, t, rfl, rfl, h1, h2, hv, h, h96⟩ | ⟨bs, t, n, rfl, rfl, hm, hv, h, hw⟩ | ⟨t, rfl, rfl, hv, h⟩
  · refine (newlit_l_none h hB (.inl rfl) (by simp)).mono ?_
    rintro e w' ⟨rfl, h1, h2, h3⟩
    exact ⟨rfl, .inl ⟨rfl, rfl, k, hk, h1⟩, h2, h3⟩
  · simp only [List.length_cons] at hl
    refine (newlit_l h hB h1 (by omega)).mono ?_
    rintro e w' ⟨rfl, h3, h4, h5, h6⟩
    exact ⟨rfl, .inr (.inl ⟨x, t, rfl, rfl, h1, h2, hv, h3, fun e => h5.trans (h96 e)⟩), h4, h6⟩
  · simp only [List.length_append] at hl
    refine (newlit_lmb h hB hm (by omega) (hw rfl)).mono ?_
    rintro e w' ⟨rfl, h3, h4, h6⟩
    exact ⟨rfl, .inr (.inr (.inl ⟨bs, t, n, rfl, rfl, hm, hv, h3, fun e => by cases e⟩)), h4, h6⟩
  · simp only [List.length_cons] at hl
    refine (newlit_l_none h hB (.inr rfl) (by omega)).mono ?_
    rintro e w' ⟨rfl, h3, h4, h6⟩
    exact ⟨rfl, .inr (.inr (.inr ⟨t, rfl, rfl, hv, h3⟩)), h4, h6⟩

/-- The parser behind what rune() has come to. -/
theorem RdS.lex {w : World} {B pb rb : Nat} {ea : Addr} {q : Pc} {lit : Option (List UInt8)} {u : List UInt8} {a : Int} (h : RdS w B pb rb ea q lit u a) : ∃ t lit' k, LexL w B pb rb ea q a t lit' k ∧ k ≤ 3 := by
  rcases h with ⟨rfl, rfl, k, hk, h⟩ | ⟨x, t, rfl, rfl, h1, h2, hv, h, h96⟩ | ⟨bs, t, n, rfl, rfl, hm, hv, h, hw⟩ | ⟨t, rfl, rfl, hv, h⟩
  · exact ⟨_, _, k, h, hk⟩
  · exact ⟨_, _, _, h, by omega⟩
  · exact ⟨_, _, _, h, by omega⟩
  · exact ⟨_, _, _, h, by omega⟩
theorem RdS.kept0 {w w' : World} {B pb rb : Nat} {ea : Addr} {q : Pc} {lit : Option (List UInt8)} {u : List UInt8} {a : Int} (h : RdS w B pb rb ea q lit u a) (hB : 0 < B) (kp : Kept [] w w') : RdS w' B pb rb ea q lit u a := by
  rcases h with ⟨rfl, rfl, k, hk, h⟩ | ⟨x, t, rfl, rfl, h1, h2, hv, h, h96⟩ | ⟨bs, t, n, rfl, rfl, hm, hv, h, hw⟩ | ⟨t, rfl, rfl, hv, h⟩
  · exact .inl ⟨rfl, rfl, k, hk, h.kept0 hB kp⟩
  · exact .inr (.inl ⟨x, t, rfl, rfl, h1, h2, hv, h.kept0 hB kp, fun e => (kp.cell (p := ⟨pb, 32, none⟩) (block_lt_of_cell (h96 e)) (by simp)).trans (h96 e)⟩)
  · refine .inr (.inr (.inl ⟨bs, t, n, rfl, rfl, hm, hv, h.kept0 hB kp, fun e => ?_⟩))
    obtain ⟨m, k, c2, c1, b1, b2, b3, hc⟩ := hw e
    exact ⟨m, k, (kp.cell (p := ⟨pb, 2, none⟩) (block_lt_of_cell c2) (by simp)).trans c2, (kp.cell (p := ⟨pb, 1, none⟩) (block_lt_of_cell c1) (by simp)).trans c1, b1, b2, b3, fun j x hj => (kp.cell (p := ⟨pb, 39 + (m - bs.length) + j, none⟩) (show pb < _ from block_lt_of_cell c2) (by simp)).trans (hc j x hj)⟩
  · exact .inr (.inr (.inr ⟨t, rfl, rfl, hv, h.kept0 hB kp⟩))
end Go.Proofs.YtnjaeooblfihbaaFmt
