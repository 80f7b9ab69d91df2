/-
  What zzPlainRunes reads is what the lexer reads; a fresh lexer.
-/
import Derived.Test.YtpkgpkklgkpbfaaFmtMl
import Derived.Test.YtpkgpkklgkpbfaaFmtMi
import Derived.Test.YtpkgpkklgkpbfaaFmtLxNew
namespace Go.Proofs.YtpkgpkklgkpbfaaFmt
open Go.RowKit

theorem Str.nul {r : Int} {u : List UInt8} {l : List Int} (h : Str r u l) : Str r (0 :: u) l := by
  cases h with
  | fin _ k => exact Str.fin r (k + 1)
  | step _ a b _ d dc l hn hs => exact Str.step r a b _ d (dc + 1) l (Ny.nul u d a b dc hn) hs

theorem mb_of_dec {l : List UInt8} (h : 2 ≤ (dcN l).2) : MB (l.take (dcN l).2) (dcN l).1 ∧ (dcN l).2 ≤ l.length := by
  obtain ⟨⟨a, m⟩, hd⟩ : ∃ q, dcN l = q := ⟨_, rfl⟩
  rw [hd] at h ⊢
  have h' : 2 ≤ m := h
  obtain ⟨_, _, h3, h4, h5, h6, h7, h8, _⟩ := dec_facts (byAt_lt l 0) (byAt_lt l 1) (byAt_lt l 2) (byAt_lt l 3) hd h'
  refine ⟨?_, h4⟩
  have hl : (l.take m).length = m := by rw [List.length_take]; omega
  refine ⟨by show 2 ≤ (l.take m).length; omega, ?_⟩
  show dcN (l.take m) = (a, (l.take m).length)
  rw [hl]
  unfold dcN
  rw [hl, byAt_take (by omega), byAt_take (by omega)]
  exact h8 _ _ _ h' (Nat.le_refl _) (fun q => byAt_take q) (fun q => byAt_take q)

theorem plF_str : ∀ (f : Nat) (l : List UInt8) (R : List Int), plF f l = some R → ∀ r, Str r l R
  | 0, _, _, h => by simp [plF] at h
  | f + 1, [], R, h => by
    simp only [plF, Option.some.injEq] at h
    subst h
    intro r
    exact Str.fin r 0
  | f + 1, x :: u, R, h => by
    intro r
    rw [plF] at h
    split at h
    · cases h
    rename_i hx
    split at h
    · cases h
    rename_i hok
    have b0 : byAt (x :: u) 0 = x.toNat := rfl
    by_cases ha : x.toNat < 128
    · have hz : zD (x :: u) = ((x.toNat : Int), 1, true) := by
        unfold zD
        rw [b0, if_pos ha]
      rw [hz] at h
      have hd : (x :: u).drop (1 : Int).toNat = u := rfl
      simp only [hd] at h
      obtain ⟨R', hR', rfl⟩ := Option.map_eq_some_iff.1 h
      by_cases h0 : x = 0
      · subst h0
        rw [if_pos (by rfl)]
        exact (plF_str f u R' hR' r).nul
      · have h0' : x.toNat ≠ 0 := fun e => h0 (UInt8.toNat_inj.1 e)
        rw [if_neg (by omega)]
        refine Str.step r _ 1 _ u 0 _ (Ny.base _ _ _ [x] _ _ (Nx.plain x u ha h0' ?_ ?_)) (plF_str f u R' hR' _)
        · intro e; exact hx (.inr (UInt8.toNat_inj.1 e))
        · intro e; exact hx (.inl (UInt8.toNat_inj.1 e))
    · by_cases h2 : 2 ≤ (dcN (x :: u)).2
      · have hz : zD (x :: u) = (((dcN (x :: u)).1 : Int), ((dcN (x :: u)).2 : Int), true) := by
          unfold zD
          rw [b0, if_neg ha, if_pos h2]
        obtain ⟨hm, hle⟩ := mb_of_dec h2
        rw [hz] at h
        obtain ⟨m, hmm⟩ : ∃ m, (dcN (x :: u)).2 = m := ⟨_, rfl⟩
        obtain ⟨a, haa⟩ : ∃ a, (dcN (x :: u)).1 = a := ⟨_, rfl⟩
        rw [hmm, haa] at h hm
        rw [hmm] at hle
        have hd : ((m : Int)).toNat = m := by omega
        simp only [hd] at h
        obtain ⟨R', hR', rfl⟩ := Option.map_eq_some_iff.1 h
        have h128 := (mb_facts hm).2.2.2.1
        rw [if_neg (by omega)]
        have e : x :: u = (x :: u).take m ++ (x :: u).drop m := (List.take_append_drop m _).symm
        have hny : Ny r (x :: u) a (((x :: u).take m).length : Nat) ((x :: u).drop m) 0 := by
          have := Ny.multi (r := r) ((x :: u).take m) ((x :: u).drop m) a hm
          rwa [← e] at this
        exact Str.step r _ _ _ _ 0 _ hny (plF_str f _ R' hR' _)
      · have hz : (zD (x :: u)).2.2 = false := by
          unfold zD
          rw [b0, if_neg ha, if_neg h2]
        exact absurd hz hok

theorem plF_len : ∀ (f : Nat) (l : List UInt8) (R : List Int), plF f l = some R → R.length ≤ l.length
  | 0, _, _, h => by simp [plF] at h
  | f + 1, [], R, h => by
    simp only [plF, Option.some.injEq] at h
    subst h
    exact Nat.le_refl _
  | f + 1, x :: u, R, h => by
    rw [plF] at h
    split at h
    · cases h
    split at h
    · cases h
    obtain ⟨R', hR', rfl⟩ := Option.map_eq_some_iff.1 h
    have ih := plF_len f _ R' hR'
    have hz := (zD_facts (l := x :: u) (by simp)).1
    rw [List.length_drop] at ih
    split
    · exact Nat.le_trans ih (Nat.sub_le _ _)
    · rw [List.length_cons]
      have h1 : 1 ≤ (zD (x :: u)).2.1.toNat := by omega
      have h2 : 0 < (x :: u).length := by simp
      omega

theorem Tabs.kept {w w' : World} {S : List Nat} (h : Tabs w) (k : Kept S w w') (hS : ∀ x ∈ S, w.heap.size ≤ x) : Tabs w' := by
  refine ⟨fun c hc => ?_, fun i hi => ⟨?_, ?_⟩⟩
  · have h1 := h.1 c hc
    have := block_lt_of_cell h1
    exact (k.cell this (fun hm => by have := hS _ hm; omega)).trans h1
  · have h1 := (h.2 i hi).1
    have := block_lt_of_cell h1
    exact (k.cell this (fun hm => by have := hS _ hm; omega)).trans h1
  · have h1 := (h.2 i hi).2
    have := block_lt_of_cell h1
    exact (k.cell this (fun hm => by have := hS _ hm; omega)).trans h1

/-- A fresh lexer, ready to read runes. -/
theorem lexm_fresh {w w' : World} {pb : Nat} {ea : Addr} {l : List UInt8} (hT : Tabs w) (hpb : pb = w.heap.size) (h : Lx w' (pb + 3) pb (pb + 1) ea (Pc.lexer pb (pb + 1) (pb + 2) 0) [] l 0) (hk : Kept [] w w') (hl : l.length < 10000000) :
    LexM w' (pb + 3) pb (pb + 1) ea (Pc.lexer pb (pb + 1) (pb + 2) 0) 0 l 0 := by
  have hmd : Md w' (pb + 3) pb (pb + 1) ea (Pc.lexer pb (pb + 1) (pb + 2) 0) [] l 0 0 l := ⟨h, .inl ⟨rfl, rfl⟩, rfl, by omega, by simp; omega, by simp, by simp⟩
  refine ⟨_, 0, 1, 1, rfl, rfl, rfl, rfl, rfl, rfl, by omega, by omega, by omega, by omega, by omega, by omega, by omega, by omega, h.hrd.lt.2, rfl, ?_, .inl ⟨by decide, _, _, _, _, hmd⟩⟩
  intro w2 hk2
  obtain ⟨S, kS, hS⟩ := hk2
  have k2 : Kept S w w2 := (hk.weaken (S' := S) (by simp)).trans kS
  exact hT.kept k2 (fun x hx => by rcases hS x hx with h | h | h <;> omega)
end Go.Proofs.YtpkgpkklgkpbfaaFmt
