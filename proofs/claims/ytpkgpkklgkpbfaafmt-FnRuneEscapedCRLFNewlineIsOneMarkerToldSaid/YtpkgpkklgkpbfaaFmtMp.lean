/-
  Newlines escaped by backslash, CR, LF: what the lexer reads.
-/
import Derived.Test.YtpkgpkklgkpbfaaFmtMn
namespace Go.Proofs.YtpkgpkklgkpbfaaFmt
open Go.RowKit

theorem dec_hi {n b0 b1 b2 b3 a L : Nat} (h : Lib.decodeN n b0 b1 b2 b3 = (a, L)) (hL : 2 ≤ L) : 128 ≤ b0 ∧ 128 ≤ b1 ∧ L ≤ 4 ∧ (2 < L → 128 ≤ b2) ∧ (3 < L → 128 ≤ b3) := by
  unfold Lib.decodeN at h
  repeat' split at h
  all_goals (simp only [Prod.mk.injEq] at h; omega)

theorem mb_hi {bs : List UInt8} {a : Nat} (h : MB bs a) : ∀ x ∈ bs, 128 ≤ x.toNat := by
  obtain ⟨h0, h1, h4, h2, h3⟩ := dec_hi h.2 h.1
  intro x hx
  obtain ⟨j, hj, rfl⟩ := List.mem_iff_getElem.1 hx
  have e : byAt bs j = (bs[j]).toNat := by
    unfold byAt
    rw [List.getElem?_eq_getElem hj, Option.getD_some]
  rw [← e]
  have : j = 0 ∨ j = 1 ∨ j = 2 ∨ j = 3 := by omega
  rcases this with rfl | rfl | rfl | rfl
  · exact h0
  · exact h1
  · exact h2 (by omega)
  · exact h3 (by omega)

def exB (x : UInt8) : List UInt8 := if x = 10 then [92, 13, 10] else [x]
def exX (l : List UInt8) : List UInt8 := l.flatMap exB
def mkR (x : Int) : Int := if x = 10 then 1114113 else x
theorem exX_same {bs d : List UInt8} (h : ∀ x ∈ bs, 128 ≤ x.toNat) : exX (bs ++ d) = bs ++ exX d := by
  induction bs with
  | nil => rfl
  | cons x bs ih =>
    have hx : x ≠ 10 := fun e => by have := h x (by simp); rw [e] at this; exact absurd this (by decide)
    have := ih (fun y hy => h y (by simp [hy]))
    show exB x ++ exX (bs ++ d) = x :: (bs ++ exX d)
    rw [this, exB, if_neg hx]
    rfl
theorem exX_len (l : List UInt8) : (exX l).length ≤ 3 * l.length := by
  induction l with
  | nil => exact Nat.le_refl _
  | cons x l ih =>
    show (exB x ++ exX l).length ≤ _
    have : (exB x).length ≤ 3 := by unfold exB; split <;> simp
    rw [List.length_append, List.length_cons]
    omega
theorem exX_append (a b : List UInt8) : exX (a ++ b) = exX a ++ exX b := List.flatMap_append

theorem plF_crl : ∀ (f : Nat) (l : List UInt8) (R : List Int), plF f l = some R → ∀ r, r ≠ 92 → Str r (exX l) (R.map mkR)
  | 0, _, _, h => by simp [plF] at h
  | f + 1, [], R, h => by
    simp only [plF, Option.some.injEq] at h
    subst h
    intro r _
    exact Str.fin r 0
  | f + 1, x :: u, R, h => by
    intro r hr
    rw [plF] at h
    split at h
    · cases h
    rename_i hx
    split at h
    · cases h
    rename_i hok
    have b0 : byAt (x :: u) 0 = x.toNat := rfl
    by_cases ha : x.toNat < 128
    · have hz : zD (x :: u) = ((x.toNat : Int), 1, true) := by
        unfold zD
        rw [b0, if_pos ha]
      rw [hz] at h
      have hd : (x :: u).drop (1 : Int).toNat = u := rfl
      simp only [hd] at h
      obtain ⟨R', hR', rfl⟩ := Option.map_eq_some_iff.1 h
      by_cases h0 : x = 0
      · subst h0
        rw [if_pos (by rfl)]
        exact (plF_crl f u R' hR' r hr).nul
      · have h0' : x.toNat ≠ 0 := fun e => h0 (UInt8.toNat_inj.1 e)
        rw [if_neg (by omega)]
        by_cases h10 : x = 10
        · subst h10
          exact Str.step r 1114113 2 _ (exX u) 1 _ (Ny.base _ _ _ [] _ _ (Nx.crnl (exX u) hr)) (plF_crl f u R' hR' _ (by decide))
        · have h10' : x.toNat ≠ 10 := fun e => h10 (UInt8.toNat_inj.1 e)
          have h92 : x.toNat ≠ 92 := fun e => hx (.inl (UInt8.toNat_inj.1 e))
          have e1 : exX (x :: u) = x :: exX u := by
            show exB x ++ exX u = _
            rw [exB, if_neg h10]; rfl
          have e2 : ((x.toNat : Int) :: R').map mkR = (x.toNat : Int) :: R'.map mkR := by
            rw [List.map_cons, mkR, if_neg (by omega)]
          rw [e1, e2]
          refine Str.step r _ 1 _ (exX u) 0 _ (Ny.base _ _ _ [x] _ _ (Nx.plain x _ ha h0' ?_ h92)) (plF_crl f u R' hR' _ (by omega))
          intro e; exact hx (.inr (UInt8.toNat_inj.1 e))
    · by_cases h2 : 2 ≤ (dcN (x :: u)).2
      · have hz : zD (x :: u) = (((dcN (x :: u)).1 : Int), ((dcN (x :: u)).2 : Int), true) := by
          unfold zD
          rw [b0, if_neg ha, if_pos h2]
        obtain ⟨hm, hle⟩ := mb_of_dec h2
        rw [hz] at h
        obtain ⟨m, hmm⟩ : ∃ m, (dcN (x :: u)).2 = m := ⟨_, rfl⟩
        obtain ⟨a, haa⟩ : ∃ a, (dcN (x :: u)).1 = a := ⟨_, rfl⟩
        rw [hmm, haa] at h hm
        rw [hmm] at hle
        have hd : ((m : Int)).toNat = m := by omega
        simp only [hd] at h
        obtain ⟨R', hR', rfl⟩ := Option.map_eq_some_iff.1 h
        have h128 := (mb_facts hm).2.2.2.1
        rw [if_neg (by omega)]
        have e : x :: u = (x :: u).take m ++ (x :: u).drop m := (List.take_append_drop m _).symm
        have e1 : exX (x :: u) = (x :: u).take m ++ exX ((x :: u).drop m) := by
          rw [← exX_same (mb_hi hm), ← e]
        have e2 : ((a : Int) :: R').map mkR = (a : Int) :: R'.map mkR := by
          rw [List.map_cons, mkR, if_neg (by omega)]
        rw [e1, e2]
        exact Str.step r _ _ _ _ 0 _ (Ny.multi (r := r) ((x :: u).take m) _ a hm) (plF_crl f _ R' hR' _ (by omega))
      · have hz : (zD (x :: u)).2.2 = false := by
          unfold zD
          rw [b0, if_neg ha, if_neg h2]
        exact absurd hz hok

/-- The wanted runes, the first j marked. -/
def mid (R : List Int) (j : Nat) : List Int := (R.take j).map mkR ++ R.drop j
theorem mid_zero (R : List Int) : mid R 0 = R := rfl
theorem mid_all (R : List Int) : mid R R.length = R.map mkR := by
  unfold mid
  rw [List.take_length, List.drop_length, List.append_nil]
theorem mid_len (R : List Int) (j : Nat) : (mid R j).length = R.length := by
  unfold mid
  rw [List.length_append, List.length_map, List.length_take, List.length_drop]
  omega
theorem mid_at (R : List Int) {j : Nat} (hj : j < R.length) : (mid R j)[j]? = some R[j] := by
  unfold mid
  rw [List.getElem?_append_right (by rw [List.length_map, List.length_take]; omega)]
  rw [List.length_map, List.length_take, Nat.min_eq_left (by omega), Nat.sub_self, List.getElem?_drop, Nat.add_zero, List.getElem?_eq_getElem hj]
theorem mid_step (R : List Int) {j : Nat} (hj : j < R.length) : mid R (j + 1) = (mid R j).set j (mkR R[j]) := by
  have hl : (List.map mkR (R.take j)).length = j := by rw [List.length_map, List.length_take]; omega
  unfold mid
  rw [List.set_append_right _ _ (by omega), hl, Nat.sub_self, List.drop_eq_getElem_cons hj, List.take_add_one, List.getElem?_eq_getElem hj, List.set_cons_zero, List.map_append]
  simp only [Option.toList, List.map_cons, List.map_nil, List.append_assoc, List.cons_append, List.nil_append]
theorem mid_same (R : List Int) {j : Nat} (hj : j < R.length) (h : R[j] ≠ 10) : mid R (j + 1) = mid R j := by
  rw [mid_step R hj, mkR, if_neg h]
  exact List.ext_getElem? fun i => by
    rw [List.getElem?_set]
    split
    · rename_i e
      subst e
      rw [mid_at R hj, if_pos (by rw [mid_len]; exact hj)]
    · rfl

theorem OwnV.store {T : TypeId} {w : World} {A : Option Addr} {n c : Nat} {l : List Value} (h : OwnV T w (.slice A n c) l) (j : Nat) {x : Value} (hj : l[j]? = some x) (v : Value) :
    ∃ g, A = some ⟨g, 0, none⟩ ∧ w.cell? ⟨g, j, none⟩ = some x ∧ w.frozen? ⟨g, j, none⟩ = false ∧ OwnV T (w.setCell ⟨g, j, none⟩ v) (.slice A n c) (l.set j v) := by
  have hlt : j < l.length := (List.getElem?_eq_some_iff.1 hj).1
  rcases h.2 with ⟨h1, h2⟩ | ⟨g, cap, cur, h1, hb, hg, hnc, hcm, hcs, htk⟩
  · omega
  · simp only [Value.slice.injEq] at h1
    obtain ⟨rfl, rfl, rfl⟩ := h1
    rw [Nat.mul_one] at htk
    refine ⟨g, rfl, ?_, by simp [World.frozen?, hg], ⟨by simp, .inr ⟨g, _, cur.setIfInBounds j v, by rw [List.length_set], hb, heap_setCell_same w g j _ _ v hg, by rw [List.length_set]; exact hnc, hcm, by rw [Array.size_setIfInBounds]; exact hcs, ?_⟩⟩⟩
    · rw [cell_of_row _ _ _ _ _ _ hg, ← Array.getElem?_toList, ← List.getElem?_take_of_lt hlt, htk, hj]
    · rw [List.length_set, Nat.mul_one, Array.toList_setIfInBounds, List.take_set, htk]
end Go.Proofs.YtpkgpkklgkpbfaaFmt
