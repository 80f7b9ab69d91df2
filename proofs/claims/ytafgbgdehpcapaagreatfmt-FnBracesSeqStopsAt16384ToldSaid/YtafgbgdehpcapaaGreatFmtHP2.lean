/-
  FnBracesSeqRecStopsWhenAsked, walked.
-/
import Derived.Test.YtafgbgdehpcapaaGreatFmtHN
namespace Go.Proofs.YtafgbgdehpcapaaGreatFmt
open Go.RowKit


theorem two_lit {w : World} {pw la lb lc b1 b2 : Nat} {lx ly : Nat → Nat} {a b c : ByteArray} {xs ys : List ByteArray} (hT : TwoW w pw la lb lc b1 b2 lx ly a b c xs ys) {i j pk : Nat} {v : Value} {x y : ByteArray} (hw : WordAt w pk v) (ho : OwnV 52 w v [litV la, litV (lx i), litV lb, litV (ly j), litV lc])
    (hx : xs[i]? = some x) (hy : ys[j]? = some y) (hsz : a.size + x.size + b.size + y.size + c.size ≤ 1000000000) :
    ∀ w2, Kept [] w w2 → Calls Tryz.prog 12 #[.pointer (some ⟨pk, 0, none⟩)] w2 fun e w' => e = .returned (.string (catB [a, x, b, y, c])) ∧ Kept [] w2 w' := by
  have hil : i < xs.length := (List.getElem?_eq_some_iff.1 hx).1
  have hjl : j < ys.length := (List.getElem?_eq_some_iff.1 hy).1
  intro w2 k
  have hT2 := hT.kept k
  obtain ⟨_, e1, _, _, hl1⟩ := hT2.l1
  obtain ⟨_, e2, _, _, hl2⟩ := hT2.l2
  have q1 := (hl1 i hil).2.1
  have q2 := (hl2 j hjl).2.1
  rw [(List.getElem?_eq_some_iff.1 hx).2] at q1
  rw [(List.getElem?_eq_some_iff.1 hy).2] at q2
  refine lit_any [a, x, b, y, c] (hw.kept k (by simp)) (ho.rd.kept k (by simp)) rfl (by simp) (by simp) (fun k z hz => ?_) ?_
  · match k with
    | 0 => cases hz; exact ⟨a, rfl, _, rfl, hT2.ca⟩
    | 1 => cases hz; exact ⟨x, rfl, _, rfl, q1⟩
    | 2 => cases hz; exact ⟨b, rfl, _, rfl, hT2.cb⟩
    | 3 => cases hz; exact ⟨y, rfl, _, rfl, q2⟩
    | 4 => cases hz; exact ⟨c, rfl, _, rfl, hT2.cc⟩
    | k + 5 => simp at hz
  · have z : ∀ p : ByteArray, p.data.toList.length = p.size := fun _ => rfl
    simp only [List.flatMap_cons, List.flatMap_nil, List.length_append, List.length_nil, z]
    omega

theorem cat5_size (x y : ByteArray) (h : x.size + y.size ≤ 1000000000) : (catB [⟨#[]⟩, x, ⟨#[]⟩, y, ⟨#[]⟩]).size ≤ 1000000000 := by
  have z : ∀ p : ByteArray, p.data.toList.length = p.size := fun _ => rfl
  show (List.flatMap _ _).length ≤ _
  simp only [List.flatMap_cons, List.flatMap_nil, List.length_append, List.length_nil, z]
  show 0 + (x.size + (0 + (y.size + (0 + 0)))) ≤ _
  omega
/-- The m-th word of the product, by its row and column. -/
theorem prod_ij {la lb lc : Nat} {lx ly : Nat → Nat} {xs ys : List ByteArray} {n1 n2 m : Nat} {ls : List Value} (l1 : xs.length = n1) (l2 : ys.length = n2) (h1 : 1 ≤ m) (h2 : m ≤ n1 * n2) (h : (prodW la lb lc lx ly xs.length ys.length)[m - 1]? = some ls) :
    ∃ i j x y, ((m : Int) - 1) / n2 = (i : Nat) ∧ ((m : Int) - 1).tdiv n2 = (i : Nat) ∧ ((m : Int) - 1) % n2 = (j : Nat) ∧ ((m : Int) - 1).tmod n2 = (j : Nat) ∧ xs[i]? = some x ∧ ys[j]? = some y ∧ ls = [litV la, litV (lx i), litV lb, litV (ly j), litV lc] := by
  subst l1 l2
  have hn2 : 0 < ys.length := by
    rcases Nat.eq_zero_or_pos ys.length with h | h
    · rw [h, Nat.mul_zero] at h2; omega
    · exact h
  have hi : (m - 1) / ys.length < xs.length := Nat.div_lt_of_lt_mul (by rw [Nat.mul_comm]; omega)
  have hj : (m - 1) % ys.length < ys.length := Nat.mod_lt _ hn2
  have e : ((m : Int) - 1) = ((m - 1 : Nat) : Int) := by omega
  have hr : ((m : Int) - 1) % ys.length = ((m - 1) % ys.length : Nat) := by rw [e, Int.natCast_emod]
  refine ⟨(m - 1) / ys.length, (m - 1) % ys.length, _, _, by rw [e, Int.natCast_ediv], by rw [Int.tdiv_eq_ediv_of_nonneg (by omega), e, Int.natCast_ediv], hr, by rw [Int.tmod_eq_emod_of_nonneg (by omega)]; exact hr, List.getElem?_eq_getElem hi, List.getElem?_eq_getElem hj, ?_⟩
  have hp := prodW_at (la := la) (lb := lb) (lc := lc) (lx := lx) (ly := ly) hi hj
  rw [show (m - 1) / ys.length * ys.length + (m - 1) % ys.length = m - 1 by rw [Nat.mul_comm]; exact Nat.div_add_mod _ _, h] at hp
  exact Option.some.inj hp


end Go.Proofs.YtafgbgdehpcapaaGreatFmt
