/-
  FnBracesTwoListsCartesian, walked.
-/
import Derived.Test.YtafgbgdehpcapaaGreatFmtHM
namespace Go.Proofs.YtafgbgdehpcapaaGreatFmt
open Go.RowKit


theorem all_at {w : World} {A : Option Addr} {n c k : Nat} {items : List (Nat × Value × List Value)} {t : Nat × Value × List Value} (h : AllAt w (.slice A n c) items) (hk : items[k]? = some t) : ∃ g, A = some ⟨g, 0, none⟩ ∧ w.cell? ⟨g, k, none⟩ = some (.pointer (some ⟨t.1, 0, none⟩)) ∧ g < w.heap.size ∧ WordAt w t.1 t.2.1 ∧ OwnV 52 w t.2.1 t.2.2 := by
  have hlt : k < items.length := (List.getElem?_eq_some_iff.1 hk).1
  have hm := List.mem_of_getElem? hk
  obtain ⟨h1, h2⟩ := h
  rcases h1.2 with ⟨e, h0⟩ | ⟨g, cap, cur, e, _, hg, hnc, hcm, hcs, htk⟩
  · simp at h0; subst h0; simp at hlt
  · cases e
    refine ⟨g, rfl, ?_, heap_lt hg, (h2 t hm).1, (h2 t hm).2⟩
    rw [Nat.mul_one] at htk
    rw [cell_of_row _ _ _ _ _ _ hg, ← Array.getElem?_toList, ← List.getElem?_take_of_lt (j := (items.map fun t => Value.pointer (some ⟨t.1, 0, none⟩)).length) (by simpa using hlt), htk, List.getElem?_map, hk]
    rfl

theorem two_word {w : World} {pw la lb lc b1 b2 : Nat} {lx ly : Nat → Nat} {a b c : ByteArray} {xs ys : List ByteArray} (hT : TwoW w pw la lb lc b1 b2 lx ly a b c xs ys) {A : Option Addr} {n cp : Nat} {items : List (Nat × Value × List Value)} (hall : AllAt w (.slice A n cp) items) (hi : items.map (·.2.2) = prodW la lb lc lx ly xs.length ys.length)
    {i j : Nat} {x y : ByteArray} (hx : xs[i]? = some x) (hy : ys[j]? = some y) (hsz : a.size + x.size + b.size + y.size + c.size ≤ 1000000000) :
    ∃ g pk, A = some ⟨g, 0, none⟩ ∧ w.cell? ⟨g, i * ys.length + j, none⟩ = some (.pointer (some ⟨pk, 0, none⟩)) ∧ g < w.heap.size ∧ ∀ w2, Kept [] w w2 → Calls Tryz.prog 12 #[.pointer (some ⟨pk, 0, none⟩)] w2 fun e w' => e = .returned (.string (catB [a, x, b, y, c])) ∧ Kept [] w2 w' := by
  have hil : i < xs.length := (List.getElem?_eq_some_iff.1 hx).1
  have hjl : j < ys.length := (List.getElem?_eq_some_iff.1 hy).1
  have hp := prodW_at (la := la) (lb := lb) (lc := lc) (lx := lx) (ly := ly) hil hjl
  rw [← hi, List.getElem?_map, Option.map_eq_some_iff] at hp
  obtain ⟨⟨pk, v, ls⟩, ht, hls⟩ := hp
  simp only at hls
  subst hls
  obtain ⟨g, hA, hc, hg, hw, ho⟩ := all_at hall ht
  refine ⟨g, pk, hA, hc, hg, fun w2 k => ?_⟩
  have hT2 := hT.kept k
  obtain ⟨_, e1, _, _, hl1⟩ := hT2.l1
  obtain ⟨_, e2, _, _, hl2⟩ := hT2.l2
  have q1 := (hl1 i hil).2.1
  have q2 := (hl2 j hjl).2.1
  rw [(List.getElem?_eq_some_iff.1 hx).2] at q1
  rw [(List.getElem?_eq_some_iff.1 hy).2] at q2
  refine lit_any [a, x, b, y, c] (hw.kept k (by simp)) (ho.rd.kept k (by simp)) rfl (by simp) (by simp) (fun k z hz => ?_) ?_
  · match k with
    | 0 => cases hz; exact ⟨a, rfl, _, rfl, hT2.ca⟩
    | 1 => cases hz; exact ⟨x, rfl, _, rfl, q1⟩
    | 2 => cases hz; exact ⟨b, rfl, _, rfl, hT2.cb⟩
    | 3 => cases hz; exact ⟨y, rfl, _, rfl, q2⟩
    | 4 => cases hz; exact ⟨c, rfl, _, rfl, hT2.cc⟩
    | k + 5 => simp at hz
  · have z : ∀ p : ByteArray, p.data.toList.length = p.size := fun _ => rfl
    simp only [List.flatMap_cons, List.flatMap_nil, List.length_append, List.length_nil, z]
    omega

theorem szs_mem {xs : List ByteArray} {i : Nat} {x : ByteArray} (h : xs[i]? = some x) : x.size ≤ (szs xs).sum := by
  induction xs generalizing i with
  | nil => simp at h
  | cons a t ih =>
    cases i with
    | zero => cases h; simp [szs]
    | succ i =>
      have := ih (i := i) (by simpa using h)
      simp only [szs, List.map_cons, List.sum_cons] at this ⊢
      omega

end Go.Proofs.YtafgbgdehpcapaaGreatFmt
