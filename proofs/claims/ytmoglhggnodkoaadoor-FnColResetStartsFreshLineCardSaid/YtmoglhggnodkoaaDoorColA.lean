/-
  n010_113: a write of whatever slice, and the laws on one write.
-/
import Derived.Test.YtmoglhggnodkoaaDoorCols
namespace Go.Proofs.YtmoglhggnodkoaaDoor
open Go.RowKit

/-- Where a slice lies: nowhere (nil), or in a block that is none of S. -/
def Apart (w : World) (S : List Nat) (A : Option Addr) (n c : Nat) : Prop := (A = none ∧ n = 0 ∧ c = 0) ∨ ∃ g o, A = some ⟨g, o, none⟩ ∧ g < w.heap.size ∧ g ∉ S
theorem Apart.kept {w w' : World} {S : List Nat} {A : Option Addr} {n c : Nat} (h : Apart w S A n c) (hs : w.heap.size ≤ w'.heap.size) : Apart w' S A n c := by
  rcases h with h | ⟨g, o, h1, h2, h3⟩
  · exact .inl h
  · exact .inr ⟨g, o, h1, by omega, h3⟩

theorem clone2 (w : World) (A : Option Addr) (n c : Nat) (l : List UInt8) (hn : n < 1000000000) (hA : A = none → n = 0 ∧ c = 0) (h : SrcB w A n l) :
    Calls Tryd.prog 17 #[.slice A n c] w fun e w' => ∃ A', e = .returned (.slice A' n n) ∧ SrcB w' A' n l ∧ Kept [] w w' ∧ ((A' = none ∧ n = 0) ∨ (A' = some ⟨w.heap.size, 0, none⟩ ∧ w.heap.size < w'.heap.size)) := by
  cases A with
  | none =>
    obtain ⟨rfl, rfl⟩ := hA rfl
    refine (clone_nil w 0 0).mono ?_
    rintro e w' ⟨rfl, rfl⟩
    exact ⟨none, rfl, h, Kept.refl _ _, .inl ⟨rfl, rfl⟩⟩
  | some a =>
    by_cases h0 : 0 < n
    · obtain ⟨g, o, e, hg, hc⟩ := h.2 h0
      obtain rfl : a = ⟨g, o, none⟩ := Option.some.inj e
      refine (clone_some w g o n c l hn h.1 (fun _ => hg) hc).mono ?_
      rintro e w' ⟨rfl, hb, hk⟩
      exact ⟨_, rfl, SrcB.row hb h.1, hk, .inr ⟨rfl, heap_lt hb⟩⟩
    · obtain rfl : n = 0 := by omega
      refine (clone_zero2 w a c).mono ?_
      rintro e w' ⟨rfl, hk, hz⟩
      exact ⟨_, rfl, ⟨h.1, fun h => absurd h (by omega)⟩, hk, .inr ⟨rfl, hz⟩⟩

theorem zwriteA {w : World} {wb rb b : Nat} {col : Int} {ls : Bool} {row : Option Nat} {bs pend : List UInt8} (h : Sk w wb rb b col ls row bs pend) (A : Option Addr) (n c : Nat) (p : List UInt8) (hp : SrcB w A n p) (hA : Apart w (wb :: rb :: b :: row.toList) A n c)
    (hnc : n ≤ c) (hc : c ≤ 9223372036854775807) (hlim : (bs ++ pend).length + n ≤ 100000000000) (hc1 : 0 ≤ col) (hc2 : col ≤ 100000000000) :
    Calls Tryd.prog 18 #[.pointer (some ⟨b, 0, none⟩), .slice A n c] w fun e w' => e = .returned (.tuple #[.int .i64 n, .bool true]) ∧ ∃ row' bs' pend', Sk w' wb rb b (foldC col ls p).1 (foldC col ls p).2 row' bs' pend' ∧ bs' ++ pend' = bs ++ pend ++ p ∧ Mv wb rb b row row' w w' := by
  rcases hA with ⟨rfl, rfl, rfl⟩ | ⟨g, o, rfl, h2, h3⟩
  · refine (zwrite_nil h).mono ?_
    rintro e w' ⟨rfl, h4, h5⟩
    obtain rfl : p = [] := List.eq_nil_of_length_eq_zero hp.1
    exact ⟨rfl, row, bs, pend, h4, by simp, h5⟩
  · refine zwrite h g o n c p hp.1 (fun _ => h2) (fun j x hj => ?_) h3 hnc hc hlim hc1 hc2
    have hj2 : j < p.length := (List.getElem?_eq_some_iff.1 hj).1
    obtain ⟨g', o', e, _, hcc⟩ := hp.2 (by have := hp.1; omega)
    cases e
    exact hcc j x hj
end Go.Proofs.YtmoglhggnodkoaaDoor
