/-
  FnBracesSeqRecStopsWhenAsked, walked.
-/
import Derived.Test.YtcemnjieahpcnaaFmtHP
import Derived.Test.YtcemnjieahpcnaaFmtHN
namespace Go.Proofs.YtcemnjieahpcnaaFmt
open Go.RowKit

theorem two_lit {w : World} {pw la lb lc b1 b2 : Nat} {lx ly : Nat → Nat} {a b c : ByteArray} {xs ys : List ByteArray} (hT : TwoW w pw la lb lc b1 b2 lx ly a b c xs ys) {i j pk : Nat} {v : Value} {x y : ByteArray} (hw : WordAt w pk v) (ho : OwnV 54 w v [litV la, litV (lx i), litV lb, litV (ly j), litV lc])
    (hx : xs[i]? = some x) (hy : ys[j]? = some y) (hsz : a.size + x.size + b.size + y.size + c.size ≤ 1000000000) :
    ∀ w2, Kept [] w w2 → Calls Tryf.prog 13 #[.pointer (some ⟨pk, 0, none⟩)] w2 fun e w' => e = .returned (.string (catB [a, x, b, y, c])) ∧ Kept [] w2 w' := by
  have hil : i < xs.length := (List.getElem?_eq_some_iff.1 hx).1
  have hjl : j < ys.length := (List.getElem?_eq_some_iff.1 hy).1
  intro w2 k
  have hT2 := hT.kept k
  obtain ⟨_, e1, _, _, hl1⟩ := hT2.l1
  obtain ⟨_, e2, _, _, hl2⟩ := hT2.l2
  have q1 := (hl1 i hil).2.1
  have q2 := (hl2 j hjl).2.1
  rw [(List.getElem?_eq_some_iff.1 hx).2] at q1
  rw [(List.getElem?_eq_some_iff.1 hy).2] at q2
  refine lit_any [a, x, b, y, c] (hw.kept k (by simp)) (ho.rd.kept k (by simp)) rfl (by simp) (by simp) (fun k z hz => ?_) ?_
  · match k with
    | 0 => cases hz; exact ⟨a, rfl, _, rfl, hT2.ca⟩
    | 1 => cases hz; exact ⟨x, rfl, _, rfl, q1⟩
    | 2 => cases hz; exact ⟨b, rfl, _, rfl, hT2.cb⟩
    | 3 => cases hz; exact ⟨y, rfl, _, rfl, q2⟩
    | 4 => cases hz; exact ⟨c, rfl, _, rfl, hT2.cc⟩
    | k + 5 => simp at hz
  · have z : ∀ p : ByteArray, p.data.toList.length = p.size := fun _ => rfl
    simp only [List.flatMap_cons, List.flatMap_nil, List.length_append, List.length_nil, z]
    omega

/-- Behind bracesSeqRec: how many words, which was the last. -/
def StopPost (w3 : World) (tb kb tot : Nat) (k : Int) (yss : List (List Value)) (m : Nat) (w' : World) : Prop :=
  w'.cell? ⟨w3.heap.size, 0, none⟩ = some (.int .i64 m) ∧ w'.cell? ⟨tb, 0, none⟩ = some (.int .i64 tot) ∧ w'.cell? ⟨kb, 0, none⟩ = some (.int .i64 k) ∧ Kept [] w3 w' ∧
    (0 < m → ∃ pl v ls, w'.cell? ⟨w3.heap.size + 1, 0, none⟩ = some (.pointer (some ⟨pl, 0, none⟩)) ∧ WordAt w' pl v ∧ OwnV 54 w' v ls ∧ yss[m - 1]? = some ls)

theorem stop_call {w3 : World} {pw la lb lc b1 b2 : Nat} {lx ly : Nat → Nat} {a b c : ByteArray} {xs ys : List ByteArray} (hT : TwoW w3 pw la lb lc b1 b2 lx ly a b c xs ys) {tot : Nat} (htot : xs.length * ys.length = tot) (ht6 : tot ≤ 65536) {tb kb : Nat} {k : Int} (htb : w3.heap[tb]? = some (.cells #[.int .i64 tot] 3 (0, 0))) (hkb : w3.heap[kb]? = some (.cells #[.int .i64 k] 3 (0, 0)))
    (m : Nat) (bb : Bool) (hmb : (bb = false ∧ 1 ≤ m ∧ m ≤ tot ∧ k = m) ∨ (bb = true ∧ m = tot ∧ ¬ (1 ≤ k ∧ k ≤ tot))) :
    Calls Tryf.prog 22 #[.pointer (some ⟨pw, 0, none⟩), .func (.func 26) #[] #[.pointer (some ⟨w3.heap.size, 0, none⟩), .pointer (some ⟨w3.heap.size + 1, 0, none⟩), .pointer (some ⟨tb, 0, none⟩), .pointer (some ⟨kb, 0, none⟩)]]
      ((w3.alloc (.cells #[.int .i64 0] 3)).alloc (.cells #[.pointer none] 25)) fun e w' => e = .returned (.bool bb) ∧ StopPost w3 tb kb tot k (prodW la lb lc lx ly xs.length ys.length) m w' := by
  obtain ⟨vw, hvw, hrw⟩ := hT.word
  have hz1 : (w3.alloc (.cells #[.int .i64 0] 3)).heap.size = w3.heap.size + 1 := by simp
  have q1 := heap_alloc_new w3 (.cells #[.int .i64 0] 3)
  have q2 := heap_alloc_new (w3.alloc (.cells #[.int .i64 0] 3)) (.cells #[.pointer none] 25)
  rw [hz1] at q2
  have q1' := (Below.heap_alloc (w3.alloc (.cells #[.int .i64 0] 3)) (.cells #[.pointer none] 25) w3.heap.size (by rw [hz1]; omega)).trans q1
  have kk : Kept [] w3 ((w3.alloc (.cells #[.int .i64 0] 3)).alloc (.cells #[.pointer none] 25)) := ((Kept.refl _ _).alloc _).alloc _
  have hlt1 := heap_lt htb
  have hlt2 := heap_lt hkb
  have hj : StpJ w3.heap.size w3.heap.size (w3.heap.size + 1) tb kb tot k [] [w3.heap.size, w3.heap.size + 1] ((w3.alloc (.cells #[.int .i64 0] 3)).alloc (.cells #[.pointer none] 25)) :=
    ⟨_, [], q1', q2, (kk.block _ hlt1 (by simp)).trans htb, (kk.block _ hlt2 (by simp)).trans hkb, .inl ⟨rfl, rfl, rfl⟩, rfl, by simp, hlt1, hlt2⟩
  have hlen := prodW_length la lb lc lx ly xs.length ys.length
  rw [htot] at hlen
  have hb := bsr hT.exp _ _ _ _ _ _ (stp_cons (w0 := w3) (B := w3.heap.size) (cb := w3.heap.size) (lb := w3.heap.size + 1) (tb := tb) (kb := kb) (tot := tot) (k := k)) (by simp) [] [w3.heap.size, w3.heap.size + 1] ((w3.alloc (.cells #[.int .i64 0] 3)).alloc (.cells #[.pointer none] 25)) pw vw (safe_stp [] _ (by rw [hlen]; simp; omega) (fun y hy => by rw [prodW_mem y hy]; omega)) hj
    ⟨kk.size, fun i hi => kk.block i hi (by simp)⟩ (hvw.kept kk (by simp)) (by have := heap_lt hvw; simp; omega) ((hrw.weaken (Q := (· ∉ [w3.heap.size, w3.heap.size + 1])) (fun g hg _ => by simp; omega)).kept kk (by simp))
  have hR : runs (stp tot k) [] (prodW la lb lc lx ly xs.length ys.length) = ((prodW la lb lc lx ly xs.length ys.length).take m, bb) := by
    rw [runs_stp [] _ (by rw [hlen]; simp)]
    rcases hmb with ⟨rfl, h1, h2, rfl⟩ | ⟨rfl, rfl, h⟩
    · rw [if_pos (by rw [hlen]; simp; omega)]
      simp
    · rw [if_neg (by rw [hlen]; simp; omega), List.take_of_length_le (by omega)]
      simp
  rw [hR] at hb
  dsimp only at hb
  have hml : ((prodW la lb lc lx ly xs.length ys.length).take m).length = m := by
    rw [List.length_take, hlen]
    rcases hmb with ⟨_, _, h, _⟩ | ⟨_, h, _⟩ <;> omega
  refine zbsr (hb.mono ?_)
  rintro e w' ⟨rfl, F', ⟨lv, extra, p1, p2, p3, p4, p5, _⟩, _, hk⟩
  rw [hml] at p1
  refine ⟨rfl, row0 p1, row0 p3, row0 p4, ((kk.weaken (S' := [w3.heap.size, w3.heap.size + 1]) (by simp)).trans hk).weaken (by simp), fun h0 => ?_⟩
  rcases p5 with ⟨p, _⟩ | ⟨pl, v, s0, ls, e1, e2, e3, e4, _⟩
  · rw [p] at hml; simp at hml; omega
  · subst e2
    refine ⟨pl, v, ls, row0 p2, e3, e4, ?_⟩
    have hl0 : s0.length + 1 = m := by rw [← hml, e1]; simp
    have : ((prodW la lb lc lx ly xs.length ys.length).take m)[m - 1]? = some ls := by rw [e1, List.getElem?_append_right (by omega), show m - 1 - s0.length = 0 by omega]; rfl
    rw [List.getElem?_take] at this
    split at this
    · exact this
    · cases this

theorem cat5_size (x y : ByteArray) (h : x.size + y.size ≤ 1000000000) : (catB [⟨#[]⟩, x, ⟨#[]⟩, y, ⟨#[]⟩]).size ≤ 1000000000 := by
  have z : ∀ p : ByteArray, p.data.toList.length = p.size := fun _ => rfl
  show (List.flatMap _ _).length ≤ _
  simp only [List.flatMap_cons, List.flatMap_nil, List.length_append, List.length_nil, z]
  show 0 + (x.size + (0 + (y.size + (0 + 0)))) ≤ _
  omega
/-- The m-th word of the product, by its row and column. -/
theorem prod_ij {la lb lc : Nat} {lx ly : Nat → Nat} {xs ys : List ByteArray} {n1 n2 m : Nat} {ls : List Value} (l1 : xs.length = n1) (l2 : ys.length = n2) (h1 : 1 ≤ m) (h2 : m ≤ n1 * n2) (h : (prodW la lb lc lx ly xs.length ys.length)[m - 1]? = some ls) :
    ∃ i j x y, ((m : Int) - 1) / n2 = (i : Nat) ∧ ((m : Int) - 1).tdiv n2 = (i : Nat) ∧ ((m : Int) - 1) % n2 = (j : Nat) ∧ ((m : Int) - 1).tmod n2 = (j : Nat) ∧ xs[i]? = some x ∧ ys[j]? = some y ∧ ls = [litV la, litV (lx i), litV lb, litV (ly j), litV lc] := by
  subst l1 l2
  have hn2 : 0 < ys.length := by
    rcases Nat.eq_zero_or_pos ys.length with h | h
    · rw [h, Nat.mul_zero] at h2; omega
    · exact h
  have hi : (m - 1) / ys.length < xs.length := Nat.div_lt_of_lt_mul (by rw [Nat.mul_comm]; omega)
  have hj : (m - 1) % ys.length < ys.length := Nat.mod_lt _ hn2
  have e : ((m : Int) - 1) = ((m - 1 : Nat) : Int) := by omega
  have hr : ((m : Int) - 1) % ys.length = ((m - 1) % ys.length : Nat) := by rw [e, Int.natCast_emod]
  refine ⟨(m - 1) / ys.length, (m - 1) % ys.length, _, _, by rw [e, Int.natCast_ediv], by rw [Int.tdiv_eq_ediv_of_nonneg (by omega), e, Int.natCast_ediv], hr, by rw [Int.tmod_eq_emod_of_nonneg (by omega)]; exact hr, List.getElem?_eq_getElem hi, List.getElem?_eq_getElem hj, ?_⟩
  have hp := prodW_at (la := la) (lb := lb) (lc := lc) (lx := lx) (ly := ly) hi hj
  rw [show (m - 1) / ys.length * ys.length + (m - 1) % ys.length = m - 1 by rw [Nat.mul_comm]; exact Nat.div_add_mod _ _, h] at hp
  exact Option.some.inj hp

end Go.Proofs.YtcemnjieahpcnaaFmt
