/-
  The outer list brace, whose elements' row may still grow; the nested word and the flat word: how they lie, and what they expand to.
-/
import Derived.Test.YtcemnjieahpcnaaFmtHN
namespace Go.Proofs.YtcemnjieahpcnaaFmt
open Go.RowKit

/-- A word of one literal between the blocks m and u. -/
def OneU (w : World) (m u eb lb : Nat) (s : ByteArray) : Prop := (∃ pv, WordAt w eb pv ∧ RdV (fun g => m ≤ g ∧ g < u) w pv [litV lb]) ∧ w.cell? ⟨lb, 4, none⟩ = some (.string s) ∧ (m ≤ eb ∧ eb < u) ∧ m ≤ lb ∧ lb < u
theorem OneU.kept {w w' : World} {S : List Nat} {m u eb lb : Nat} {s : ByteArray} (h : OneU w m u eb lb s) (k : Kept S w w') (hS : ∀ x ∈ S, x < m ∨ u ≤ x) : OneU w' m u eb lb s := by
  obtain ⟨⟨pv, h1, h2⟩, h3, h4, h5⟩ := h
  have hn : ∀ g, m ≤ g → g < u → g ∉ S := fun g hg hg2 hm => by have := hS g hm; omega
  exact ⟨⟨pv, h1.kept k (hn _ h4.1 h4.2), h2.kept k (fun g hg _ => hn g hg.1 hg.2)⟩, (k.cell (p := ⟨lb, 4, none⟩) (block_lt_of_cell h3) (hn _ h5.1 h5.2)).trans h3, h4, h5⟩
theorem OneWord.upto {w : World} {m eb lb : Nat} {s : ByteArray} (h : OneWord w m eb lb s) : OneU w m w.heap.size eb lb s := by
  obtain ⟨⟨pv, h1, h2⟩, h3, h4, h5⟩ := h
  exact ⟨⟨pv, h1, h2.weaken (fun g hg hm => ⟨hm, hg⟩)⟩, h3, ⟨h4, heap_lt h1⟩, h5, block_lt_of_cell h3⟩
theorem OneU.one {w : World} {m u eb lb : Nat} {s : ByteArray} (h : OneU w m u eb lb s) : OneWord w 0 eb lb s := by
  obtain ⟨⟨pv, h1, h2⟩, h3, h4, h5⟩ := h
  exact ⟨⟨pv, h1, h2.weaken (fun g _ _ => Nat.zero_le _)⟩, h3, Nat.zero_le _, Nat.zero_le _⟩

theorem Filled.own {T : TypeId} {w wr : World} {n : Nat} {vs : List Value} {z : Value} (h : Filled T w wr n vs z) (hl : vs.length = n) (hn : n ≤ 1000000000) : OwnV T wr (.slice (some ⟨w.heap.size, 0, none⟩) n n) vs := by
  obtain ⟨h1, _⟩ := h
  cases hl
  exact ⟨by rw [Nat.mul_one], .inr ⟨w.heap.size, vs.length, _, rfl, Nat.zero_le _, h1, Nat.le_refl _, by unfold maxLen; omega, by simp, by simp⟩⟩

/-- The outer list brace b: its elements' row is r, its words lie between m and u. -/
structure Outer (w : World) (b r m u n : Nat) (eb lx : Nat → Nat) (xs : List ByteArray) : Prop where
  br : w.heap[b]? = some (.cells #[.bool false, .slice (some ⟨r, 0, none⟩) n n] 35 (0, 0))
  own : OwnV 25 w (.slice (some ⟨r, 0, none⟩) n n) (ptrs eb n)
  ws : ∀ j, j < n → ∀ s, xs[j]? = some s → OneU w m u (eb j) (lx j) s
theorem Outer.kept {w w' : World} {b r m u n : Nat} {eb lx : Nat → Nat} {xs : List ByteArray} (h : Outer w b r m u n eb lx xs) (k : Kept [] w w') : Outer w' b r m u n eb lx xs :=
  ⟨(k.block b (heap_lt h.br) (by simp)).trans h.br, h.own.kept k (by simp), fun j hj s hs => (h.ws j hj s hs).kept k (by simp)⟩
theorem outer_new {w wr : World} {n : Nat} {eb lx : Nat → Nat} {xs : List ByteArray} (hf : Filled 25 w wr n (ptrs eb n) (.pointer none)) (how : ∀ j, j < n → ∀ s, xs[j]? = some s → OneWord wr (w.heap.size + 1) (eb j) (lx j) s) (hn : n ≤ 1000000000) :
    Outer (wr.alloc (.cells #[.bool false, .slice (some ⟨w.heap.size, 0, none⟩) n n] 35)) wr.heap.size w.heap.size (w.heap.size + 1) wr.heap.size n eb lx xs :=
  ⟨heap_alloc_new wr _, (hf.own (by simp [ptrs]) hn).kept ((Kept.refl [] wr).alloc _) (by simp), fun j hj s hs => (how j hj s hs).upto.kept ((Kept.refl [] wr).alloc _) (by simp)⟩
def LbPost2 (w : World) (n : Nat) (xs : List ByteArray) (e : Ending) (w' : World) : Prop := ∃ (b r m u : Nat) (eb lx : Nat → Nat), e = .returned (.pointer (some ⟨b, 0, none⟩)) ∧ Outer w' b r m u n eb lx xs ∧ Kept [] w w' ∧ r < m ∧ m ≤ u ∧ u ≤ b ∧ b < w'.heap.size ∧ w.heap.size ≤ r

set_option maxRecDepth 100000 in
set_option maxHeartbeats 800000 in
theorem listbrace2_any {w : World} {P : Nat → Prop} {A : Option Addr} {n c : Nat} {xs : List ByteArray} (h : RdV P w (.slice A n c) (strV xs)) (hn : n ≤ 1048576) :
    Calls Tryf.prog 16 #[.slice A n c] w (LbPost2 w n xs) := by
  have hl := strs_len h
  have hcell : Hid (∀ (k : Nat) (x : ByteArray), xs[k]? = some x → ∃ g o, A = some ⟨g, o, none⟩ ∧ w.cell? ⟨g, o + k, none⟩ = some (.string x) ∧ g < w.heap.size) := Lib.hid (fun k x hx => by
    have hk : k < xs.length := (List.getElem?_eq_some_iff.1 hx).1
    obtain ⟨g, o, rfl⟩ : ∃ g o, A = some ⟨g, o, none⟩ := by
      obtain ⟨_, c', e, h1, _, h3, h5, h4⟩ := h
      cases e
      obtain ⟨g, o, e, _⟩ := h4 (by simp [strV]; omega)
      exact ⟨g, o, e⟩
    exact ⟨g, o, rfl, strs_cell h hx⟩)
  have HL := Lib.hid hl
  have hmk := make_el word_el rfl n (by omega) w
  have h0 : Hid (Elems w (w.alloc (.cells (List.replicate n (.pointer none)).toArray 25)) n xs 0) := Lib.hid ⟨fun _ => 0, fun _ => 0, ⟨by simpa [ptrs] using heap_alloc_new w (.cells (List.replicate n (.pointer none)).toArray 25), (Kept.refl _ _).alloc _⟩, fun j hj => absurd hj (by omega)⟩
  have hc63 : c ≤ 9223372036854775807 := by
    obtain ⟨_, c', e, _, h2, _⟩ := h
    cases e
    unfold maxLen at h2
    omega
  clear h hl
  go_enter Tryf.func16, Tryf.ntmps16
  go_wp2_with fail
  go_loopw [4] (fun i wr => ∃ k : Nat, k ≤ n ∧ i = .int .i64 k ∧ Hid (Elems w wr n xs k)) (fun i _ => n - (intOf i).toNat)
  case atStart => exact ⟨0, Nat.zero_le _, rfl, h0⟩
  case round =>
    obtain ⟨k, hk, rfl, HF⟩ := hrel
    by_cases hlt : k < n
    · have hlt' : k < xs.length := by rw [HL.out]; exact hlt
      obtain ⟨eb, lb, hfl, how⟩ := HF.out
      obtain ⟨x, hx⟩ : ∃ x, xs[k]? = some x := ⟨_, List.getElem?_eq_getElem hlt'⟩
      obtain ⟨g, o, hA, hc, hg⟩ := hcell.out k x hx
      have d0 : wr.cell? ⟨g, o + k, none⟩ = some (.string x) := (hfl.2.cell (p := ⟨g, o + k, none⟩) hg (by simp)).trans hc
      have HX := Lib.hid hx
      have HFL := Lib.hid hfl; have HOW := Lib.hid how
      have HZ := Lib.hid (zlitword x wr)
      have hpl : Hid ((ptrs eb k).length = k) := Lib.hid (by simp [ptrs])
      have hzz : w.heap.size < wr.heap.size := heap_lt hfl.1
      clear hc hlt' hx hfl how
      subst hA
      go_wp2_with (go_at_call 20; refine HZ.out.mono ?_; rintro e w1 ⟨rfl, how1, hk1⟩; have hf1 := HFL.out.kept hk1; have d1 : w1.cell? ⟨w.heap.size, k, none⟩ = some (.pointer none) := (by rw [row_cell hf1.1, List.getElem?_append_right (by rw [hpl.out]; exact Nat.le_refl _), hpl.out, Nat.sub_self, List.getElem?_replicate_of_lt (by omega)]); have f1 : ∀ i, w1.frozen? ⟨w.heap.size, i, none⟩ = false := row_free hf1.1; have HF1 := Lib.hid hf1; have HW1 := Lib.hid how1; have HK1 := Lib.hid hk1; clear how1 hk1 hf1)
      go_roundw
      case rel => exact ⟨k + 1, by omega, by go_num, Lib.hid (elems_step hlt HF1.out HK1.out HOW.out HX.out HW1.out hzz)⟩
      case measure => simp [intOf]; omega
    · obtain rfl : k = n := by omega
      obtain ⟨eb, lb, hfl, how⟩ := HF.out
      have HFL := Lib.hid hfl; have HOW := Lib.hid how
      clear hfl how
      go_wp2_with fail
      go_ret
      exact ⟨wr.heap.size, w.heap.size, w.heap.size + 1, wr.heap.size, eb, lb, rfl, outer_new HFL.out HOW.out (by omega), HFL.out.2.alloc _, by omega, by have := heap_lt HFL.out.1; omega, Nat.le_refl _, by simp, Nat.le_refl _⟩

def lfN (n1 : Nat) (lx ly : Nat → Nat) (i : Nat) : Nat := if i < n1 then lx i else ly (i - n1)
/-- What the word a{Z}b expands to. -/
def oneW (la lb : Nat) (lf : Nat → Nat) (n : Nat) : List (List Value) := (List.range n).map fun i => [litV la, litV (lf i), litV lb]
theorem oneW_length (la lb : Nat) (lf : Nat → Nat) (n : Nat) : (oneW la lb lf n).length = n := by simp [oneW]
theorem oneW_mem {la lb : Nat} {lf : Nat → Nat} {n : Nat} : ∀ y ∈ oneW la lb lf n, y.length = 3 := by
  intro y hy
  unfold oneW at hy
  simp only [List.mem_map] at hy
  obtain ⟨i, _, rfl⟩ := hy
  rfl
theorem fm_one {α : Type} {n : Nat} {f : Nat → List α} {g : Nat → α} (h : ∀ k, k < n → f k = [g k]) : (List.range n).flatMap f = (List.range n).map g := by
  induction n with
  | zero => rfl
  | succ n ih => rw [List.range_succ, List.flatMap_append, List.map_append, ih (fun k hk => h k (by omega))]; simp [h n (by omega)]
theorem oneW_split (la lb n1 n2 : Nat) (lx ly : Nat → Nat) : oneW la lb (lfN n1 lx ly) (n1 + n2) = ((List.range n1).map fun i => [litV la, litV (lx i), litV lb]) ++ ((List.range n2).map fun j => [litV la, litV (ly j), litV lb]) := by
  unfold oneW
  rw [List.range_add, List.map_append, List.map_map]
  congr 1
  · refine List.map_congr_left (fun i hi => ?_)
    unfold lfN
    rw [if_pos (List.mem_range.1 hi)]
  · refine List.map_congr_left (fun i hi => ?_)
    show [litV la, litV (lfN n1 lx ly (n1 + i)), litV lb] = _
    unfold lfN
    rw [if_neg (by omega), Nat.add_sub_cancel_left]

structure FlatW (w : World) (pw la lb b3 : Nat) (lz : Nat → Nat) (a b : ByteArray) (zs : List ByteArray) : Prop where
  word : ∃ v, WordAt w pw v ∧ RdV Any w v [litV la, brV b3, litV lb]
  ca : w.cell? ⟨la, 4, none⟩ = some (.string a)
  cb : w.cell? ⟨lb, 4, none⟩ = some (.string b)
  l : ListAt w b3 zs lz
theorem FlatW.kept {w w' : World} {pw la lb b3 : Nat} {lz : Nat → Nat} {a b : ByteArray} {zs : List ByteArray} (h : FlatW w pw la lb b3 lz a b zs) (k : Kept [] w w') : FlatW w' pw la lb b3 lz a b zs := by
  obtain ⟨⟨v, h1, h2⟩, h3, h4, h5⟩ := h
  exact ⟨⟨v, h1.kept k (by simp), h2.kept k (by simp)⟩, (k.cell (p := ⟨la, 4, none⟩) (block_lt_of_cell h3) (by simp)).trans h3, (k.cell (p := ⟨lb, 4, none⟩) (block_lt_of_cell h4) (by simp)).trans h4, h5.kept k⟩
theorem ll_one (x y : Nat) : ∀ v ∈ [litV x, litV y], v.oneCell' = true := one_of (by simp; exact ⟨.inl ⟨_, rfl⟩, .inl ⟨_, rfl⟩⟩)
theorem FlatW.exp {w : World} {pw la lb b3 : Nat} {lz : Nat → Nat} {a b : ByteArray} {zs : List ByteArray} (h : FlatW w pw la lb b3 lz a b zs) : Exp w w.heap.size [litV la, brV b3, litV lb] (oneW la lb lz zs.length) := by
  obtain ⟨e, hb, hw⟩ := h.l.brAt
  have := Exp.br (w0 := w) (B := w.heap.size) [litV la] (by simp [isLit_litV]) b3 zs.length e hb [litV lb] (fun k => [litV (lz k)]) (fun k hk => hw k hk) (fun k => [[litV (lz k), litV lb]]) (fun k _ => Exp.done _ (by simp [isLit_litV])) (fun j _ => by simp) (fun j _ => ll_one _ _)
  rw [fm_one (f := fun k => List.map (fun x => [litV la] ++ x) [[litV (lz k), litV lb]]) (g := fun i => [litV la, litV (lz i), litV lb]) (fun k _ => rfl)] at this
  exact this

structure NestW (w : World) (pw la lb b1 b2 pi : Nat) (lx ly : Nat → Nat) (a b : ByteArray) (xs ys : List ByteArray) : Prop where
  word : ∃ v, WordAt w pw v ∧ RdV Any w v [litV la, brV b1, litV lb]
  ca : w.cell? ⟨la, 4, none⟩ = some (.string a)
  cb : w.cell? ⟨lb, 4, none⟩ = some (.string b)
  br : ∃ (ev : Value) (eb : Nat → Nat), w.heap[b1]? = some (.cells #[.bool false, ev] 35 (0, 0)) ∧ RdV Any w ev (ptrs eb xs.length ++ [.pointer (some ⟨pi, 0, none⟩)]) ∧ ∀ k (hk : k < xs.length), OneWord w 0 (eb k) (lx k) xs[k]
  inner : ∃ pv, WordAt w pi pv ∧ RdV Any w pv [brV b2]
  l2 : ListAt w b2 ys ly
theorem NestW.kept {w w' : World} {pw la lb b1 b2 pi : Nat} {lx ly : Nat → Nat} {a b : ByteArray} {xs ys : List ByteArray} (h : NestW w pw la lb b1 b2 pi lx ly a b xs ys) (k : Kept [] w w') : NestW w' pw la lb b1 b2 pi lx ly a b xs ys := by
  obtain ⟨⟨v, h1, h2⟩, h3, h4, ⟨ev, eb, q1, q2, q3⟩, ⟨pv, r1, r2⟩, h5⟩ := h
  exact ⟨⟨v, h1.kept k (by simp), h2.kept k (by simp)⟩, (k.cell (p := ⟨la, 4, none⟩) (block_lt_of_cell h3) (by simp)).trans h3, (k.cell (p := ⟨lb, 4, none⟩) (block_lt_of_cell h4) (by simp)).trans h4, ⟨ev, eb, (k.block b1 (heap_lt q1) (by simp)).trans q1, q2.kept k (by simp), fun j hj => (q3 j hj).kept k (by simp)⟩, ⟨pv, r1.kept k (by simp), r2.kept k (by simp)⟩, h5.kept k⟩
theorem NestW.exp {w : World} {pw la lb b1 b2 pi : Nat} {lx ly : Nat → Nat} {a b : ByteArray} {xs ys : List ByteArray} (h : NestW w pw la lb b1 b2 pi lx ly a b xs ys) :
    Exp w w.heap.size [litV la, brV b1, litV lb] (oneW la lb (lfN xs.length lx ly) (xs.length + ys.length)) := by
  obtain ⟨e2, hb2, hw2⟩ := h.l2.brAt
  obtain ⟨ev, eb, q1, q2, q3⟩ := h.br
  obtain ⟨pv, r1, r2⟩ := h.inner
  have hin : Exp w w.heap.size ([brV b2] ++ [litV lb]) ((List.range ys.length).map fun j => [litV (ly j), litV lb]) := by
    have := Exp.br (w0 := w) (B := w.heap.size) [] (by simp) b2 ys.length e2 hb2 [litV lb] (fun j => [litV (ly j)]) (fun j hj => hw2 j hj) (fun j => [[litV (ly j), litV lb]]) (fun j _ => Exp.done _ (by simp [isLit_litV])) (fun j _ => by simp) (fun j _ => ll_one _ _)
    rw [fm_one (f := fun k => List.map (fun x => [] ++ x) [[litV (ly k), litV lb]]) (g := fun j => [litV (ly j), litV lb]) (fun k _ => rfl)] at this
    exact this
  have hes : (List.range (xs.length + 1)).map (fun k => Value.pointer (some ⟨if k < xs.length then eb k else pi, 0, none⟩)) = ptrs eb xs.length ++ [.pointer (some ⟨pi, 0, none⟩)] := by
    unfold ptrs
    rw [List.range_succ, List.map_append]
    congr 1
    · refine List.map_congr_left (fun i hi => ?_)
      rw [if_pos (List.mem_range.1 hi)]
    · simp
  have hb1 : BrAt w w.heap.size b1 ((List.range (xs.length + 1)).map (fun k => Value.pointer (some ⟨if k < xs.length then eb k else pi, 0, none⟩))) := ⟨heap_lt q1, ev, q1, by rw [hes]; exact q2.weaken (fun g hg _ => hg)⟩
  have hw1 : ∀ k, k < xs.length + 1 → ∃ pv, WordAt w (if k < xs.length then eb k else pi) pv ∧ (if k < xs.length then eb k else pi) < w.heap.size ∧ RdV (· < w.heap.size) w pv (if k < xs.length then [litV (lx k)] else [brV b2]) := by
    intro k hk
    by_cases hlt : k < xs.length
    · rw [if_pos hlt, if_pos hlt]
      obtain ⟨⟨pv, s1, s2⟩, _⟩ := q3 k hlt
      exact ⟨pv, s1, heap_lt s1, s2.weaken (fun g hg _ => hg)⟩
    · rw [if_neg hlt, if_neg hlt]
      exact ⟨pv, r1, heap_lt r1, r2.weaken (fun g hg _ => hg)⟩
  have := Exp.br (w0 := w) (B := w.heap.size) [litV la] (by simp [isLit_litV]) b1 (xs.length + 1) (fun k => if k < xs.length then eb k else pi) hb1 [litV lb] (fun k => if k < xs.length then [litV (lx k)] else [brV b2]) hw1 (fun k => if k < xs.length then [[litV (lx k), litV lb]] else (List.range ys.length).map fun j => [litV (ly j), litV lb])
    (fun k _ => by
      by_cases hlt : k < xs.length
      · simp only [if_pos hlt]; exact Exp.done _ (by simp [isLit_litV])
      · simp only [if_neg hlt]; exact hin)
    (fun k _ => by by_cases hlt : k < xs.length <;> simp [hlt])
    (fun k _ => by
      by_cases hlt : k < xs.length
      · simp only [if_pos hlt]; exact ll_one _ _
      · simp only [if_neg hlt]; exact one_of (by simp; exact ⟨.inr ⟨_, rfl⟩, .inl ⟨_, rfl⟩⟩))
  rw [oneW_split]
  rw [List.range_succ, List.flatMap_append, fm_one (g := fun i => [litV la, litV (lx i), litV lb]) (fun k hk => by simp [hk])] at this
  simp only [List.flatMap_cons, List.flatMap_nil, List.append_nil, Nat.lt_irrefl, if_false, List.map_map] at this
  exact this

theorem one_word {w : World} {la lb : Nat} {lf : Nat → Nat} {a b : ByteArray} {zs : List ByteArray} (ca : w.cell? ⟨la, 4, none⟩ = some (.string a)) (cb : w.cell? ⟨lb, 4, none⟩ = some (.string b)) (cl : ∀ (i : Nat) (x : ByteArray), zs[i]? = some x → w.cell? ⟨lf i, 4, none⟩ = some (.string x))
    {A : Option Addr} {n cp : Nat} {items : List (Nat × Value × List Value)} (hall : AllAt w (.slice A n cp) items) (hi : items.map (·.2.2) = oneW la lb lf zs.length) {i : Nat} {x : ByteArray} (hx : zs[i]? = some x) (hsz : a.size + x.size + b.size ≤ 1000000000) :
    ∃ g pk, A = some ⟨g, 0, none⟩ ∧ w.cell? ⟨g, i, none⟩ = some (.pointer (some ⟨pk, 0, none⟩)) ∧ g < w.heap.size ∧ ∀ w2, Kept [] w w2 → Calls Tryf.prog 13 #[.pointer (some ⟨pk, 0, none⟩)] w2 fun e w' => e = .returned (.string (catB [a, x, b])) ∧ Kept [] w2 w' := by
  have hil : i < zs.length := (List.getElem?_eq_some_iff.1 hx).1
  have hp : (oneW la lb lf zs.length)[i]? = some [litV la, litV (lf i), litV lb] := by unfold oneW; simp [hil]
  rw [← hi, List.getElem?_map, Option.map_eq_some_iff] at hp
  obtain ⟨⟨pk, v, ls⟩, ht, hls⟩ := hp
  simp only at hls
  subst hls
  obtain ⟨g, hA, hc, hg, hw, ho⟩ := all_at hall ht
  refine ⟨g, pk, hA, hc, hg, fun w2 k => ?_⟩
  have kc : ∀ {l : Nat} {s : ByteArray}, w.cell? ⟨l, 4, none⟩ = some (.string s) → w2.cell? ⟨l, 4, none⟩ = some (.string s) := fun {l s} h => (k.cell (p := ⟨l, 4, none⟩) (block_lt_of_cell h) (by simp)).trans h
  refine lit_any [a, x, b] (hw.kept k (by simp)) (ho.rd.kept k (by simp)) rfl (by simp) (by simp) (fun k z hz => ?_) ?_
  · match k with
    | 0 => cases hz; exact ⟨a, rfl, _, rfl, kc ca⟩
    | 1 => cases hz; exact ⟨x, rfl, _, rfl, kc (cl i x hx)⟩
    | 2 => cases hz; exact ⟨b, rfl, _, rfl, kc cb⟩
    | k + 3 => simp at hz
  · have z : ∀ p : ByteArray, p.data.toList.length = p.size := fun _ => rfl
    simp only [List.flatMap_cons, List.flatMap_nil, List.length_append, List.length_nil, z]
    omega
theorem catB3 (a x b : ByteArray) : catB [a, x, b] = catB [a, x, b, ⟨#[]⟩, ⟨#[]⟩] := by simp [catB]
theorem ListAt.cells {w : World} {b : Nat} {xs : List ByteArray} {lx : Nat → Nat} (h : ListAt w b xs lx) : ∀ (i : Nat) (x : ByteArray), xs[i]? = some x → w.cell? ⟨lx i, 4, none⟩ = some (.string x) := fun i x hx => by
  obtain ⟨_, eb, _, _, h3⟩ := h
  have hi := (List.getElem?_eq_some_iff.1 hx).1
  have := (h3 i hi).2.1
  rw [(List.getElem?_eq_some_iff.1 hx).2] at this
  exact this
theorem NestW.cells {w : World} {pw la lb b1 b2 pi : Nat} {lx ly : Nat → Nat} {a b : ByteArray} {xs ys : List ByteArray} (h : NestW w pw la lb b1 b2 pi lx ly a b xs ys) : ∀ (i : Nat) (x : ByteArray), (xs ++ ys)[i]? = some x → w.cell? ⟨lfN xs.length lx ly i, 4, none⟩ = some (.string x) := fun i x hx => by
  unfold lfN
  by_cases hlt : i < xs.length
  · rw [if_pos hlt]
    rw [List.getElem?_append_left hlt] at hx
    obtain ⟨_, eb, _, _, q3⟩ := h.br
    have := (q3 i hlt).2.1
    rw [(List.getElem?_eq_some_iff.1 hx).2] at this
    exact this
  · rw [if_neg hlt]
    rw [List.getElem?_append_right (by omega)] at hx
    exact h.l2.cells _ _ hx

theorem zlit_e (s : ByteArray) (w : World) : Calls Tryf.prog 17 #[.string s] w fun e w' => ∃ l, e = .returned (.pointer (some ⟨l, 0, none⟩)) ∧ w'.cell? ⟨l, 4, none⟩ = some (.string s) ∧ Kept [] w w' :=
  (zlit_k s w).mono (fun _ _ h => ⟨_, h.1, h.2⟩)
theorem make_all (tot : Nat) (ht : tot ≤ 1000000) (w : World) : (Instr.makeSlice 22 (.int .i64 0) (.int .i64 tot)).run Tryf.prog w = .ok (.slice (some ⟨w.heap.size, 0, none⟩) 0 tot) (w.alloc (.cells (List.replicate tot (.string ⟨#[]⟩)).toArray 9)) := by
  obtain ⟨hu, ⟨i, h1, h2, h3, h4⟩, _⟩ := str_el
  have hb : tot * i.bytes ≤ tot * 16 := Nat.mul_le_mul_left _ h4
  have hb2 : i.bytes * tot ≤ 16 * tot := Nat.mul_le_mul_right _ h4
  have := run_make w _ _ i _ hu h1 h2 .i64 .i64 0 tot (by omega) (by omega) (by omega) (by omega)
  rw [this]
  simp [h3, made_zp (.string ⟨#[]⟩) rfl]
theorem own_all (tot : Nat) (ht : tot ≤ 1000000) (w : World) : OwnV 9 (w.alloc (.cells (List.replicate tot (.string ⟨#[]⟩)).toArray 9)) (.slice (some ⟨w.heap.size, 0, none⟩) 0 tot) [] :=
  ⟨rfl, .inr ⟨w.heap.size, tot, _, rfl, Nat.zero_le _, heap_alloc_new w _, Nat.zero_le _, by unfold maxLen; omega, by simp, by simp⟩⟩
end Go.Proofs.YtcemnjieahpcnaaFmt
