/-
  FnBracesSeqRecNumericSequence: the word's memory, and plain facts for the law's walk.
-/
import Derived.Test.YtnnedmjkhjgbcaaFmtSg
import Derived.Handy
namespace Go.Proofs.YtnnedmjkhjgbcaaFmt
open Go.RowKit

theorem cat_one (s : ByteArray) : catB [s] = s := by
  apply ByteArray.ext
  apply Array.toList_inj.1
  simp [catB]
theorem cat_five (a b c : ByteArray) : catB [a, b, c] = catB [a, b, c, ⟨#[]⟩, ⟨#[]⟩] := by
  apply ByteArray.ext
  apply Array.toList_inj.1
  simp [catB]
theorem cat3_size (a b c : ByteArray) : (catB [a, b, c]).size = a.size + b.size + c.size := by
  have : ∀ x : ByteArray, x.data.toList.length = x.size := fun x => rfl
  show (catB [a, b, c]).data.toList.length = _
  simp [catB, this]
  omega

theorem oneword_lit {w : World} {m eb lb : Nat} {s : ByteArray} (h : OneWord w m eb lb s) (hz : s.size ≤ 1000000000) : ∀ W, Kept [] w W → Calls Tryf.prog 11 #[.pointer (some ⟨eb, 0, none⟩)] W fun e w' => e = .returned (.string s) ∧ Kept [] W w' := by
  intro W kw
  obtain ⟨⟨pv, h1, h2⟩, h3, _, _⟩ := h
  have hc := (kw.cell (p := ⟨lb, 4, none⟩) (block_lt_of_cell h3) (by simp)).trans h3
  have := lit_any [s] (h1.kept kw (by simp)) (h2.kept kw (by simp)) rfl (by simp) (by simp) (fun k x hx => by
    match k with
    | 0 => cases hx; exact ⟨s, rfl, lb, rfl, hc⟩
    | k + 1 => simp at hx) (by
    have : s.data.toList.length = s.size := rfl
    simp
    omega)
  rw [cat_one] at this
  exact this

theorem zz_seq {w w1 : World} {pn : Nat} {f : Value} {b : Bool} {S : World → Prop} (hw : w1 = w) (h : Calls Tryf.prog 14 #[.pointer (some ⟨pn, 0, none⟩), f] w fun e w' => e = .returned (.bool b) ∧ S w') :
    Calls Tryf.prog 9 #[.pointer (some ⟨pn, 0, none⟩), f] w1 fun e w' => e = .returned (.bool b) ∧ S w' := by
  subst hw
  have HH := Lib.hid h
  clear h
  go_enter Tryf.func9, Tryf.ntmps9
  go_wp2_with (go_at_call 14; refine HH.out.mono ?_; rintro e w2 ⟨rfl, h2⟩; dsimp only; have H2 := Lib.hid h2; clear h2)
  go_ret
  exact ⟨rfl, H2.out⟩

/-- The word, laid from its pieces. -/
theorem seqw {wE wF wG w0 : World} {hs : Bool} {a b : ByteArray} {f t p : Int} {ge ce e0 e1 e2 la lb : Nat} {BB : Obj} (hla : wE.heap.size = la) (hlb : (wF.alloc BB).heap.size = lb) (hBB : BB = .cells #[.bool true, .slice (some ⟨ge, 0, none⟩) (if hs then 3 else 2) ce] 34) (hce : (if hs then 3 else 2) ≤ ce ∧ ce ≤ 9223372036854775807)
    (p0 : wE.cell? ⟨ge, 0, none⟩ = some (.pointer (some ⟨e0, 0, none⟩))) (p1 : wE.cell? ⟨ge, 1, none⟩ = some (.pointer (some ⟨e1, 0, none⟩))) (p2 : hs = true → wE.cell? ⟨ge, 2, none⟩ = some (.pointer (some ⟨e2, 0, none⟩)))
    (l0 : ∀ W, Kept [] wE W → Calls Tryf.prog 11 #[.pointer (some ⟨e0, 0, none⟩)] W fun e w' => e = .returned (.string (sItoa f)) ∧ Kept [] W w')
    (l1 : ∀ W, Kept [] wE W → Calls Tryf.prog 11 #[.pointer (some ⟨e1, 0, none⟩)] W fun e w' => e = .returned (.string (sItoa t)) ∧ Kept [] W w')
    (l2 : hs = true → ∀ W, Kept [] wE W → Calls Tryf.prog 11 #[.pointer (some ⟨e2, 0, none⟩)] W fun e w' => e = .returned (.string (sItoa p)) ∧ Kept [] W w')
    (htab : Tab wE) (cA : wF.cell? ⟨wE.heap.size, 4, none⟩ = some (.string a)) (kF : Kept [] wE wF) (cB : wG.cell? ⟨(wF.alloc BB).heap.size, 4, none⟩ = some (.string b)) (kG : Kept [] (wF.alloc BB) wG)
    (hw0 : w0 = (wG.alloc (.cells #[litV la, brV wF.heap.size, litV lb] 52)).alloc (.cells #[.slice (some ⟨wG.heap.size, 0, none⟩) 3 3] 37)) :
    SeqW w0 hs a b f t p la lb wF.heap.size (wG.heap.size + 1) ge ce e0 e1 e2 (.slice (some ⟨wG.heap.size, 0, none⟩) 3 3) ∧ Kept [] wE w0 ∧ w0.heap.size = wG.heap.size + 2 := by
  subst hla hlb
  have kGF : Kept [] wF wG := ((Kept.refl _ _).alloc _).trans kG
  have k1 : Kept [] wG (wG.alloc (.cells #[litV wE.heap.size, brV wF.heap.size, litV (wF.alloc BB).heap.size] 52)) := (Kept.refl _ _).alloc _
  have k2 : Kept [] (wG.alloc (.cells #[litV wE.heap.size, brV wF.heap.size, litV (wF.alloc BB).heap.size] 52)) w0 := by rw [hw0]; exact (Kept.refl _ _).alloc _
  have kw : Kept [] wG w0 := k1.trans k2
  have kE : Kept [] wE w0 := (kF.trans kGF).trans kw
  have z1 : (wG.alloc (.cells #[litV wE.heap.size, brV wF.heap.size, litV (wF.alloc BB).heap.size] 52)).heap.size = wG.heap.size + 1 := by simp
  have z0 : w0.heap.size = wG.heap.size + 2 := by rw [hw0]; simp
  have cell : ∀ {g i : Nat} {x : Value}, wE.cell? ⟨g, i, none⟩ = some x → w0.cell? ⟨g, i, none⟩ = some x := fun {g i x} h => (kE.cell (p := ⟨g, i, none⟩) (block_lt_of_cell h) (by simp)).trans h
  have hbb : wG.heap[wF.heap.size]? = some BB := (kG.block _ (by simp) (by simp)).trans (heap_alloc_new wF BB)
  have hword : w0.heap[wG.heap.size + 1]? = some (.cells #[.slice (some ⟨wG.heap.size, 0, none⟩) 3 3] 37) := by
    rw [hw0, ← z1]
    exact heap_alloc_new _ _
  have hrow : w0.heap[wG.heap.size]? = some (.cells #[litV wE.heap.size, brV wF.heap.size, litV (wF.alloc BB).heap.size] 52) := (k2.block _ (by omega) (by simp)).trans (heap_alloc_new wG _)
  refine ⟨{ hla := (kw.cell (p := ⟨wE.heap.size, 4, none⟩) (block_lt_of_cell ((kGF.cell (p := ⟨wE.heap.size, 4, none⟩) (block_lt_of_cell cA) (by simp)).trans cA)) (by simp)).trans ((kGF.cell (p := ⟨wE.heap.size, 4, none⟩) (block_lt_of_cell cA) (by simp)).trans cA)
            hlb := (kw.cell (p := ⟨(wF.alloc BB).heap.size, 4, none⟩) (block_lt_of_cell cB) (by simp)).trans cB
            word := hword, row := ?_, br := by rw [hBB] at hbb; exact (kw.block _ (heap_lt hbb) (by simp)).trans hbb
            hce := hce, p0 := cell p0, p1 := cell p1, p2 := fun e => cell (p2 e), l0 := fun W k => l0 W (kE.trans k), l1 := fun W k => l1 W (kE.trans k), l2 := fun e W k => l2 e W (kE.trans k), tab := htab.kept kE (by simp) }, kE, z0⟩
  refine ⟨_, _, rfl, by simp, by unfold maxLen; omega, (fun h => by cases h), fun _ => ⟨_, _, rfl⟩, fun _ => ⟨wG.heap.size, 0, rfl, by omega, by show wG.heap.size < w0.heap.size; omega, fun j x hj => ?_⟩⟩
  rw [Nat.zero_add, cell_of_row _ _ _ _ _ _ hrow]
  simpa using hj

/-- The row of the three endpoints. -/
theorem seq_elems {wD wH wE : World} {x0 x1 x2 v' : Value} {sl : Value} {T : TypeId} (ho : OwnV T wE v' ([x0, x1] ++ [x2])) (hb : ∀ g ∈ v'.ownBlock, sl.ownBlock = some g ∨ (wH.alloc (.cells #[x2] T)).heap.size ≤ g) (hk : Kept sl.ownBlock.toList (wH.alloc (.cells #[x2] T)) wE)
    (kDH : Kept [] (wD.alloc (.cells #[x0, x1] T)) wH) (hsl : sl = .slice (some ⟨wD.heap.size, 0, none⟩) 2 2) :
    ∃ ge m, v' = .slice (some ⟨ge, 0, none⟩) 3 m ∧ wE.cell? ⟨ge, 0, none⟩ = some x0 ∧ wE.cell? ⟨ge, 1, none⟩ = some x1 ∧ wE.cell? ⟨ge, 2, none⟩ = some x2 ∧ (3 ≤ m ∧ m ≤ 9223372036854775807) ∧ Kept [] wD wE ∧ (∀ x : Nat, x < wD.heap.size → True) ∧ Kept [wD.heap.size] wH wE := by
  have hz := kDH.size
  have kE : Kept [wD.heap.size] wH wE := by
    have h1 : Kept [wD.heap.size] (wH.alloc (.cells #[x2] T)) wE := by rw [hsl] at hk; simpa [Value.ownBlock] using hk
    exact (((Kept.refl [] wH).alloc _).weaken (by simp)).trans h1
  have kD : Kept [] wD wE := (((((Kept.refl [] wD).alloc (.cells #[x0, x1] T)).trans kDH).weaken (S' := [wD.heap.size]) (by simp)).trans kE).weaken (fun x hx => .inr (by simp at hx; omega))
  have ho2 := ho.2
  rcases ho2 with ⟨h1, h2⟩ | ⟨g, cap, cur, h1, _, hg, hnc, hcm, hcs, htk⟩
  · simp at h2
  · subst h1
    have hc : ∀ j, j < 3 → wE.cell? ⟨g, j, none⟩ = ([x0, x1] ++ [x2] : List Value)[j]? := fun j hj => by
      rw [cell_of_row _ _ _ _ _ _ hg, ← Array.getElem?_toList, ← htk, List.getElem?_take_of_lt (by simpa using hj)]
    refine ⟨g, cap, rfl, by rw [hc 0 (by omega)]; rfl, by rw [hc 1 (by omega)]; rfl, by rw [hc 2 (by omega)]; rfl, ⟨by simpa using hnc, by unfold maxLen at hcm; omega⟩, kD, fun _ _ => trivial, kE⟩

theorem wrap_up {f : Int} {x : Nat} (h1 : -2305843009213693952 ≤ f) (h2 : f ≤ 2305843009213693952) (h3 : x ≤ 4611686018427387904) : IntKind.i64.wrap (IntKind.u64.wrap (IntKind.u64.wrap f + x)) = f + x := by
  unfold IntKind.wrap
  simp only [IntKind.bits, IntKind.signed, Bool.false_and, Bool.false_eq_true, if_false, Bool.true_and]
  split <;> (simp at *; omega)
theorem wrap_dn {f : Int} {x : Nat} (h1 : -2305843009213693952 ≤ f) (h2 : f ≤ 2305843009213693952) (h3 : x ≤ 4611686018427387904) : IntKind.i64.wrap (IntKind.u64.wrap (IntKind.u64.wrap f - x)) = f - x := by
  unfold IntKind.wrap
  simp only [IntKind.bits, IntKind.signed, Bool.false_and, Bool.false_eq_true, if_false, Bool.true_and]
  split <;> (simp at *; omega)
end Go.Proofs.YtnnedmjkhjgbcaaFmt
