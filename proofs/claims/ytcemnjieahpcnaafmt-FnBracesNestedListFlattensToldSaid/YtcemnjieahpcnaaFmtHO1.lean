/-
  FnBracesNestedListFlattens, walked.
-/
import Derived.Test.YtcemnjieahpcnaaFmtHO
import Derived.Deep.RegionHeld3
namespace Go.Proofs.YtcemnjieahpcnaaFmt
open Go.RowKit

theorem nest_yes {a b : Nat} {xs ys : List ByteArray} (h : nestF a b xs ys = true) : xs.length ≤ 65536 ∧ ys.length ≤ 65536 ∧ a + b + (szs xs).sum + (szs ys).sum ≤ 1048576 := by
  unfold nestF at h
  simp only [Bool.and_eq_true] at h
  obtain ⟨h1, h2, _, _, h3⟩ := sob_yes h.1
  exact ⟨h1, h2, by omega⟩

theorem Outer.keptS {w w' : World} {S : List Nat} {b r m u n : Nat} {eb lx : Nat → Nat} {xs : List ByteArray} (h : Outer w b r m u n eb lx xs) (k : Kept S w w') (q1 : r < m) (q2 : m ≤ u) (q3 : u ≤ b) (hS : ∀ x ∈ S, x < r) : Outer w' b r m u n eb lx xs := by
  have hn : ∀ g, r ≤ g → g ∉ S := fun g hg hm => by have := hS g hm; omega
  exact ⟨(k.block b (heap_lt h.br) (hn b (by omega))).trans h.br, h.own.kept k (fun g hg => by cases hg; exact hn r (Nat.le_refl _)), fun j hj s hs => (h.ws j hj s hs).kept k (fun x hx => by have := hS x hx; omega)⟩
theorem Outer.list {w : World} {b r m u n : Nat} {eb lx : Nat → Nat} {xs : List ByteArray} (h : Outer w b r m u n eb lx xs) (hl : xs.length = n) : ListAt w b xs lx := by
  refine ⟨_, eb, h.br, ?_, fun k hk => (h.ws k (by omega) _ (List.getElem?_eq_getElem hk)).one⟩
  have := h.own.rd.weaken (Q := Any) (fun _ _ _ => trivial)
  rw [hl]
  exact this

/-- The nested word, when it has just been laid. -/
theorem nest_new {w4 w4a w5 w5s w6 w7 w7b : World} {b1 r m u n1 b2 la lb : Nat} {eb lx eb2 ly : Nat → Nat} {r2 m2 u2 n2 : Nat} {a b : ByteArray} {xs ys : List ByteArray} {A5 : Option Addr} {c5 : Nat}
    (hO : Outer w4 b1 r m u n1 eb lx xs) (hL : Outer w4 b2 r2 m2 u2 n2 eb2 ly ys) (hxs : xs.length = n1) (hys : ys.length = n2) (q1 : r < m) (q2 : m ≤ u) (q3 : u ≤ b1) (q4 : b1 < r2) (q5 : r2 < m2) (q6 : m2 ≤ u2) (q7 : u2 ≤ b2)
    (e4 : w4a = ((w4.alloc (.cells #[brV b2] 54)).alloc (.cells #[.slice (some ⟨w4.heap.size, 0, none⟩) 1 1] 38)).alloc (.cells #[.pointer (some ⟨w4.heap.size + 1, 0, none⟩)] 25))
    (ho : OwnV 25 w5 (.slice A5 (n1 + 1) c5) (ptrs eb n1 ++ [.pointer (some ⟨w4.heap.size + 1, 0, none⟩)])) (hb : ∀ g ∈ (Value.slice A5 (n1 + 1) c5).ownBlock, (Value.slice (some ⟨r, 0, none⟩) n1 n1).ownBlock = some g ∨ w4a.heap.size ≤ g) (hk : Kept (Value.slice (some ⟨r, 0, none⟩) n1 n1).ownBlock.toList w4a w5)
    (e5 : w5s = w5.setCell ⟨b1, 1, none⟩ (.slice A5 (n1 + 1) c5)) (c6 : w6.cell? ⟨la, 4, none⟩ = some (.string a)) (k6 : Kept [] w5s w6) (c7 : w7.cell? ⟨lb, 4, none⟩ = some (.string b)) (k7 : Kept [] w6 w7)
    (e7 : w7b = (w7.alloc (.cells #[litV la, brV b1, litV lb] 54)).alloc (.cells #[.slice (some ⟨w7.heap.size, 0, none⟩) 3 3] 38)) :
    NestW w7b (w7.heap.size + 1) la lb b1 b2 (w4.heap.size + 1) lx ly a b xs ys ∧ Kept [r, b1] w4 w7b := by
  have hr : (Value.slice (some ⟨r, 0, none⟩) n1 n1).ownBlock.toList = [r] := rfl
  rw [hr] at hk
  have hr2 : (Value.slice (some ⟨r, 0, none⟩) n1 n1).ownBlock = some r := rfl
  have ka : Kept [] w4 w4a := by rw [e4]; exact (((Kept.refl _ _).alloc _).alloc _).alloc _
  have za : w4a.heap.size = w4.heap.size + 3 := by rw [e4]; simp
  have k5 : Kept [r, b1] w4a w5s := by rw [e5]; exact (hk.weaken (by simp)).setCell (by simp) _
  have k57 : Kept [] w5s w7b := by rw [e7]; exact ((k6.trans k7).alloc _).alloc _
  have k67 : Kept [] w6 w7b := by rw [e7]; exact (k7.alloc _).alloc _
  have k77 : Kept [] w7 w7b := by rw [e7]; exact ((Kept.refl _ _).alloc _).alloc _
  have kt : Kept [r, b1] w4 w7b := (ka.weaken (by simp)).trans (k5.trans (k57.weaken (by simp)))
  have hb1 : b1 < w4.heap.size := heap_lt hO.br
  have d1 : w5.heap[b1]? = some (.cells #[.bool false, .slice (some ⟨r, 0, none⟩) n1 n1] 35 (0, 0)) := (hk.block b1 (by omega) (by simp; omega)).trans ((ka.block b1 hb1 (by simp)).trans hO.br)
  have d2 : w5s.heap[b1]? = some (.cells #[.bool false, .slice A5 (n1 + 1) c5] 35 (0, 0)) := by rw [e5]; exact row_set (L := [.bool false, .slice (some ⟨r, 0, none⟩) n1 n1]) d1 1 _
  have ks : Kept [b1] w5 w5s := by rw [e5]; exact (Kept.refl _ _).setCell (by simp) _
  refine ⟨⟨⟨.slice (some ⟨w7.heap.size, 0, none⟩) 3 3, ?_, ?_⟩, (k67.cell (p := ⟨la, 4, none⟩) (block_lt_of_cell c6) (by simp)).trans c6, (k77.cell (p := ⟨lb, 4, none⟩) (block_lt_of_cell c7) (by simp)).trans c7, ⟨.slice A5 (n1 + 1) c5, eb, (k57.block b1 (heap_lt d2) (by simp)).trans d2, ?_, fun k hkx => ?_⟩, ⟨.slice (some ⟨w4.heap.size, 0, none⟩) 1 1, ?_, ?_⟩, ?_⟩, kt⟩
  · have h := heap_alloc_new (w7.alloc (.cells #[litV la, brV b1, litV lb] 54)) (.cells #[.slice (some ⟨w7.heap.size, 0, none⟩) 3 3] 38)
    rw [e7]
    simpa [WordAt] using h
  · have h := (OwnV.lit (T := 54) w7 [litV la, brV b1, litV lb] (by simp)).rd
    rw [e7]
    exact (h.weaken (Q := Any) (fun _ _ _ => trivial)).kept ((Kept.refl [] _).alloc (.cells #[.slice (some ⟨w7.heap.size, 0, none⟩) 3 3] 38)) (by simp)
  · have h1 : OwnV 25 w5s (.slice A5 (n1 + 1) c5) (ptrs eb n1 ++ [.pointer (some ⟨w4.heap.size + 1, 0, none⟩)]) := ho.kept ks (fun g hg hm => by
      simp at hm
      subst hm
      rcases hb _ hg with h | h
      · rw [hr2] at h; cases h; omega
      · omega)
    rw [hxs]
    exact (h1.rd.weaken (Q := Any) (fun _ _ _ => trivial)).kept k57 (by simp)
  · have h := hO.ws k (by omega) xs[k] (List.getElem?_eq_getElem hkx)
    exact (h.kept kt (by intro x hx; simp at hx; rcases hx with rfl | rfl <;> omega)).one
  · have h : WordAt w4a (w4.heap.size + 1) (.slice (some ⟨w4.heap.size, 0, none⟩) 1 1) := by
      have h := heap_alloc_new (w4.alloc (.cells #[brV b2] 54)) (.cells #[.slice (some ⟨w4.heap.size, 0, none⟩) 1 1] 38)
      rw [e4]
      have h' : WordAt ((w4.alloc (.cells #[brV b2] 54)).alloc (.cells #[.slice (some ⟨w4.heap.size, 0, none⟩) 1 1] 38)) (w4.heap.size + 1) (.slice (some ⟨w4.heap.size, 0, none⟩) 1 1) := by simpa [WordAt] using h
      exact h'.kept ((Kept.refl [] _).alloc _) (by simp)
    exact (h.kept k5 (by simp; omega)).kept k57 (by simp)
  · have h := (OwnV.lit (T := 54) w4 [brV b2] (by simp)).rd
    have h2 : RdV (· = w4.heap.size) w4a (.slice (some ⟨w4.heap.size, 0, none⟩) 1 1) [brV b2] := by
      rw [e4]
      exact ((h.weaken (Q := (· = w4.heap.size)) (fun g _ hg => by cases hg; rfl)).kept ((Kept.refl [] _).alloc (.cells #[.slice (some ⟨w4.heap.size, 0, none⟩) 1 1] 38)) (by simp)).kept ((Kept.refl [] _).alloc _) (by simp)
    exact ((h2.kept k5 (fun g hg _ => by cases hg; simp; omega)).weaken (Q := Any) (fun _ _ _ => trivial)).kept k57 (by simp)
  · exact (hL.keptS kt q5 q6 q7 (by intro x hx; simp at hx; rcases hx with rfl | rfl <;> omega)).list hys

theorem flat_new {w10 w11 w12 w12b : World} {b3 la lb : Nat} {lz : Nat → Nat} {a b : ByteArray} {zs : List ByteArray} (c10 : w10.cell? ⟨la, 4, none⟩ = some (.string a)) (hL : ListAt w11 b3 zs lz) (k11 : Kept [] w10 w11) (k12 : Kept [] w11 w12) (c12 : w12.cell? ⟨lb, 4, none⟩ = some (.string b))
    (e12 : w12b = (w12.alloc (.cells #[litV la, brV b3, litV lb] 54)).alloc (.cells #[.slice (some ⟨w12.heap.size, 0, none⟩) 3 3] 38)) :
    FlatW w12b (w12.heap.size + 1) la lb b3 lz a b zs ∧ Kept [] w12 w12b := by
  have k : Kept [] w12 w12b := by rw [e12]; exact ((Kept.refl _ _).alloc _).alloc _
  refine ⟨⟨⟨.slice (some ⟨w12.heap.size, 0, none⟩) 3 3, ?_, ?_⟩, ((k11.trans k12).trans k).cell (p := ⟨la, 4, none⟩) (block_lt_of_cell c10) (by simp) |>.trans c10, (k.cell (p := ⟨lb, 4, none⟩) (block_lt_of_cell c12) (by simp)).trans c12, hL.kept (k12.trans k)⟩, k⟩
  · have h := heap_alloc_new (w12.alloc (.cells #[litV la, brV b3, litV lb] 54)) (.cells #[.slice (some ⟨w12.heap.size, 0, none⟩) 3 3] 38)
    rw [e12]
    simpa [WordAt] using h
  · have h := (OwnV.lit (T := 54) w12 [litV la, brV b3, litV lb] (by simp)).rd
    rw [e12]
    exact (h.weaken (Q := Any) (fun _ _ _ => trivial)).kept ((Kept.refl [] _).alloc (.cells #[.slice (some ⟨w12.heap.size, 0, none⟩) 3 3] 38)) (by simp)
end Go.Proofs.YtcemnjieahpcnaaFmt
