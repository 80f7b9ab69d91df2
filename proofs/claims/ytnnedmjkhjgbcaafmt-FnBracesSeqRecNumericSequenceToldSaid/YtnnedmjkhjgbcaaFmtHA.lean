/-
  Slices that own their row, whatever one-cell elements: append onto them; slices that are only read.
-/
import Derived.Test.YtnnedmjkhjgbcaaFmtWGen
import Derived.Laws.AppendOwn
import Derived.Laws.OwnMore
import Derived.Deep.Upon
namespace Go.Proofs.YtnnedmjkhjgbcaaFmt
open Go.RowKit

/-- ST: a slice type over elements of type T, one cell each, zero value z. -/
structure ElT (ST T : TypeId) (z : Value) : Prop where
  und : Tryf.prog.underlying ST = some (.slice T)
  info : ∃ i, Tryf.prog.info? T = some i ∧ i.zero = some z ∧ i.size = 1 ∧ i.bytes ≤ 16
  zc : z.cells.size = 1
theorem ElT.mk' {ST T : TypeId} {z : Value} (hu : Tryf.prog.underlying ST = some (.slice T)) (n : Nat) (hi : (Tryf.prog.info? T).map (fun i => (i.zero, i.size, i.bytes)) = some (some z, 1, n)) (hn : n ≤ 16) (hz : z.cells.size = 1) : ElT ST T z := by
  refine ⟨hu, ?_, hz⟩
  cases hq : Tryf.prog.info? T with
  | none => rw [hq] at hi; cases hi
  | some i =>
    rw [hq] at hi
    simp at hi
    exact ⟨i, rfl, hi.1, hi.2.1, by rw [hi.2.2]; exact hn⟩

/-- The slice v owns a row that begins with l. -/
def OwnV (T : TypeId) (w : World) (v : Value) (l : List Value) : Prop := w.ownsRow 0 T 1 v l.length l
/-- The slice value v reads as l; its row lies in a block of which P is true. -/
def RdV (P : Nat → Prop) (w : World) (v : Value) (l : List Value) : Prop :=
  ∃ A c, v = .slice A l.length c ∧ l.length ≤ c ∧ c ≤ maxLen ∧ (A = none → c = 0) ∧ (0 < c → ∃ g o, A = some ⟨g, o, none⟩) ∧ (0 < l.length → ∃ g o, A = some ⟨g, o, none⟩ ∧ g < w.heap.size ∧ P g ∧ ∀ j x, l[j]? = some x → w.cell? ⟨g, o + j, none⟩ = some x)
section
variable {T : TypeId} {w w' : World} {v : Value} {l : List Value} {P Q : Nat → Prop}
theorem RdV.kept {S : List Nat} (h : RdV P w v l) (k : Kept S w w') (hS : ∀ g, P g → g < w.heap.size → g ∉ S) : RdV P w' v l := by
  obtain ⟨A, c, e, h1, h2, h3, h5, h4⟩ := h
  refine ⟨A, c, e, h1, h2, h3, h5, fun h0 => ?_⟩
  obtain ⟨g, o, e2, hg, hp, hc⟩ := h4 h0
  exact ⟨g, o, e2, Nat.lt_of_lt_of_le hg k.size, hp, fun j x hj => (k.cell (p := ⟨g, o + j, none⟩) hg (hS g hp hg)).trans (hc j x hj)⟩
theorem RdV.weaken (h : RdV P w v l) (hq : ∀ g, g < w.heap.size → P g → Q g) : RdV Q w v l := by
  obtain ⟨A, c, e, h1, h2, h3, h5, h4⟩ := h
  refine ⟨A, c, e, h1, h2, h3, h5, fun h0 => ?_⟩
  obtain ⟨g, o, e2, hg, hp, hc⟩ := h4 h0
  exact ⟨g, o, e2, hg, hq g hg hp, hc⟩
theorem RdV.nil (P : Nat → Prop) (w : World) : RdV P w (.slice none 0 0) [] := ⟨none, 0, rfl, Nat.le_refl _, Nat.zero_le _, fun _ => rfl, fun h => absurd h (by omega), fun h => absurd h (by simp)⟩
theorem OwnV.nil (T : TypeId) (w : World) : OwnV T w (.slice none 0 0) [] := World.ownsRow_nil w 0 T 1
theorem OwnV.lt (h : OwnV T w v l) : ∀ g ∈ v.ownBlock, g < w.heap.size := fun g hg => (World.ownsRow.lt h g hg).2
theorem OwnV.kept {S : List Nat} (h : OwnV T w v l) (k : Kept S w w') (hS : ∀ g ∈ v.ownBlock, g ∉ S) : OwnV T w' v l := by
  refine ⟨h.1, ?_⟩
  rcases h.2 with hn | ⟨g, cap, cur, rfl, hb, hg, hr⟩
  · exact .inl hn
  · exact .inr ⟨g, cap, cur, rfl, hb, (k.block g (heap_lt hg) (hS g rfl)).trans hg, hr⟩
theorem OwnV.rd (h : OwnV T w v l) : RdV (fun g => v.ownBlock = some g) w v l := by
  rcases h.2 with ⟨h1, h2⟩ | ⟨g, cap, cur, h1, hb, hg, hnc, hcm, hcs, htk⟩
  · obtain rfl : l = [] := List.eq_nil_of_length_eq_zero h2
    rw [h1]
    exact RdV.nil _ _
  · subst h1
    refine ⟨_, _, rfl, hnc, hcm, (fun h => by cases h), fun _ => ⟨g, 0, rfl⟩, fun _ => ⟨g, 0, rfl, heap_lt hg, rfl, fun j c hj => ?_⟩⟩
    have hlt : j < l.length := (List.getElem?_eq_some_iff.1 hj).1
    rw [Nat.mul_one] at htk
    rw [Nat.zero_add, cell_of_row _ _ _ _ _ _ hg, ← Array.getElem?_toList, ← List.getElem?_take_of_lt hlt, htk]
    exact hj
/-- A row that has just been laid. -/
theorem OwnV.lit (w : World) (l : List Value) (hl : l.length ≤ 1000000) : OwnV T (w.alloc (.cells l.toArray T)) (.slice (some ⟨w.heap.size, 0, none⟩) l.length l.length) l :=
  ⟨by rw [Nat.mul_one], .inr ⟨w.heap.size, l.length, l.toArray, rfl, Nat.zero_le _, heap_alloc_new w _, Nat.le_refl _, by unfold maxLen; omega, by simp, by simp⟩⟩
end

theorem app_run {ST T : TypeId} {z : Value} (he : ElT ST T z) {w : World} {v : Value} {l : List Value} (h : OwnV T w v l) (ty : TypeId) (a : Addr) (m c : Nat) (p : List Value) (hp : p.length = m) (hm : 0 < m) (hc : ∀ j x, p[j]? = some x → w.cell? (a.add j) = some x) (hp1 : ∀ v ∈ p, v.oneCell' = true) (hlim : l.length + m ≤ 1000000000000) :
    ∃ g cap w', (Builtin.append_ #[ST, ST] ty #[v, .slice (some a) m c]).run Tryf.prog w = .ok (.slice (some ⟨g, 0, none⟩) (l.length + m) cap) w' ∧ OwnV T w' (.slice (some ⟨g, 0, none⟩) (l.length + m) cap) (l ++ p) ∧ (v.ownBlock = some g ∨ w.heap.size ≤ g) ∧ Kept v.ownBlock.toList w w' := by
  obtain ⟨hu, ⟨i, hi, hz, h1, hby⟩, hzc⟩ := he
  have hnl : p.length = m * i.size := by rw [h1, hp, Nat.mul_one]
  have hnews := hc
  have hlen : (l ++ p).length = l.length + m := by rw [List.length_append, hp]
  have h63 : l.length + m ≤ maxLen := by unfold maxLen; omega
  have grown : ∀ (old : Nat), ∀ (S : List Nat),
      OwnV T (w.drew.alloc (.cells (l.toArray ++ p.toArray ++ Builtin.zeroCells z.cells (grownCap w (l.length + m) old T - (l.length + m))) T))
        (.slice (some ⟨w.heap.size, 0, none⟩) (l.length + m) (grownCap w (l.length + m) old T)) (l ++ p) ∧
      Kept S w (w.drew.alloc (.cells (l.toArray ++ p.toArray ++ Builtin.zeroCells z.cells (grownCap w (l.length + m) old T - (l.length + m))) T)) := by
    intro old S
    have hge := grownCap_ge w (l.length + m) old T
    have hcm := grownCap_le_maxLen w (l.length + m) old T h63
    refine ⟨⟨by rw [Nat.mul_one], .inr ⟨w.heap.size, _, _, by rw [hlen], Nat.zero_le _, heap_alloc_new w.drew _, by rw [hlen]; exact hge, hcm, ?_, ?_⟩⟩, ((Kept.refl _ _).drew).alloc _⟩
    · simp only [Array.size_append, List.size_toArray, size_zeroCells, hp, Nat.mul_one]
      rw [hzc]
      omega
    · simp only [Array.toList_append, hlen, Nat.mul_one]
      exact List.take_left' (by rw [List.length_append, hp])
  rcases h.2 with ⟨rfl, hl0⟩ | ⟨g, cap, cur, rfl, hbg, hg, hnc, hcm, hcs, htake⟩
  · obtain rfl : l = [] := List.eq_nil_of_length_eq_zero hl0
    have hr := run_append_nil (P := Tryf.prog) w ST ty T i z hu hi hz a m c p hnl hnews (by omega) (by simp at hlim; omega) (by simp at hlim; have : m * i.bytes ≤ m * 16 := Nat.mul_le_mul_left _ hby; omega)
    have hgr := grown 0 []
    simp only [List.length_nil, Nat.zero_add, List.nil_append] at hgr ⊢
    refine ⟨w.heap.size, _, _, hr, ?_, .inr (Nat.le_refl _), ?_⟩
    · simpa using hgr.1
    · simpa [Value.ownBlock] using hgr.2
  · by_cases hroom : l.length + m ≤ cap
    · have hfit : l.length * i.size + p.length ≤ cur.size := by rw [h1, hp, hcs]; omega
      have hr := run_append_room (P := Tryf.prog) w ST ty T i hu hi g l.length cap cur hg a m c p hnl hnews hp1 hroom hfit
      refine ⟨g, cap, _, hr, ⟨by rw [Nat.mul_one], .inr ⟨g, cap, _, by rw [hlen], Nat.zero_le _, setRow_heap w g cur _ _ _ hg, by rw [hlen]; exact hroom, hcm, ?_, ?_⟩⟩, .inl rfl, (Kept.refl _ _).setRow (by simp [Value.ownBlock]) _⟩
      · simp only [List.size_toArray, List.length_append, List.length_take, List.length_drop, Array.length_toList, hp, h1]
        omega
      · rw [h1, htake, hlen, Nat.mul_one]
        exact List.take_left' (by rw [List.length_append, hp])
    · have holds : ∀ j u, l[j]? = some u → w.cell? ((⟨g, 0, none⟩ : Addr).add j) = some u := World.ownsRow.cells h (g := g) rfl
      have hr := run_append_grow (P := Tryf.prog) w ST ty T i z hu hi hz ⟨g, 0, none⟩ l.length cap l (by rw [h1, Nat.mul_one]) holds a m c p hnl hnews (by omega) (by omega) (growslice_fits (by omega) (by have : (l.length + m) * i.bytes ≤ (l.length + m) * 16 := Nat.mul_le_mul_left _ hby; omega))
      have hgr := grown cap (Value.ownBlock (.slice (some ⟨g, 0, none⟩) l.length cap)).toList
      exact ⟨w.heap.size, _, _, hr, hgr.1, .inr (Nat.le_refl _), hgr.2⟩

/-- append(v, x): x whatever slice is read. -/
theorem app_any {ST T : TypeId} {z : Value} (he : ElT ST T z) {w : World} {v x : Value} {l p : List Value} {P : Nat → Prop} (h : OwnV T w v l) (hx : RdV P w x p) (ty : TypeId) (hp1 : ∀ v ∈ p, v.oneCell' = true) (hlim : l.length + p.length ≤ 1000000000000) :
    ∃ v' w', (Builtin.append_ #[ST, ST] ty #[v, x]).run Tryf.prog w = .ok v' w' ∧ OwnV T w' v' (l ++ p) ∧ (∀ g ∈ v'.ownBlock, v.ownBlock = some g ∨ w.heap.size ≤ g) ∧ Kept v.ownBlock.toList w w' := by
  obtain ⟨A, c, rfl, h1, h2, h3, h5, h4⟩ := hx
  by_cases h0 : 0 < p.length
  · obtain ⟨g, o, rfl, hg, _, hc⟩ := h4 h0
    obtain ⟨g', cap, w', hr, ho, hb, hk⟩ := app_run he h ty ⟨g, o, none⟩ p.length c p rfl h0 (fun j x hj => by rw [addr_add]; exact hc j x hj) hp1 hlim
    exact ⟨_, w', hr, by simpa using ho, fun g2 hg2 => by cases hg2; exact hb, hk⟩
  · obtain rfl : p = [] := List.eq_nil_of_length_eq_zero (by omega)
    obtain ⟨hu, ⟨i, hi, hz, h1, hby⟩, hzc⟩ := he
    refine ⟨v, w, ?_, by simpa using h, fun g hg => .inl hg, Kept.refl _ _⟩
    have hF : (Builtin.firstCells i.size 0 (.slice A 0 c)).run Tryf.prog w = .ok #[] w := by
      cases A with
      | none => exact run_firstCells_none w i.size 0 0 c
      | some a => exact run_firstCells_some (P := Tryf.prog) w i.size 0 a 0 c [] (by simp) (fun j u h => by simp at h)
    rcases h.2 with ⟨rfl, h2⟩ | ⟨g, cap, cur, rfl, hb, hg, hnc, hcm, hcs, htk⟩
    · simp [Builtin.append_, run_underlying hu, sizeOf, typeInfo, hi, Builtin.lenOf, hF]
    · simp [Builtin.append_, run_underlying hu, sizeOf, typeInfo, hi, Builtin.lenOf, hF, hnc, storeCells]
end Go.Proofs.YtnnedmjkhjgbcaaFmt
