/-
  n010_58: the model of whatever slice; a string out of bytes.
-/
import Derived.Test.YtejjmonaoajlgaaDoorJn
import Derived.Test.YtejjmonaoajlgaaDoorJm
import Derived.Deep.RegionHeld3
namespace Go.Proofs.YtejjmonaoajlgaaDoor
open Go.RowKit

set_option maxRecDepth 100000 in
theorem mj_nil (w : World) (base : Int) : Calls Tryd.prog 10 #[.int .i64 base, .slice none 0 0] w fun e w' => e = .returned (.slice none 0 0) ∧ w = w' := by
  go_enter Tryd.func10, Tryd.ntmps10
  go_wp2
  refine wp_loop_once ?_
  go_wp2
  go_ret
  exact ⟨rfl, rfl⟩
theorem mj_of {w : World} {A : Option Addr} {base : Int} {n c : Nat} {l : List UInt8} (hs : SrcB w A n l) (hA : (A = none ∧ n = 0 ∧ c = 0) ∨ ∃ g o, A = some ⟨g, o, none⟩) (hb1 : 0 ≤ base) (hb2 : base ≤ 65536) (hn : n ≤ 65537) :
    Calls Tryd.prog 10 #[.int .i64 base, .slice A n c] w fun e w' => ∃ B c', e = .returned (.slice B (foldI base is0 l).out.length c') ∧ SrcB w' B (foldI base is0 l).out.length (foldI base is0 l).out ∧ Kept [] w w' := by
  rcases hA with ⟨rfl, rfl, rfl⟩ | ⟨g, o, rfl⟩
  · obtain rfl : l = [] := List.eq_nil_of_length_eq_zero hs.1
    refine (mj_nil w base).mono ?_
    rintro e w' ⟨rfl, rfl⟩
    exact ⟨none, 0, rfl, ⟨rfl, fun h => absurd h (by simp [foldI, is0])⟩, Kept.refl _ _⟩
  · have hg : ∀ (_ : 0 < n), g < w.heap.size ∧ ∀ j x, l[j]? = some x → w.cell? ⟨g, o + j, none⟩ = some (By x) := fun h => by
      obtain ⟨g', o', e, h1, h2⟩ := hs.2 h
      cases e
      exact ⟨h1, h2⟩
    refine (mjnd w base g o n c l hs.1 (fun h => (hg h).1) (fun j x hj => ?_) hb1 hb2 hn).mono ?_
    · have hlt : j < l.length := (List.getElem?_eq_some_iff.1 hj).1
      exact (hg (by have := hs.1; omega)).2 j x hj
    · rintro e w' ⟨v, rfl, ho, hav⟩
      obtain ⟨B, c', rfl⟩ := ho.slice
      exact ⟨B, c', rfl, ho.src.1, hav.2⟩
/-- 'string(b)'. -/
theorem conv_str (w : World) (A : Option Addr) (n c : Nat) (l : List UInt8) (hs : SrcB w A n l) (hA : (A = none ∧ n = 0) ∨ ∃ g o, A = some ⟨g, o, none⟩) : (convert 22 9 (.slice A n c)).run Tryd.prog w = .ok (.string ⟨l.toArray⟩) w := by
  have hu : Tryd.prog.underlying 9 = some .string := by kernel_rfl
  have h8 : Tryd.prog.underlying 5 = some (.int .u8) := by kernel_rfl
  rcases hA with ⟨rfl, rfl⟩ | ⟨g, o, rfl⟩
  · obtain rfl : l = [] := List.eq_nil_of_length_eq_zero hs.1
    exact Lib.run_convert_nil_bytes w _ _ _ c u8_und h8 hu
  · have hl := hs.1
    subst hl
    refine run_convert_bytes_back (P := Tryd.prog) w 22 9 5 ⟨g, o, none⟩ c l u8_und h8 hu ?_
    intro j hj
    obtain ⟨g', o', e, _, hcc⟩ := hs.2 (by omega)
    cases e
    rw [addr_add]
    exact hcc j _ (List.getElem?_eq_getElem hj)
/-- 'b[:k]' and 'b[k:]'. -/
theorem cut_lo (A : Option Addr) (n k : Nat) (hk : k ≤ n) (w : World) : (Instr.slice 22 (.slice A n n) none (some (.int .i64 k)) none).run Tryd.prog w = .ok (.slice A k n) w := by
  have h := run_slice_h (P := Tryd.prog) w 22 A n n u8_und2 .i64 k (by omega) (by omega)
  rw [h, u8_size]
  have e0 : ∀ a : Addr, a.add 0 = a := fun a => by obtain ⟨g, o, s⟩ := a; unfold Addr.add; split <;> simp_all
  cases A <;> simp [sliced, e0]
theorem cut_hi (A : Option Addr) (n k : Nat) (hk : k ≤ n) (w : World) : (Instr.slice 22 (.slice A n n) (some (.int .i64 k)) none none).run Tryd.prog w = .ok (.slice (if n = k then A else A.map (·.add k)) (n - k) (n - k)) w := by
  have h := run_slice_l (P := Tryd.prog) w 22 A n n u8_und2 .i64 k (by omega) (by omega)
  rw [h, u8_size]
  simp [sliced]
theorem SrcB.lo {w : World} {A : Option Addr} {n : Nat} {l : List UInt8} (h : SrcB w A n l) (k : Nat) (hk : k ≤ n) : SrcB w A k (l.take k) := by
  refine ⟨by rw [List.length_take, h.1]; omega, fun h0 => ?_⟩
  obtain ⟨g, o, e, hg, hc⟩ := h.2 (by omega)
  refine ⟨g, o, e, hg, fun j c hj => hc j c ?_⟩
  rw [List.getElem?_take] at hj
  split at hj
  · exact hj
  · cases hj
theorem SrcB.hi {w : World} {A : Option Addr} {n : Nat} {l : List UInt8} (h : SrcB w A n l) (k : Nat) (_hk : k ≤ n) : SrcB w (if n = k then A else A.map (·.add k)) (n - k) (l.drop k) := by
  refine ⟨by rw [List.length_drop, h.1], fun h0 => ?_⟩
  obtain ⟨g, o, e, hg, hc⟩ := h.2 (by omega)
  rw [if_neg (by omega), e]
  refine ⟨g, o + k, by simp [addr_add], hg, fun j c hj => ?_⟩
  rw [List.getElem?_drop] at hj
  rw [Nat.add_assoc]; exact hc _ c hj
end Go.Proofs.YtejjmonaoajlgaaDoor
