/-
  n010_87's helpers: the clone of a byte slice.
-/
import Derived.Test.YtmmoeendejbjeaaDoorByt
namespace Go.Proofs.YtmmoeendejbjeaaDoor
open Go.RowKit

set_option maxRecDepth 100000 in
set_option maxHeartbeats 400000 in
theorem clone_some (w : World) (g o n c : Nat) (l : List UInt8) (hn : n < 1000000000) (hl : l.length = n) (hg : 0 < n → g < w.heap.size) (hc : ∀ j x, l[j]? = some x → w.cell? ⟨g, o + j, none⟩ = some (By x)) :
    Calls Tryd.prog 10 #[.slice (some ⟨g, o, none⟩) n c] w fun e w' => e = .returned (.slice (some ⟨w.heap.size, 0, none⟩) n n) ∧ w'.heap[w.heap.size]? = some (.cells (Bys l).toArray 5 (0, 0)) ∧ Kept [] w w' := by
  have q1 : ∀ (w : World) (a : Option Addr) (n c n' c' : Nat), (binOp .eql 22 (.slice a n c) (.slice none n' c')).run Tryd.prog w = .ok (.bool a.isNone) w := fun w a n c n' c' => Lib.run_eql_slice_nil w _ _ a n c n' c' u8_und
  have q2 := fun w => make_u8 n hn w
  have HL := Lib.hid hl
  have HC := Lib.hid hc
  have HG := Lib.hid hg
  clear hl hc hg
  go_enter Tryd.func10, Tryd.ntmps10
  go_wp2
  clear q1 q2
  have hst : (w.alloc (.cells (zs n).toArray 5)).heap[w.heap.size]? = some (.cells (Bys (l.take 0) ++ zs (n - 0)).toArray 5 (0, 0)) := by
    rw [heap_alloc_new]; simp [Bys]
  have hst2 : Kept [] w (w.alloc (.cells (zs n).toArray 5)) := (Kept.refl _ _).alloc _
  have HS1 := Lib.hid hst
  have HS2 := Lib.hid hst2
  clear hst hst2
  go_loopw [4] (fun i wr => ∃ k : Nat, k ≤ n ∧ i = .int .i64 k ∧ Hid (wr.heap[w.heap.size]? = some (.cells (Bys (l.take k) ++ zs (n - k)).toArray 5 (0, 0))) ∧ Hid (Kept [] w wr)) (fun i _ => n - (intOf i).toNat)
  case atStart => exact ⟨0, Nat.zero_le _, rfl, HS1, HS2⟩
  case round =>
    obtain ⟨k, hk, rfl, hb, hkp⟩ := hrel
    by_cases hlt : k < n
    · obtain ⟨x, hx⟩ : ∃ x, l[k]? = some x := ⟨l[k]'(by have := HL.out; omega), List.getElem?_eq_getElem _⟩
      have hcs : wr.cell? ⟨g, o + k, none⟩ = some (By x) := by
        rw [hkp.out.cell (p := ⟨g, o + k, none⟩) (HG.out (by omega)) (by simp)]; exact HC.out k x hx
      have hco : ∃ v, wr.cell? ⟨w.heap.size, k, none⟩ = some v := by
        rw [row_cell hb.out]
        have : k < (Bys (l.take k) ++ zs (n - k)).length := by have := HL.out; simp [zs]; omega
        exact ⟨_, List.getElem?_eq_getElem this⟩
      obtain ⟨v0, hco⟩ := hco
      have hfo := row_free hb.out k
      have HX := Lib.hid hx; clear hx
      unfold By at hcs
      go_wp2
      go_roundw
      case rel =>
        refine ⟨k + 1, by omega, by go_num, ?_, ?_⟩
        · have h1 := row_set hb.out k (By x)
          rw [set_step l n k x HL.out HX.out] at h1
          exact h1
        · have : Kept [w.heap.size] wr (wr.setCell ⟨w.heap.size, k, none⟩ (By x)) := (Kept.refl _ _).setCell (by simp) _
          exact (hkp.out.weaken (S' := [w.heap.size]) (by simp)).trans this |>.weaken (by simp)
      case measure => simp [intOf]; omega
    · go_wp2
      go_ret
      have hkn : k = n := by omega
      subst hkn
      refine ⟨rfl, ?_, hkp.out⟩
      have h1 := hb.out
      rw [List.take_of_length_le (by have := HL.out; omega), Nat.sub_self] at h1
      simpa [zs] using h1

theorem clone_nil (w : World) (n c : Nat) :
    Calls Tryd.prog 10 #[.slice none n c] w fun e w' => e = .returned (.slice none 0 0) ∧ w = w' := by
  have q1 : ∀ (w : World) (a : Option Addr) (n c n' c' : Nat), (binOp .eql 22 (.slice a n c) (.slice none n' c')).run Tryd.prog w = .ok (.bool a.isNone) w := fun w a n c n' c' => Lib.run_eql_slice_nil w _ _ a n c n' c' u8_und
  go_enter Tryd.func10, Tryd.ntmps10
  go_wp2
  go_ret
  exact ⟨rfl, rfl⟩

set_option maxRecDepth 100000 in
theorem clone_zero (w : World) (ad : Addr) (c : Nat) :
    Calls Tryd.prog 10 #[.slice (some ad) 0 c] w fun e w' => e = .returned (.slice (some ⟨w.heap.size, 0, none⟩) 0 0) ∧ Kept [] w w' := by
  have q1 : ∀ (w : World) (a : Option Addr) (n c n' c' : Nat), (binOp .eql 22 (.slice a n c) (.slice none n' c')).run Tryd.prog w = .ok (.bool a.isNone) w := fun w a n c n' c' => Lib.run_eql_slice_nil w _ _ a n c n' c' u8_und
  have q2 : ∀ w, (Instr.makeSlice 22 (.int .i64 0) (.int .i64 0)).run Tryd.prog w = .ok (.slice (some ⟨w.heap.size, 0, none⟩) 0 0) (w.alloc (.cells (zs 0).toArray 5)) := fun w => make_u8 0 (by omega) w
  go_enter Tryd.func10, Tryd.ntmps10
  go_wp2
  refine wp_loop_once ?_
  go_wp2
  go_ret
  exact ⟨rfl, (Kept.refl _ _).alloc _⟩

/-- The clone reads as what it was made of. -/
theorem clone_spec (w : World) (A : Option Addr) (n c : Nat) (l : List UInt8) (hn : n < 1000000000) (hA : A = none → n = 0 ∧ c = 0) (h : SrcB w A n l) :
    Calls Tryd.prog 10 #[.slice A n c] w fun e w' => ∃ A', e = .returned (.slice A' n n) ∧ SrcB w' A' n l ∧ Kept [] w w' := by
  cases A with
  | none =>
    obtain ⟨rfl, rfl⟩ := hA rfl
    refine (clone_nil w 0 0).mono ?_
    rintro e w' ⟨rfl, rfl⟩
    exact ⟨none, rfl, h, Kept.refl _ _⟩
  | some a =>
    by_cases h0 : 0 < n
    · obtain ⟨g, o, e, hg, hc⟩ := h.2 h0
      obtain rfl : a = ⟨g, o, none⟩ := Option.some.inj e
      refine (clone_some w g o n c l hn h.1 (fun _ => hg) hc).mono ?_
      rintro e w' ⟨rfl, hb, hk⟩
      exact ⟨_, rfl, SrcB.row hb h.1, hk⟩
    · obtain rfl : n = 0 := by omega
      refine (clone_zero w a c).mono ?_
      rintro e w' ⟨rfl, hk⟩
      exact ⟨_, rfl, ⟨h.1, fun h => absurd h (by omega)⟩, hk⟩
end Go.Proofs.YtmmoeendejbjeaaDoor
