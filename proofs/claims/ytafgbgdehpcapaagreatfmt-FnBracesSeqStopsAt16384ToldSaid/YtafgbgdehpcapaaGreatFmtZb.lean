/-
  BracesSeq's consumer: its memory: the count, the words taken, the error, and the consumer behind it.
-/
import Derived.Test.YtafgbgdehpcapaaGreatFmtZa
import Derived.Test.YtafgbgdehpcapaaGreatFmtHP2
namespace Go.Proofs.YtafgbgdehpcapaaGreatFmt
open Go.RowKit

/-- B: the first new block: the words taken lie in B, the error in B + 1, the fault in B + 2, the consumer behind in B + 4, the count in B + 5. -/
structure QJ (w0 : World) (B : Nat) (ev : Bool → Value) (et : TypeId) (fy : Value) (s : Nat × Nat × Bool) (F : List Nat) (w : World) : Prop where
  k0 : Kept [] w0 w
  hB : w0.heap.size = B
  cs : w.heap[B]? = some (.cells #[.int .i64 s.2.1] 3 (0, 0))
  ce : w.heap[B + 1]? = some (.cells #[ev s.2.2] et (0, 0))
  cd : w.heap[B + 2]? = some (.cells #[.bool false] 4 (0, 0))
  cy : w.heap[B + 4]? = some (.cells #[fy] 36 (0, 0))
  cn : w.heap[B + 5]? = some (.cells #[.int .i64 s.1] 3 (0, 0))
  hF : F = [B, B + 1, B + 2, B + 4, B + 5]
section
variable {w0 w w' : World} {B : Nat} {ev : Bool → Value} {et : TypeId} {fy : Value} {s : Nat × Nat × Bool} {F : List Nat}
theorem QJ.keep {S : List Nat} (h : QJ w0 B ev et fy s F w) (k : Kept S w w') (hS : ∀ x ∈ S, x ∉ F) (hSB : ∀ x ∈ S, B ≤ x) : QJ w0 B ev et fy s F w' := by
  have hF := h.hF
  have no : ∀ x, x ∈ F → x ∉ S := fun x hx hm => hS x hm hx
  refine ⟨((h.k0.weaken (S' := S) (by simp)).trans k).weaken (fun x hx => .inr (by have := hSB x hx; have := h.hB; omega)), h.hB, (k.block _ (heap_lt h.cs) (no _ (by simp [hF]))).trans h.cs, (k.block _ (heap_lt h.ce) (no _ (by simp [hF]))).trans h.ce, (k.block _ (heap_lt h.cd) (no _ (by simp [hF]))).trans h.cd, (k.block _ (heap_lt h.cy) (no _ (by simp [hF]))).trans h.cy, (k.block _ (heap_lt h.cn) (no _ (by simp [hF]))).trans h.cn, hF⟩
theorem QJ.lt (h : QJ w0 B ev et fy s F w) : ∀ x ∈ F, B ≤ x ∧ x < w.heap.size := by
  intro x hx
  have h5 := heap_lt h.cn
  rw [h.hF] at hx
  simp only [List.mem_cons, List.not_mem_nil, or_false] at hx
  omega
theorem QJ.set {b : Nat} {v : Value} (h : QJ w0 B ev et fy s F w) (hb : B ≤ b) : Kept [] w0 (w.setCell ⟨b, 0, none⟩ v) :=
  ((h.k0.weaken (S' := [b]) (by simp)).trans ((Kept.refl [b] w).setCell (by simp) v)).weaken (fun x hx => .inr (by simp at hx; have := h.hB; omega))
theorem QJ.cnt (h : QJ w0 B ev et fy s F w) : QJ w0 B ev et fy (s.1 + 1, s.2) F (w.setCell ⟨B + 5, 0, none⟩ (.int .i64 ((s.1 : Int) + 1))) := by
  have k : Kept [B + 5] w (w.setCell ⟨B + 5, 0, none⟩ (.int .i64 ((s.1 : Int) + 1))) := (Kept.refl _ _).setCell (by simp) _
  refine ⟨h.set (by omega), h.hB, (k.block _ (heap_lt h.cs) (by simp)).trans h.cs, (k.block _ (heap_lt h.ce) (by simp)).trans h.ce, (k.block _ (heap_lt h.cd) (by simp)).trans h.cd, (k.block _ (heap_lt h.cy) (by simp)).trans h.cy, ?_, h.hF⟩
  have e : (((s.1 + 1, s.2) : Nat × Nat × Bool).1 : Int) = (s.1 : Int) + 1 := by show ((s.1 + 1 : Nat) : Int) = _; omega
  rw [e]
  exact row0s h.cn
theorem QJ.take (h : QJ w0 B ev et fy s F w) : QJ w0 B ev et fy (s.1, s.2.1 + 1, s.2.2) F (w.setCell ⟨B, 0, none⟩ (.int .i64 ((s.2.1 : Int) + 1))) := by
  have k : Kept [B] w (w.setCell ⟨B, 0, none⟩ (.int .i64 ((s.2.1 : Int) + 1))) := (Kept.refl _ _).setCell (by simp) _
  refine ⟨h.set (by omega), h.hB, ?_, (k.block _ (heap_lt h.ce) (by simp)).trans h.ce, (k.block _ (heap_lt h.cd) (by simp)).trans h.cd, (k.block _ (heap_lt h.cy) (by simp)).trans h.cy, (k.block _ (heap_lt h.cn) (by simp)).trans h.cn, h.hF⟩
  have e : (((s.1, s.2.1 + 1, s.2.2) : Nat × Nat × Bool).2.1 : Int) = (s.2.1 : Int) + 1 := by show ((s.2.1 + 1 : Nat) : Int) = _; omega
  rw [e]
  exact row0s h.cs
theorem QJ.err (h : QJ w0 B ev et fy s F w) : QJ w0 B ev et fy (s.1, s.2.1, true) F (w.setCell ⟨B + 1, 0, none⟩ (ev true)) := by
  have k : Kept [B + 1] w (w.setCell ⟨B + 1, 0, none⟩ (ev true)) := (Kept.refl _ _).setCell (by simp) _
  exact ⟨h.set (by omega), h.hB, (k.block _ (heap_lt h.cs) (by simp)).trans h.cs, row0s h.ce, (k.block _ (heap_lt h.cd) (by simp)).trans h.cd, (k.block _ (heap_lt h.cy) (by simp)).trans h.cy, (k.block _ (heap_lt h.cn) (by simp)).trans h.cn, h.hF⟩
theorem QJ.k (h : QJ w0 B ev et fy s F w) (k : Kept [] w w') : QJ w0 B ev et fy s F w' := h.keep k (by simp) (by simp)
theorem QJ.post {s' : Nat × Nat × Bool} {pw : Nat} {ob : Option Nat} (h : QJ w0 B ev et fy s' F w') (k : Kept F w w') : CallPost (QJ w0 B ev et fy) s' F pw ob w w' :=
  ⟨F, h, fun x hx => .inl hx, k.weaken (fun x hx => .inl (by simp [hx]))⟩
end
end Go.Proofs.YtafgbgdehpcapaaGreatFmt
