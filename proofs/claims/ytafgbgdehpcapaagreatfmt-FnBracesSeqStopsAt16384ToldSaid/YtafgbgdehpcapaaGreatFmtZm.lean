/-
  FnBracesSeqStopsAt16384: the boxes of its parameters; the call of the sequence.
-/
import Derived.Test.YtafgbgdehpcapaaGreatFmtZj
import Derived.Test.YtafgbgdehpcapaaGreatFmtZk
namespace Go.Proofs.YtafgbgdehpcapaaGreatFmt
open Go.RowKit Go.Stop Go.Extern

/-- The five boxes of the parameters. -/
structure Box5 (q0 q1 q2 q3 q4 : Nat) (a b c : ByteArray) (s1 s2 : Value) (W : World) : Prop where
  n3 : q0 ≠ q3 ∧ q1 ≠ q3 ∧ q2 ≠ q3 ∧ q4 ≠ q3
  n4 : q0 ≠ q4 ∧ q1 ≠ q4 ∧ q2 ≠ q4
  h0 : W.heap[q0]? = some (.cells #[.string a] 9 (0, 0))
  h1 : W.heap[q1]? = some (.cells #[.string b] 9 (0, 0))
  h2 : W.heap[q2]? = some (.cells #[.string c] 9 (0, 0))
  h3 : W.heap[q3]? = some (.cells #[s1] 22 (0, 0))
  h4 : W.heap[q4]? = some (.cells #[s2] 22 (0, 0))
section
variable {q0 q1 q2 q3 q4 : Nat} {a b c : ByteArray} {s1 s2 : Value} {W W' : World}
theorem Box5.kept (h : Box5 q0 q1 q2 q3 q4 a b c s1 s2 W) (k : Kept [] W W') : Box5 q0 q1 q2 q3 q4 a b c s1 s2 W' :=
  ⟨h.n3, h.n4, (k.block _ (heap_lt h.h0) (by simp)).trans h.h0, (k.block _ (heap_lt h.h1) (by simp)).trans h.h1, (k.block _ (heap_lt h.h2) (by simp)).trans h.h2, (k.block _ (heap_lt h.h3) (by simp)).trans h.h3, (k.block _ (heap_lt h.h4) (by simp)).trans h.h4⟩
theorem Box5.set3 (h : Box5 q0 q1 q2 q3 q4 a b c s1 s2 W) (v : Value) : Box5 q0 q1 q2 q3 q4 a b c v s2 (W.setCell ⟨q3, 0, none⟩ v) := by
  have k : Kept [q3] W (W.setCell ⟨q3, 0, none⟩ v) := (Kept.refl _ _).setCell (by simp) _
  exact ⟨h.n3, h.n4, (k.block _ (heap_lt h.h0) (by simp [h.n3])).trans h.h0, (k.block _ (heap_lt h.h1) (by simp [h.n3])).trans h.h1, (k.block _ (heap_lt h.h2) (by simp [h.n3])).trans h.h2, row0s h.h3, (k.block _ (heap_lt h.h4) (by simp [h.n3])).trans h.h4⟩
theorem Box5.set4 (h : Box5 q0 q1 q2 q3 q4 a b c s1 s2 W) (v : Value) : Box5 q0 q1 q2 q3 q4 a b c s1 v (W.setCell ⟨q4, 0, none⟩ v) := by
  have k : Kept [q4] W (W.setCell ⟨q4, 0, none⟩ v) := (Kept.refl _ _).setCell (by simp) _
  exact ⟨h.n3, h.n4, (k.block _ (heap_lt h.h0) (by simp [h.n4])).trans h.h0, (k.block _ (heap_lt h.h1) (by simp [h.n4])).trans h.h1, (k.block _ (heap_lt h.h2) (by simp [h.n4])).trans h.h2, (k.block _ (heap_lt h.h3) (by have := h.n3.2.2.2; simp; omega)).trans h.h3, row0s h.h4⟩
end
theorem box5_new (w : World) (a b c : ByteArray) (s1 s2 : Value) {q0 q1 q2 q3 q4 : Nat} (e0 : w.heap.size = q0) (e1 : q0 + 1 = q1) (e2 : q1 + 1 = q2) (e3 : q2 + 1 = q3) (e4 : q3 + 1 = q4) :
    Box5 q0 q1 q2 q3 q4 a b c s1 s2 (((((w.alloc (.cells #[.string a] 9)).alloc (.cells #[.string b] 9)).alloc (.cells #[.string c] 9)).alloc (.cells #[s1] 22)).alloc (.cells #[s2] 22)) := by
  have al : ∀ (v : World) (o : Obj) (q : Nat), v.heap.size = q → (v.alloc o).heap.size = q + 1 := fun v o q h => by simp [h]
  have g0 := heap_alloc_new w (.cells #[.string a] 9)
  have z0 := al w (.cells #[.string a] 9) q0 e0
  obtain ⟨w1, hw1⟩ : ∃ u, u = w.alloc (.cells #[.string a] 9) := ⟨_, rfl⟩
  rw [← hw1] at g0 z0 ⊢
  have g1 := heap_alloc_new w1 (.cells #[.string b] 9)
  have z1 := al w1 (.cells #[.string b] 9) _ z0
  obtain ⟨w2, hw2⟩ : ∃ u, u = w1.alloc (.cells #[.string b] 9) := ⟨_, rfl⟩
  have k1 : Kept [] w1 w2 := by rw [hw2]; exact (Kept.refl _ _).alloc _
  rw [← hw2] at g1 z1 ⊢
  have g2 := heap_alloc_new w2 (.cells #[.string c] 9)
  have z2 := al w2 (.cells #[.string c] 9) _ z1
  obtain ⟨w3, hw3⟩ : ∃ u, u = w2.alloc (.cells #[.string c] 9) := ⟨_, rfl⟩
  have k2 : Kept [] w2 w3 := by rw [hw3]; exact (Kept.refl _ _).alloc _
  rw [← hw3] at g2 z2 ⊢
  have g3 := heap_alloc_new w3 (.cells #[s1] 22)
  have z3 := al w3 (.cells #[s1] 22) _ z2
  obtain ⟨w4, hw4⟩ : ∃ u, u = w3.alloc (.cells #[s1] 22) := ⟨_, rfl⟩
  have k3 : Kept [] w3 w4 := by rw [hw4]; exact (Kept.refl _ _).alloc _
  rw [← hw4] at g3 z3 ⊢
  have g4 := heap_alloc_new w4 (.cells #[s2] 22)
  have k4 : Kept [] w4 (w4.alloc (.cells #[s2] 22)) := (Kept.refl _ _).alloc _
  rw [e0] at g0
  rw [z0, e1] at g1
  rw [z1, e1, e2] at g2
  rw [z2, e1, e2, e3] at g3
  rw [z3, e1, e2, e3, e4] at g4
  refine ⟨by omega, by omega, ?_, ?_, ?_, ?_, g4⟩
  · exact ((((k1.trans k2).trans k3).trans k4).block _ (heap_lt g0) (by simp)).trans g0
  · exact (((k2.trans k3).trans k4).block _ (heap_lt g1) (by simp)).trans g1
  · exact ((k3.trans k4).block _ (heap_lt g2) (by simp)).trans g2
  · exact (k4.block _ (heap_lt g3) (by simp)).trans g3

theorem alloc_two {u : World} {z : Nat} (hz : u.heap.size = z) (v1 v2 : Value) (t1 t2 : TypeId) : ((u.alloc (.cells #[v1] t1)).alloc (.cells #[v2] t2)).heap[z]? = some (.cells #[v1] t1 (0, 0)) ∧ ((u.alloc (.cells #[v1] t1)).alloc (.cells #[v2] t2)).heap[z + 1]? = some (.cells #[v2] t2 (0, 0)) := by
  have g0 := heap_alloc_new u (.cells #[v1] t1)
  rw [hz] at g0
  have z1 : (u.alloc (.cells #[v1] t1)).heap.size = z + 1 := by simp [hz]
  have g1 := heap_alloc_new (u.alloc (.cells #[v1] t1)) (.cells #[v2] t2)
  rw [z1] at g1
  have k : Kept [] (u.alloc (.cells #[v1] t1)) ((u.alloc (.cells #[v1] t1)).alloc (.cells #[v2] t2)) := (Kept.refl _ _).alloc _
  exact ⟨(k.block _ (heap_lt g0) (by simp)).trans g0, g1⟩

theorem st_call {w3 : World} {pw la lb lc b1 b2 tb nb ab xb bb yb cb c1 c2 : Nat} {lx ly : Nat → Nat} {a b c : ByteArray} {xs ys : List ByteArray} {A1 A2 : Option Addr} (E : Env1 w3 w3.heap.size pw la lb lc b1 b2 tb nb ab xb bb yb cb lx ly a b c xs ys A1 A2 c1 c2) (F : Interp) (hF : F.answers w3.tape) (R : (Nat × Nat × Bool) × Bool) (hR : finQ (-1) (xs.length * ys.length) = R) :
    Calls Tryz.prog 23 #[.func (.func 15) #[] #[.pointer (some ⟨w3.heap.size + 2, 0, none⟩), .pointer (some ⟨w3.heap.size + 1, 0, none⟩), .pointer (some ⟨w3.heap.size, 0, none⟩), .pointer (some ⟨tb, 0, none⟩), .pointer (some ⟨nb, 0, none⟩), .pointer (some ⟨ab, 0, none⟩), .pointer (some ⟨xb, 0, none⟩), .pointer (some ⟨bb, 0, none⟩), .pointer (some ⟨yb, 0, none⟩), .pointer (some ⟨cb, 0, none⟩)], .pointer (some ⟨w3.heap.size + 3, 0, none⟩)]
      ((((w3.alloc (.cells #[.int .i64 0] 3)).alloc (.cells #[.int .i64 0] 3)).alloc (.cells #[.bool false] 4)).alloc (.cells #[.pointer (some ⟨pw, 0, none⟩)] 26)) fun e w' => e = .returned (.tuple #[]) ∧ w'.cell? ⟨w3.heap.size, 0, none⟩ = some (.int .i64 R.1.2.1) ∧ w'.cell? ⟨w3.heap.size + 1, 0, none⟩ = some (ev1 R.1.2.2) ∧ w'.cell? ⟨w3.heap.size + 2, 0, none⟩ = some (.bool false) ∧ Kept [] w3 w' := by
  obtain ⟨z, hz⟩ : ∃ z, z = w3.heap.size := ⟨_, rfl⟩
  rw [← hz] at E ⊢
  have q1 := heap_alloc_new w3 (.cells #[.int .i64 0] 3)
  have z1 : (w3.alloc (.cells #[.int .i64 0] 3)).heap.size = z + 1 := by simp [hz]
  obtain ⟨u1, hu1⟩ : ∃ u, u = w3.alloc (.cells #[.int .i64 0] 3) := ⟨_, rfl⟩
  have q2 := heap_alloc_new u1 (.cells #[.int .i64 0] 3)
  have z2 : (u1.alloc (.cells #[.int .i64 0] 3)).heap.size = z + 2 := by rw [← hu1] at z1; simp [z1]
  obtain ⟨u2, hu2⟩ : ∃ u, u = u1.alloc (.cells #[.int .i64 0] 3) := ⟨_, rfl⟩
  have q3 := heap_alloc_new u2 (.cells #[.bool false] 4)
  have z3 : (u2.alloc (.cells #[.bool false] 4)).heap.size = z + 3 := by rw [← hu2] at z2; simp [z2]
  obtain ⟨u3, hu3⟩ : ∃ u, u = u2.alloc (.cells #[.bool false] 4) := ⟨_, rfl⟩
  have q4 := heap_alloc_new u3 (.cells #[.pointer (some ⟨pw, 0, none⟩)] 26)
  have z4 : (u3.alloc (.cells #[.pointer (some ⟨pw, 0, none⟩)] 26)).heap.size = z + 4 := by rw [← hu3] at z3; simp [z3]
  have e1 : Kept [] w3 u1 := by rw [hu1]; exact (Kept.refl _ _).alloc _
  have e2 : Kept [] u1 u2 := by rw [hu2]; exact (Kept.refl _ _).alloc _
  have e3 : Kept [] u2 u3 := by rw [hu3]; exact (Kept.refl _ _).alloc _
  have e4 : Kept [] u3 (u3.alloc (.cells #[.pointer (some ⟨pw, 0, none⟩)] 26)) := (Kept.refl _ _).alloc _
  rw [← hu1] at q1 z1
  rw [← hu2] at q2 z2
  rw [← hu3] at q3 z3
  rw [← hz] at q1
  rw [z1] at q2
  rw [z2] at q3
  rw [z3] at q4
  rw [← hu1, ← hu2, ← hu3]
  exact bseq1 E F hF (((e1.trans e2).trans e3).trans e4) z4 (((e2.trans e3).trans e4).block _ (by omega) (by simp) |>.trans q1) ((e3.trans e4).block _ (by omega) (by simp) |>.trans q2) (e4.block _ (by omega) (by simp) |>.trans q3) q4 R hR
end Go.Proofs.YtafgbgdehpcapaaGreatFmt
