/-
  FnBracesSeqAgreesWithBraces: the call of the sequence, at the world where the law makes it.
-/
import Derived.Test.YtafgbgdehpcapaaGreatFmtZf
namespace Go.Proofs.YtafgbgdehpcapaaGreatFmt
open Go.RowKit Go.Stop Go.Extern

theorem agr_call {w4 : World} {pw la lb lc b1 b2 kb dA tot : Nat} {lx ly : Nat → Nat} {a b c : ByteArray} {xs ys : List ByteArray} {k : Int} {A : Option Addr} (hT : TwoW w4 pw la lb lc b1 b2 lx ly a b c xs ys) (htot : xs.length * ys.length = tot) (ht : tot ≤ 65536) (hsz : a.size + b.size + c.size + (szs xs).sum + (szs ys).sum ≤ 1048576) (hk : w4.cell? ⟨kb, 0, none⟩ = some (.int .i64 k)) (hW : ∀ i j x y, xs[i]? = some x → ys[j]? = some y → ∃ g pk, A = some ⟨g, 0, none⟩ ∧ w4.cell? ⟨g, i * ys.length + j, none⟩ = some (.pointer (some ⟨pk, 0, none⟩)) ∧ g < w4.heap.size ∧ ∀ w2, Kept [] w4 w2 → Calls Tryz.prog 12 #[.pointer (some ⟨pk, 0, none⟩)] w2 fun e w' => e = .returned (.string (catB [a, x, b, y, c])) ∧ Kept [] w2 w') (F : Interp) (hF : F.answers w4.tape) (R : (Nat × Nat × Bool) × Bool) (hR : finQ k tot = R) :
    Calls Tryz.prog 23 #[.func (.func 11) #[] #[.pointer (some ⟨w4.heap.size + 3, 0, none⟩), .pointer (some ⟨kb, 0, none⟩), .pointer (some ⟨w4.heap.size + 1, 0, none⟩), .pointer (some ⟨w4.heap.size + 2, 0, none⟩), .pointer (some ⟨w4.heap.size, 0, none⟩)], .pointer (some ⟨w4.heap.size + 4, 0, none⟩)]
      (((((w4.alloc (.cells #[.slice A tot dA] 28)).alloc (.cells #[.int .i64 0] 3)).alloc (.cells #[.bool false] 4)).alloc (.cells #[.bool false] 4)).alloc (.cells #[.pointer (some ⟨pw, 0, none⟩)] 26)) fun e w' => e = .returned (.tuple #[]) ∧ w'.cell? ⟨w4.heap.size + 1, 0, none⟩ = some (.int .i64 R.1.2.1) ∧ w'.cell? ⟨w4.heap.size + 2, 0, none⟩ = some (.bool R.1.2.2) ∧ w'.cell? ⟨w4.heap.size + 3, 0, none⟩ = some (.bool false) ∧ Kept [] w4 w' := by
  subst htot
  obtain ⟨z, hz⟩ : ∃ z, z = w4.heap.size := ⟨_, rfl⟩
  rw [← hz]
  have k4 : Kept [] w4 (w4.alloc (.cells #[.slice A (xs.length * ys.length) dA] 28)) := (Kept.refl _ _).alloc _
  have z0 : (w4.alloc (.cells #[.slice A (xs.length * ys.length) dA] 28)).heap.size = z + 1 := by simp [hz]
  have q0 := heap_alloc_new w4 (.cells #[.slice A (xs.length * ys.length) dA] 28)
  rw [← hz] at q0
  obtain ⟨w0, hw0⟩ : ∃ w0, w0 = w4.alloc (.cells #[.slice A (xs.length * ys.length) dA] 28) := ⟨_, rfl⟩
  rw [← hw0] at k4 z0 q0 ⊢
  have EV : Env2 w0 (z + 1) pw la lb lc b1 b2 kb z lx ly a b c xs ys k A dA := ⟨z0, hT.kept k4, ht, hsz, (k4.cell (p := ⟨kb, 0, none⟩) (block_lt_of_cell hk) (by simp)).trans hk, row0 q0, fun i j x y hx hy => by
    obtain ⟨g, pk, e, hc, hg, hl⟩ := hW i j x y hx hy
    exact ⟨g, pk, e, (k4.cell (p := ⟨g, i * ys.length + j, none⟩) hg (by simp)).trans hc, fun w2 kk => hl w2 (k4.trans kk)⟩⟩
  have q1 := heap_alloc_new w0 (.cells #[.int .i64 0] 3)
  have z1 : (w0.alloc (.cells #[.int .i64 0] 3)).heap.size = z + 2 := by simp [z0]
  obtain ⟨u1, hu1⟩ : ∃ u, u = w0.alloc (.cells #[.int .i64 0] 3) := ⟨_, rfl⟩
  have q2 := heap_alloc_new u1 (.cells #[.bool false] 4)
  have z2 : (u1.alloc (.cells #[.bool false] 4)).heap.size = z + 3 := by rw [← hu1] at z1; simp [z1]
  obtain ⟨u2, hu2⟩ : ∃ u, u = u1.alloc (.cells #[.bool false] 4) := ⟨_, rfl⟩
  have q3 := heap_alloc_new u2 (.cells #[.bool false] 4)
  have z3 : (u2.alloc (.cells #[.bool false] 4)).heap.size = z + 4 := by rw [← hu2] at z2; simp [z2]
  obtain ⟨u3, hu3⟩ : ∃ u, u = u2.alloc (.cells #[.bool false] 4) := ⟨_, rfl⟩
  have q4 := heap_alloc_new u3 (.cells #[.pointer (some ⟨pw, 0, none⟩)] 26)
  have z4 : (u3.alloc (.cells #[.pointer (some ⟨pw, 0, none⟩)] 26)).heap.size = z + 5 := by rw [← hu3] at z3; simp [z3]
  have e1 : Kept [] w0 u1 := by rw [hu1]; exact (Kept.refl _ _).alloc _
  have e2 : Kept [] u1 u2 := by rw [hu2]; exact (Kept.refl _ _).alloc _
  have e3 : Kept [] u2 u3 := by rw [hu3]; exact (Kept.refl _ _).alloc _
  have e4 : Kept [] u3 (u3.alloc (.cells #[.pointer (some ⟨pw, 0, none⟩)] 26)) := (Kept.refl _ _).alloc _
  rw [← hu1] at q1 z1
  rw [← hu2] at q2 z2
  rw [← hu3] at q3 z3
  rw [z0] at q1
  rw [z1] at q2
  rw [z2] at q3
  rw [z3] at q4
  rw [← hu1, ← hu2, ← hu3]
  have h := bseq2 EV F (by rw [k4.tape]; exact hF) (((e1.trans e2).trans e3).trans e4) z4 (((e2.trans e3).trans e4).block _ (by omega) (by simp) |>.trans q1) ((e3.trans e4).block _ (by omega) (by simp) |>.trans q2) (e4.block _ (by omega) (by simp) |>.trans q3) q4 R hR
  refine Calls.mono h ?_
  rintro e w' ⟨r0, r1, r2, r3, r4⟩
  exact ⟨r0, r1, r2, r3, k4.trans r4⟩

theorem fin1 {k : Int} {T : Nat} (h1 : T ≤ 16384) (h2 : k < 0) : finQ k T = ((T, T, false), true) := by unfold finQ; rw [if_neg (by omega), if_pos h1]
theorem fin2 {k T : Nat} (h1 : T ≤ 16384) (h2 : k < T) : finQ (k : Int) T = ((k + 1, k, false), false) := by unfold finQ; rw [if_pos (by omega)]; simp
theorem fin3 {k T : Nat} (h1 : T ≤ 16384) (h2 : ¬ k < T) : finQ (k : Int) T = ((T, T, false), true) := by unfold finQ; rw [if_neg (by omega), if_pos h1]
theorem fin4 {k : Int} {T : Nat} (h1 : 16384 < T) (h2 : k < 0) : finQ k T = ((16385, 16384, true), false) := by unfold finQ; rw [if_neg (by omega), if_neg (by omega)]
theorem fin5 {k T : Nat} (h1 : 16384 < T) (h2 : k < 16384) : finQ (k : Int) T = ((k + 1, k, false), false) := by unfold finQ; rw [if_pos (by omega)]; simp
theorem fin6 {T : Nat} (h1 : 16384 < T) : finQ ((16384 : Nat) : Int) T = ((16385, 16384, false), false) := by unfold finQ; rw [if_pos (by omega)]; rfl
theorem fin7 {k T : Nat} (h1 : 16384 < T) (h2 : 16384 < k) : finQ (k : Int) T = ((16385, 16384, true), false) := by unfold finQ; rw [if_neg (by omega), if_neg (by omega)]

end Go.Proofs.YtafgbgdehpcapaaGreatFmt
