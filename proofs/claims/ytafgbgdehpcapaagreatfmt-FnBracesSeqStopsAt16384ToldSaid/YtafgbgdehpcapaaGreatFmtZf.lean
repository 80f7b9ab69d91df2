/-
  FnBracesSeqAgreesWithBraces: BracesSeq run to its end.
-/
import Derived.Test.YtafgbgdehpcapaaGreatFmtZd
namespace Go.Proofs.YtafgbgdehpcapaaGreatFmt
open Go.RowKit Go.Stop Go.Extern

theorem prod_m {la lb lc : Nat} {lx ly : Nat → Nat} {xs ys : List ByteArray} {m : Nat} {ls : List Value} (h : (prodW la lb lc lx ly xs.length ys.length)[m]? = some ls) :
    ∃ i j x y, m = i * ys.length + j ∧ (m : Int) / ys.length = (i : Nat) ∧ (m : Int).tdiv ys.length = (i : Nat) ∧ (m : Int) % ys.length = (j : Nat) ∧ (m : Int).tmod ys.length = (j : Nat) ∧ xs[i]? = some x ∧ ys[j]? = some y ∧ ls = [litV la, litV (lx i), litV lb, litV (ly j), litV lc] ∧ m < xs.length * ys.length := by
  have hm : m < xs.length * ys.length := by
    have := (List.getElem?_eq_some_iff.1 h).1
    rw [prodW_length] at this
    exact this
  obtain ⟨i, j, x, y, h1, h2, h3, h4, h5, h6, h7⟩ := prod_ij (m := m + 1) rfl rfl (by omega) (by omega) h
  rw [show ((m + 1 : Nat) : Int) - 1 = (m : Int) by omega] at h1 h2 h3 h4
  refine ⟨i, j, x, y, ?_, h1, h2, h3, h4, h5, h6, h7, hm⟩
  have e := Int.mul_ediv_add_emod (m : Int) (ys.length : Int)
  rw [h1, h3] at e
  have e2 : ((ys.length * i + j : Nat) : Int) = (m : Int) := by rw [Int.natCast_add, Int.natCast_mul]; exact e
  rw [Nat.mul_comm]
  omega

/-- What lies in the memory ahead of BracesSeq. -/
structure Env2 (w0 : World) (B pw la lb lc b1 b2 kb tb : Nat) (lx ly : Nat → Nat) (a b c : ByteArray) (xs ys : List ByteArray) (k : Int) (A : Option Addr) (dA : Nat) : Prop where
  hB : w0.heap.size = B
  hT : TwoW w0 pw la lb lc b1 b2 lx ly a b c xs ys
  ht : xs.length * ys.length ≤ 65536
  hsz : a.size + b.size + c.size + (szs xs).sum + (szs ys).sum ≤ 1048576
  hk : w0.cell? ⟨kb, 0, none⟩ = some (.int .i64 k)
  hl : w0.cell? ⟨tb, 0, none⟩ = some (.slice A (xs.length * ys.length) dA)
  hW : ∀ i j x y, xs[i]? = some x → ys[j]? = some y → ∃ g pk, A = some ⟨g, 0, none⟩ ∧ w0.cell? ⟨g, i * ys.length + j, none⟩ = some (.pointer (some ⟨pk, 0, none⟩)) ∧ ∀ w2, Kept [] w0 w2 → Calls Tryz.prog 12 #[.pointer (some ⟨pk, 0, none⟩)] w2 fun e w' => e = .returned (.string (catB [a, x, b, y, c])) ∧ Kept [] w2 w'

theorem q2_call {w0 w : World} {B pw la lb lc b1 b2 kb tb dA pk : Nat} {lx ly : Nat → Nat} {a b c : ByteArray} {xs ys : List ByteArray} {k : Int} {A : Option Addr} (E : Env2 w0 B pw la lb lc b1 b2 kb tb lx ly a b c xs ys k A dA) (F : Interp) (hF : F.answers w0.tape)
    {s : Nat × Nat × Bool} {Fo : List Nat} {v : Value} {ls : List Value} (hj : QJ w0 B Value.bool 4 (Y2 B kb tb) s Fo w) (hword : WordAt w pk v) (hpw : pk ∉ Fo) (hown : OwnV 52 w v ls) (hrow : ∀ g ∈ v.ownBlock, g ∉ Fo) (hG : GQ (prodW la lb lc lx ly xs.length ys.length) s ls) :
    Calls Tryz.prog 24 #[.pointer (some ⟨pk, 0, none⟩), .pointer (some ⟨B + 5, 0, none⟩), .pointer (some ⟨B + 4, 0, none⟩)] w fun e w' => e = .returned (.bool (stpQ k s ls).2) ∧ CallPost (QJ w0 B Value.bool 4 (Y2 B kb tb)) (stpQ k s ls).1 Fo pk v.ownBlock w w' := by
  obtain ⟨c0, m, e0⟩ := s
  obtain ⟨g1, g2, hy, h6⟩ := hG
  simp only at g1 g2 hy h6
  subst g1 g2
  by_cases hm : c0 < 16384
  · by_cases hk : 0 ≤ k ∧ k ≤ c0
    · have e : stpQ k (c0, c0, false) ls = ((c0 + 1, c0, false), false) := by unfold stpQ; rw [if_pos hm, if_pos hk]
      rw [e]
      exact Zd_A hj E.hk hm hk.1 hk.2
    · have e : stpQ k (c0, c0, false) ls = ((c0 + 1, c0 + 1, false), true) := by unfold stpQ; rw [if_pos hm, if_neg hk]
      rw [e]
      have hj1 : QJ w0 B Value.bool 4 (Y2 B kb tb) (c0 + 1, c0, false) Fo (w.setCell ⟨B + 5, 0, none⟩ (.int .i64 ((c0 : Int) + 1))) := hj.cnt
      have kc : Kept [B + 5] w (w.setCell ⟨B + 5, 0, none⟩ (.int .i64 ((c0 : Int) + 1))) := (Kept.refl _ _).setCell (by simp) _
      have hFo := hj.hF
      have n1 : pk ∉ [B + 5] := fun h => hpw (by simp at h; simp [hFo, h])
      have n2 : ∀ g ∈ v.ownBlock, g ∉ [B + 5] := fun g hg h => hrow g hg (by simp at h; simp [hFo, h])
      obtain ⟨i, j, x, y, q1, _, _, _, _, hx, hyy, hls, hlt⟩ := prod_m hy
      subst hls
      have hs : a.size + x.size + b.size + y.size + c.size ≤ 1000000000 := by have := szs_mem hx; have := szs_mem hyy; have := E.hsz; omega
      obtain ⟨g, pk2, rfl, hgc, hgl⟩ := E.hW i j x y hx hyy
      rw [← q1] at hgc
      have kk := hj1.k0
      refine Zd_B hj hm (y2_word hj1 ((kk.cell (p := ⟨kb, 0, none⟩) (block_lt_of_cell E.hk) (by simp)).trans E.hk) hk hlt E.ht ((kk.cell (p := ⟨tb, 0, none⟩) (block_lt_of_cell E.hl) (by simp)).trans E.hl) ((kk.cell (p := ⟨g, c0, none⟩) (block_lt_of_cell hgc) (by simp)).trans hgc) (fun W' k' => two_lit (E.hT.kept kk) (hword.kept kc n1) (hown.kept kc n2) hx hyy hs W' k') (fun W' k' => hgl W' (kk.trans k')))
  · by_cases hk : 0 ≤ k ∧ k ≤ c0
    · have e : stpQ k (c0, c0, false) ls = ((c0 + 1, c0, false), false) := by
        unfold stpQ
        rw [if_neg hm]
        have : (decide (0 ≤ k ∧ k ≤ (c0 : Int))) = true := decide_eq_true hk
        simp only [this]
        rfl
      rw [e]
      exact Zd_C hj E.hk hm h6 hk.1 hk.2 F hF
    · have e : stpQ k (c0, c0, false) ls = ((c0 + 1, c0, true), false) := by
        unfold stpQ
        rw [if_neg hm]
        have : (decide (0 ≤ k ∧ k ≤ (c0 : Int))) = false := decide_eq_false hk
        simp only [this]
        rfl
      rw [e]
      exact Zd_D hj E.hk hm h6 hk F hF

theorem q2_cons {w0 : World} {B pw la lb lc b1 b2 kb tb dA : Nat} {lx ly : Nat → Nat} {a b c : ByteArray} {xs ys : List ByteArray} {k : Int} {A : Option Addr} (E : Env2 w0 B pw la lb lc b1 b2 kb tb lx ly a b c xs ys k A dA) (F : Interp) (hF : F.answers w0.tape) :
    Cons w0 B (GQ (prodW la lb lc lx ly xs.length ys.length)) 24 #[.pointer (some ⟨B + 5, 0, none⟩), .pointer (some ⟨B + 4, 0, none⟩)] (stpQ k) (QJ w0 B Value.bool 4 (Y2 B kb tb)) where
  enters := enters_of Tryz.func24 (by kernel_rfl) rfl
  small := fun h => by rw [prodW_mem _ (List.mem_of_getElem? h.2.2.1)]; omega
  keep := QJ.keep
  lt := QJ.lt
  call := fun hj _ hword _ hpw hown hrow _ hG => q2_call E F hF hj hword hpw hown (fun g hg => (hrow g hg).2) hG

theorem bs_any (w : World) (p : Value) (pw : Nat) : Calls Tryz.prog 10 #[p, .pointer (some ⟨pw, 0, none⟩)] w fun e w' => e = .returned (.func (.func 23) #[] #[.pointer (some ⟨w.heap.size, 0, none⟩)]) ∧ w' = w.alloc (.cells #[.pointer (some ⟨pw, 0, none⟩)] 26) := by
  have hmf := mk_func
  go_enter Tryz.func10, Tryz.ntmps10
  go_wp2
  go_ret
  exact ⟨rfl, rfl⟩

set_option maxRecDepth 100000 in
set_option maxHeartbeats 800000 in
theorem bseq2 {w0 W0 : World} {B pw la lb lc b1 b2 kb tb dA : Nat} {lx ly : Nat → Nat} {a b c : ByteArray} {xs ys : List ByteArray} {k : Int} {A : Option Addr} (E : Env2 w0 B pw la lb lc b1 b2 kb tb lx ly a b c xs ys k A dA) (F : Interp) (hF : F.answers w0.tape) (kW : Kept [] w0 W0) (hz : W0.heap.size = B + 4)
    (d0 : W0.heap[B]? = some (.cells #[.int .i64 0] 3 (0, 0))) (d1 : W0.heap[B + 1]? = some (.cells #[.bool false] 4 (0, 0))) (d2 : W0.heap[B + 2]? = some (.cells #[.bool false] 4 (0, 0))) (d3 : W0.heap[B + 3]? = some (.cells #[.pointer (some ⟨pw, 0, none⟩)] 26 (0, 0))) (R : (Nat × Nat × Bool) × Bool) (hR : finQ k (xs.length * ys.length) = R) :
    Calls Tryz.prog 23 #[Y2 B kb tb, .pointer (some ⟨B + 3, 0, none⟩)] W0 fun e w' => e = .returned (.tuple #[]) ∧ w'.cell? ⟨B, 0, none⟩ = some (.int .i64 R.1.2.1) ∧ w'.cell? ⟨B + 1, 0, none⟩ = some (.bool R.1.2.2) ∧ w'.cell? ⟨B + 2, 0, none⟩ = some (.bool false) ∧ Kept [] w0 w' := by
  have HB : Hid (∀ W2, Kept [] W0 W2 → W2.heap[B + 4]? = some (.cells #[Y2 B kb tb] 36 (0, 0)) → W2.heap[B + 5]? = some (.cells #[.int .i64 0] 3 (0, 0)) → Calls Tryz.prog 21 #[.pointer (some ⟨pw, 0, none⟩), .func (.func 24) #[] #[.pointer (some ⟨B + 5, 0, none⟩), .pointer (some ⟨B + 4, 0, none⟩)]] W2 fun e w' => (∃ bb, e = .returned (.bool bb)) ∧ w'.cell? ⟨B, 0, none⟩ = some (.int .i64 R.1.2.1) ∧ w'.cell? ⟨B + 1, 0, none⟩ = some (.bool R.1.2.2) ∧ w'.cell? ⟨B + 2, 0, none⟩ = some (.bool false) ∧ Kept [] w0 w') := Lib.hid (fun W2 k2 h4 h5 => by
    obtain ⟨vw, hvw, hrw⟩ := E.hT.word
    have k02 := kW.trans k2
    have hj : QJ w0 B Value.bool 4 (Y2 B kb tb) (0, 0, false) [B, B + 1, B + 2, B + 4, B + 5] W2 := ⟨k02, E.hB, (k2.block _ (heap_lt d0) (by simp)).trans d0, (k2.block _ (heap_lt d1) (by simp)).trans d1, (k2.block _ (heap_lt d2) (by simp)).trans d2, h4, h5, rfl⟩
    have hlw := heap_lt hvw
    have hB := E.hB
    have hlen := prodW_length la lb lc lx ly xs.length ys.length
    have hx := E.hT.exp
    rw [hB] at hx
    have hb := bsr hx _ _ _ _ _ _ (q2_cons E F hF) (by simp) (0, 0, false) [B, B + 1, B + 2, B + 4, B + 5] W2 pw vw (safe_q _ 0 rfl (by omega)) hj ⟨by have := k02.size; omega, fun i hi => k02.block i (by omega) (by simp)⟩ (hvw.kept k02 (by simp)) (by simp; omega) ((hrw.weaken (Q := (· ∉ [B, B + 1, B + 2, B + 4, B + 5])) (fun g hg _ => by simp; omega)).kept k02 (by simp))
    rw [runs_q (yss := prodW la lb lc lx ly xs.length ys.length) (prodW la lb lc lx ly xs.length ys.length) 0 rfl (by omega) (by omega) (by omega), hlen, hR] at hb
    refine hb.mono ?_
    rintro e w' ⟨rfl, F', hj', _, _⟩
    exact ⟨⟨_, rfl⟩, row0 hj'.cs, row0 hj'.ce, row0 hj'.cd, hj'.k0⟩)
  have c3 := row0 d3
  have hmf := mk_func
  have hz1 : (W0.alloc (.cells #[Y2 B kb tb] 36)).heap.size = B + 5 := by simp [hz]
  have q1 := heap_alloc_new W0 (.cells #[Y2 B kb tb] 36)
  have q2 := heap_alloc_new (W0.alloc (.cells #[Y2 B kb tb] 36)) (.cells #[.int .i64 0] 3)
  rw [hz1] at q2
  have q1' := (Below.heap_alloc (W0.alloc (.cells #[Y2 B kb tb] 36)) (.cells #[.int .i64 0] 3) W0.heap.size (by rw [hz1]; omega)).trans q1
  rw [hz] at q1'
  have HC := HB.out _ (((Kept.refl [] W0).alloc (.cells #[Y2 B kb tb] 36)).alloc (.cells #[.int .i64 0] 3)) q1' q2
  clear d0 d1 d2 d3 E hF hR kW HB q1 q1' q2 hz1
  unfold Y2 at HC ⊢
  have HC := Lib.hid HC
  go_enter Tryz.func23, Tryz.ntmps23
  go_wp2_with (go_at_call 21; refine HC.out.mono ?_; rintro e w5 ⟨⟨bb, rfl⟩, h1, h2, h3, h4⟩; dsimp only; have H1 := Lib.hid (And.intro h1 (And.intro h2 (And.intro h3 h4))); clear h1 h2 h3 h4)
  go_end0
  exact ⟨rfl, H1.out⟩
end Go.Proofs.YtafgbgdehpcapaaGreatFmt
