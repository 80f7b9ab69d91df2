/-
  FnBracesSeqStopsAt16384: BracesSeq run to its end.
-/
import Derived.Test.YtafgbgdehpcapaaGreatFmtZd1
import Derived.Test.YtafgbgdehpcapaaGreatFmtZf
namespace Go.Proofs.YtafgbgdehpcapaaGreatFmt
open Go.RowKit Go.Stop Go.Extern

/-- What lies in the memory ahead of BracesSeq. -/
structure Env1 (w0 : World) (B pw la lb lc b1 b2 tb nb ab xb bb yb cb : Nat) (lx ly : Nat → Nat) (a b c : ByteArray) (xs ys : List ByteArray) (A1 A2 : Option Addr) (c1 c2 : Nat) : Prop where
  hB : w0.heap.size = B
  hT : TwoW w0 pw la lb lc b1 b2 lx ly a b c xs ys
  ht : xs.length * ys.length ≤ 65536
  hx9 : xs.length ≤ 1000000
  hy9 : ys.length ≤ 1000000
  hsz : a.size + b.size + c.size + (szs xs).sum + (szs ys).sum ≤ 1048576
  ha : w0.cell? ⟨ab, 0, none⟩ = some (.string a)
  hb : w0.cell? ⟨bb, 0, none⟩ = some (.string b)
  hc : w0.cell? ⟨cb, 0, none⟩ = some (.string c)
  hx : w0.cell? ⟨xb, 0, none⟩ = some (.slice A1 xs.length c1)
  hy : w0.cell? ⟨yb, 0, none⟩ = some (.slice A2 ys.length c2)
  hn : w0.cell? ⟨nb, 0, none⟩ = some (.int .i64 ys.length)
  htb : w0.cell? ⟨tb, 0, none⟩ = some (.int .i64 (xs.length * ys.length : Nat))
  hX : ∀ i x, xs[i]? = some x → ∃ g o, A1 = some ⟨g, o, none⟩ ∧ w0.cell? ⟨g, o + i, none⟩ = some (.string x)
  hY : ∀ j y, ys[j]? = some y → ∃ g o, A2 = some ⟨g, o, none⟩ ∧ w0.cell? ⟨g, o + j, none⟩ = some (.string y)

theorem q1_call {w0 w : World} {B pw la lb lc b1 b2 tb nb ab xb bb yb cb c1 c2 : Nat} {lx ly : Nat → Nat} {a b c : ByteArray} {xs ys : List ByteArray} {A1 A2 : Option Addr} {pk : Nat} (E : Env1 w0 B pw la lb lc b1 b2 tb nb ab xb bb yb cb lx ly a b c xs ys A1 A2 c1 c2) (F : Interp) (hF : F.answers w0.tape)
    {s : Nat × Nat × Bool} {Fo : List Nat} {v : Value} {ls : List Value} (hj : QJ w0 B ev1 3 (Y1 B tb nb ab xb bb yb cb) s Fo w) (hword : WordAt w pk v) (hpw : pk ∉ Fo) (hown : OwnV 52 w v ls) (hrow : ∀ g ∈ v.ownBlock, g ∉ Fo) (hG : GQ (prodW la lb lc lx ly xs.length ys.length) s ls) :
    Calls Tryz.prog 24 #[.pointer (some ⟨pk, 0, none⟩), .pointer (some ⟨B + 5, 0, none⟩), .pointer (some ⟨B + 4, 0, none⟩)] w fun e w' => e = .returned (.bool (stpQ (-1) s ls).2) ∧ CallPost (QJ w0 B ev1 3 (Y1 B tb nb ab xb bb yb cb)) (stpQ (-1) s ls).1 Fo pk v.ownBlock w w' := by
  obtain ⟨c0, m, e0⟩ := s
  obtain ⟨g1, g2, hy, h6⟩ := hG
  simp only at g1 g2 hy h6
  subst g1 g2
  have hk : ¬ (0 ≤ (-1 : Int) ∧ (-1 : Int) ≤ c0) := by omega
  by_cases hm : c0 < 16384
  · have e : stpQ (-1) (c0, c0, false) ls = ((c0 + 1, c0 + 1, false), true) := by unfold stpQ; rw [if_pos hm, if_neg hk]
    rw [e]
    have hj1 : QJ w0 B ev1 3 (Y1 B tb nb ab xb bb yb cb) (c0 + 1, c0, false) Fo (w.setCell ⟨B + 5, 0, none⟩ (.int .i64 ((c0 : Int) + 1))) := hj.cnt
    have kc : Kept [B + 5] w (w.setCell ⟨B + 5, 0, none⟩ (.int .i64 ((c0 : Int) + 1))) := (Kept.refl _ _).setCell (by simp) _
    have hFo := hj.hF
    have n1 : pk ∉ [B + 5] := fun h => hpw (by simp at h; simp [hFo, h])
    have n2 : ∀ g ∈ v.ownBlock, g ∉ [B + 5] := fun g hg h => hrow g hg (by simp at h; simp [hFo, h])
    obtain ⟨i, j, x, y, q1, q2, q3, q4, q5, hx, hyy, hls, hlt⟩ := prod_m hy
    subst hls
    have h1 := szs_mem hx
    have h2 := szs_mem hyy
    have h3 := E.hsz
    have hs : a.size + x.size + b.size + y.size + c.size ≤ 1000000000 := by omega
    obtain ⟨gx, ox, rfl, hxc⟩ := E.hX i x hx
    obtain ⟨gy, oy, rfl, hyc⟩ := E.hY j y hyy
    have kk := hj1.k0
    have up : ∀ {p : Addr} {v : Value}, w0.cell? p = some v → (w.setCell ⟨B + 5, 0, none⟩ (.int .i64 ((c0 : Int) + 1))).cell? p = some v := fun {p v} h => (kk.cell (p := p) (block_lt_of_cell h) (by simp)).trans h
    have hcat : (catB [a, x, b, y, c]).size ≤ 1000000000 := by
      have z : ∀ p : ByteArray, p.data.toList.length = p.size := fun _ => rfl
      show (List.flatMap _ _).length ≤ _
      simp only [List.flatMap_cons, List.flatMap_nil, List.length_append, List.length_nil, z]
      omega
    exact Zd1_B hj hm (y1_word hj1 hm hlt (up E.ha) (up E.hb) (up E.hc) (up E.hx) (up E.hy) (up E.hn) (up E.htb) (up hxc) (up hyc) (List.getElem?_eq_some_iff.1 hx).1 (by have := E.hx9; omega) (List.getElem?_eq_some_iff.1 hyy).1 q2 q3 q4 q5 hcat (fun W' k' => two_lit (E.hT.kept kk) (hword.kept kc n1) (hown.kept kc n2) hx hyy hs W' k'))
  · have e : stpQ (-1) (c0, c0, false) ls = ((c0 + 1, c0, true), false) := by
      unfold stpQ
      rw [if_neg hm]
      have : (decide (0 ≤ (-1 : Int) ∧ (-1 : Int) ≤ (c0 : Int))) = false := decide_eq_false hk
      simp only [this]
      rfl
    rw [e]
    exact Zd1_D hj hm h6 F hF

theorem q1_cons {w0 : World} {B pw la lb lc b1 b2 tb nb ab xb bb yb cb c1 c2 : Nat} {lx ly : Nat → Nat} {a b c : ByteArray} {xs ys : List ByteArray} {A1 A2 : Option Addr} (E : Env1 w0 B pw la lb lc b1 b2 tb nb ab xb bb yb cb lx ly a b c xs ys A1 A2 c1 c2) (F : Interp) (hF : F.answers w0.tape) :
    Cons w0 B (GQ (prodW la lb lc lx ly xs.length ys.length)) 24 #[.pointer (some ⟨B + 5, 0, none⟩), .pointer (some ⟨B + 4, 0, none⟩)] (stpQ (-1)) (QJ w0 B ev1 3 (Y1 B tb nb ab xb bb yb cb)) where
  enters := enters_of Tryz.func24 (by kernel_rfl) rfl
  small := fun h => by rw [prodW_mem _ (List.mem_of_getElem? h.2.2.1)]; omega
  keep := QJ.keep
  lt := QJ.lt
  call := fun hj _ hword _ hpw hown hrow _ hG => q1_call E F hF hj hword hpw hown (fun g hg => (hrow g hg).2) hG

set_option maxRecDepth 100000 in
set_option maxHeartbeats 800000 in
theorem bseq1 {W0 : World} {w0 : World} {B pw la lb lc b1 b2 tb nb ab xb bb yb cb c1 c2 : Nat} {lx ly : Nat → Nat} {a b c : ByteArray} {xs ys : List ByteArray} {A1 A2 : Option Addr} (E : Env1 w0 B pw la lb lc b1 b2 tb nb ab xb bb yb cb lx ly a b c xs ys A1 A2 c1 c2) (F : Interp) (hF : F.answers w0.tape) (kW : Kept [] w0 W0) (hz : W0.heap.size = B + 4)
    (d0 : W0.heap[B]? = some (.cells #[.int .i64 0] 3 (0, 0))) (d1 : W0.heap[B + 1]? = some (.cells #[.int .i64 0] 3 (0, 0))) (d2 : W0.heap[B + 2]? = some (.cells #[.bool false] 4 (0, 0))) (d3 : W0.heap[B + 3]? = some (.cells #[.pointer (some ⟨pw, 0, none⟩)] 26 (0, 0))) (R : (Nat × Nat × Bool) × Bool) (hR : finQ (-1) (xs.length * ys.length) = R) :
    Calls Tryz.prog 23 #[Y1 B tb nb ab xb bb yb cb, .pointer (some ⟨B + 3, 0, none⟩)] W0 fun e w' => e = .returned (.tuple #[]) ∧ w'.cell? ⟨B, 0, none⟩ = some (.int .i64 R.1.2.1) ∧ w'.cell? ⟨B + 1, 0, none⟩ = some (ev1 R.1.2.2) ∧ w'.cell? ⟨B + 2, 0, none⟩ = some (.bool false) ∧ Kept [] w0 w' := by
  have HB : Hid (∀ W2, Kept [] W0 W2 → W2.heap[B + 4]? = some (.cells #[Y1 B tb nb ab xb bb yb cb] 36 (0, 0)) → W2.heap[B + 5]? = some (.cells #[.int .i64 0] 3 (0, 0)) → Calls Tryz.prog 21 #[.pointer (some ⟨pw, 0, none⟩), .func (.func 24) #[] #[.pointer (some ⟨B + 5, 0, none⟩), .pointer (some ⟨B + 4, 0, none⟩)]] W2 fun e w' => (∃ bb, e = .returned (.bool bb)) ∧ w'.cell? ⟨B, 0, none⟩ = some (.int .i64 R.1.2.1) ∧ w'.cell? ⟨B + 1, 0, none⟩ = some (ev1 R.1.2.2) ∧ w'.cell? ⟨B + 2, 0, none⟩ = some (.bool false) ∧ Kept [] w0 w') := Lib.hid (fun W2 k2 h4 h5 => by
    obtain ⟨vw, hvw, hrw⟩ := E.hT.word
    have k02 := kW.trans k2
    have hj : QJ w0 B ev1 3 (Y1 B tb nb ab xb bb yb cb) (0, 0, false) [B, B + 1, B + 2, B + 4, B + 5] W2 := ⟨k02, E.hB, (k2.block _ (heap_lt d0) (by simp)).trans d0, (k2.block _ (heap_lt d1) (by simp)).trans d1, (k2.block _ (heap_lt d2) (by simp)).trans d2, h4, h5, rfl⟩
    have hlw := heap_lt hvw
    have hB := E.hB
    have hlen := prodW_length la lb lc lx ly xs.length ys.length
    have hx := E.hT.exp
    rw [hB] at hx
    have hb := bsr hx _ _ _ _ _ _ (q1_cons E F hF) (by simp) (0, 0, false) [B, B + 1, B + 2, B + 4, B + 5] W2 pw vw (safe_q _ 0 rfl (by omega)) hj ⟨by have := k02.size; omega, fun i hi => k02.block i (by omega) (by simp)⟩ (hvw.kept k02 (by simp)) (by simp; omega) ((hrw.weaken (Q := (· ∉ [B, B + 1, B + 2, B + 4, B + 5])) (fun g hg _ => by simp; omega)).kept k02 (by simp))
    rw [runs_q (yss := prodW la lb lc lx ly xs.length ys.length) (prodW la lb lc lx ly xs.length ys.length) 0 rfl (by omega) (by omega) (by omega), hlen, hR] at hb
    refine hb.mono ?_
    rintro e w' ⟨rfl, F', hj', _, _⟩
    exact ⟨⟨_, rfl⟩, row0 hj'.cs, row0 hj'.ce, row0 hj'.cd, hj'.k0⟩)
  have c3 := row0 d3
  have hmf := mk_func
  have hz1 : (W0.alloc (.cells #[Y1 B tb nb ab xb bb yb cb] 36)).heap.size = B + 5 := by simp [hz]
  have q1 := heap_alloc_new W0 (.cells #[Y1 B tb nb ab xb bb yb cb] 36)
  have q2 := heap_alloc_new (W0.alloc (.cells #[Y1 B tb nb ab xb bb yb cb] 36)) (.cells #[.int .i64 0] 3)
  rw [hz1] at q2
  have q1' := (Below.heap_alloc (W0.alloc (.cells #[Y1 B tb nb ab xb bb yb cb] 36)) (.cells #[.int .i64 0] 3) W0.heap.size (by rw [hz1]; omega)).trans q1
  rw [hz] at q1'
  have HC := HB.out _ (((Kept.refl [] W0).alloc (.cells #[Y1 B tb nb ab xb bb yb cb] 36)).alloc (.cells #[.int .i64 0] 3)) q1' q2
  clear d0 d1 d2 d3 E hF hR kW HB q1 q1' q2 hz1
  unfold Y1 at HC ⊢
  have HC := Lib.hid HC
  go_enter Tryz.func23, Tryz.ntmps23
  go_wp2_with (go_at_call 21; refine HC.out.mono ?_; rintro e w5 ⟨⟨bb, rfl⟩, h1, h2, h3, h4⟩; dsimp only; have H1 := Lib.hid (And.intro h1 (And.intro h2 (And.intro h3 h4))); clear h1 h2 h3 h4)
  go_end0
  exact ⟨rfl, H1.out⟩
end Go.Proofs.YtafgbgdehpcapaaGreatFmt
