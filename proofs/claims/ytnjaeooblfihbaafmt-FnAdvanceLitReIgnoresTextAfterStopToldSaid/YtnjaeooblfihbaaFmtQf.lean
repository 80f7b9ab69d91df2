/-
  nextPos, whatever it answers; the parser's token, value and position put anew.
-/
import Derived.Test.YtnjaeooblfihbaaFmtQe
import Derived.Handy
import Derived.IntWalk
namespace Go.Proofs.YtnjaeooblfihbaaFmt
open Go.RowKit

theorem wrap_nn (x : Int) : 0 ≤ IntKind.u64.wrap x := by
  unfold IntKind.wrap
  simp only [IntKind.bits, IntKind.signed, Bool.false_and, Bool.false_eq_true, if_false]
  omega

set_option maxRecDepth 100000 in
set_option maxHeartbeats 1600000 in
theorem nextpos_any {w : World} {pb : Nat} {p : Pc} (hp : PB w pb p) (o b wd ln cl : Int) (h12 : p.offs = .int .i64 o) (h2 : p.bsp = .int .u64 b) (h4 : p.w = .int .i64 wd) (h13 : p.line = .int .i64 ln) (h14 : p.col = .int .i64 cl) (o1 : 0 ≤ o) (o2 : o ≤ 1000000000) (b1 : 0 ≤ b) (b2 : b ≤ 100000) (d1 : 0 ≤ wd) (d2 : wd ≤ 8) (l1 : 0 ≤ ln) (l2 : ln ≤ 1000000000100) (k1 : 0 ≤ cl) (k2 : cl ≤ 1000000000100) :
    Calls Tryf.prog 33 #[.pointer (some ⟨pb, 0, none⟩)] w fun e w' => (∃ x y, e = .returned (.agg #[.int .u32 x, .int .u32 y])) ∧ Kept [] w w' := by
  have c12 := hp.c_offs; have c2 := hp.c_bsp; have c4 := hp.c_w; have c13 := hp.c_line; have c14 := hp.c_col
  rw [h12] at c12; rw [h2] at c2; rw [h4] at c4; rw [h13] at c13; rw [h14] at c14
  have hlt := block_lt_of_cell c12
  clear hp h12 h2 h4 h13 h14
  go_enter Tryf.func33, Tryf.ntmps33
  go_wp2_with fail
  have e1 : IntKind.i64.wrap b = b := IntWalk.i64_in _ (by omega)
  have e2 : IntKind.i64.wrap (o + b) = o + b := IntWalk.i64_in _ (by omega)
  have e3 : IntKind.i64.wrap (o + b - wd) = o + b - wd := IntWalk.i64_in _ (by omega)
  go_region
  all_goals (go_wp2_with (go_at_call 44; refine (newpos_any _ _ _ (by first | omega | exact wrap_nn _) (by omega) (by omega) _).mono ?_; rintro e w' ⟨x, y, rfl, rfl⟩))
  all_goals (
    refine bodyPost_ret (by simp [results, Tryf.results33, go_sem]; try rfl) rfl ?_
    exact ⟨⟨_, _, rfl⟩, (((Kept.refl _ _).alloc _).alloc _).drew⟩)

/-- The state's parser; its token, value and position may be put anew. -/
theorem LexS.mark {w : World} {B pb rb : Nat} {ea : Addr} {q : Pc} {r : Int} {u : List UInt8} {lit : Option (List UInt8)} {k : Nat} (h : LexS w B pb rb ea q r u lit k) (hB : 0 < B) :
    ∃ p o b wd ln cl, PB w pb p ∧ p.base = q.base ∧ p.openBquotes = .int .i64 0 ∧ Lt w B pb p lit ∧ (p.offs = .int .i64 o ∧ p.bsp = .int .u64 b ∧ p.w = .int .i64 wd ∧ p.line = .int .i64 ln ∧ p.col = .int .i64 cl ∧ 0 ≤ o ∧ o ≤ 1000000000 ∧ 0 ≤ b ∧ b ≤ 100000 ∧ 0 ≤ wd ∧ wd ≤ 8 ∧ 0 ≤ ln ∧ ln ≤ 1000000000000 + k ∧ 0 ≤ cl ∧ cl ≤ 1000000000000 + 4 * k) ∧
      ∀ w' t v x y, PB w' pb { p with tok := t, val := v, pos1 := x, pos2 := y } → Kept [pb] w w' → LexS w' B pb rb ea { q with tok := t, val := v, pos1 := x, pos2 := y } r u lit k := by
  obtain ⟨p, wd, ln, col, hb, h1, h2, h3, h4, h5, w1, w2, w3, l1, l2, c1, c2, b1, b2, b3, hl, hll, hcase⟩ := h
  have hp : PB w pb p := by
    rcases hcase with ⟨_, win, rest, bsp, offs, hm⟩ | ⟨_, _, ha⟩
    · exact hm.lx.hpb
    · exact ha.1
  have hob : ∃ o b : Int, p.offs = .int .i64 o ∧ p.bsp = .int .u64 b ∧ 0 ≤ o ∧ o ≤ 1000000000 ∧ 0 ≤ b ∧ b ≤ 100000 := by
    rcases hcase with ⟨_, win, rest, bsp, offs, hm⟩ | ⟨_, _, _, _, _, A, n, c, m, b, e3, e4, e5, e6, _, o, e8, e9, e10⟩
    · have a1 := hm.ho1; have a2 := hm.ho2; have a3 := hm.hb; have a4 := hm.lx.hfit
      exact ⟨offs, bsp, hm.hoffs, hm.lx.hbsp, a1, by omega, by omega, by omega⟩
    · exact ⟨o, m, e8, e4, e9, e10, by omega, by omega⟩
  obtain ⟨o, b, ho, hbs, o1, o2, o3, o4⟩ := hob
  refine ⟨p, o, b, wd, ln, col, hp, hb, h5, hl, ⟨ho, hbs, h2, h3, h4, o1, o2, o3, o4, w1, by omega, l1, by omega, c1, by omega⟩, fun w' t v x y hp' hk' => ?_⟩
  refine ⟨{ p with tok := t, val := v, pos1 := x, pos2 := y }, wd, ln, col, congrArg (fun z : Pc => { z with tok := t, val := v, pos1 := x, pos2 := y }) hb, h1, h2, h3, h4, h5, w1, w2, w3, l1, l2, c1, c2, b1, b2, Nat.le_trans b3 hk'.size, hl.kept hk' (by simp; exact b1) rfl rfl, hll, ?_⟩
  rcases hcase with ⟨hr, win, rest, bsp, offs, hm⟩ | ⟨hr, hu, ha⟩
  · refine .inl ⟨hr, win, rest, bsp, offs, ?_⟩
    have := hm.step (Kb.of hk' (by simp)) hB hp' 0 (by have := hm.hb; omega) rfl rfl rfl (by simpa using hm.lx.hbsp) rfl rfl rfl
    simpa using this
  · obtain ⟨_, e1, e2, A, n, c, m, b, e3, e4, e5, e6, e7⟩ := ha
    exact .inr ⟨hr, hu, hp', e1, e2, A, n, c, m, b, e3, e4, e5, e6, e7⟩
end Go.Proofs.YtnjaeooblfihbaaFmt
