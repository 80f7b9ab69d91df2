/-
  peek, peekTwo, extendedGlob of the lexer in the middle of its input.
-/
import Derived.Test.YtejlgdiepjiodaaFmtQh
import Derived.Test.YtejlgdiepjiodaaFmtRp
import Derived.Handy
namespace Go.Proofs.YtejlgdiepjiodaaFmt
open Go.RowKit

theorem in_run (a b : Int) (r : Bool) (hr : (bits BinOp.and IntKind.i64 a b == a) = r) (w : World) : Calls Tryf.prog 44 #[.int .i64 a, .int .i64 b] w fun e w' => e = .returned (.bool r) ∧ w = w' := by
  have HR := Lib.hid hr
  clear hr
  go_enter Tryf.func44, Tryf.ntmps44
  go_wp2
  go_ret
  exact ⟨by rw [HR.out]; rfl, rfl⟩
theorem in_16 (w : World) : Calls Tryf.prog 44 #[.int .i64 2, .int .i64 16] w fun e w' => e = .returned (.bool false) ∧ w = w' := in_run 2 16 false (by decide +kernel) w
theorem in_9 (w : World) : Calls Tryf.prog 44 #[.int .i64 2, .int .i64 9] w fun e w' => e = .returned (.bool false) ∧ w = w' := in_run 2 9 false (by decide +kernel) w
theorem in_29 (w : World) : Calls Tryf.prog 44 #[.int .i64 2, .int .i64 29] w fun e w' => e = .returned (.bool false) ∧ w = w' := in_run 2 29 false (by decide +kernel) w

theorem LexS.peeked {w w' : World} {B pb rb : Nat} {ea : Addr} {q : Pc} {r : Int} {u : List UInt8} {lit : Option (List UInt8)} {k m : Nat} {p : Pc} {wd ln col : Int} (hb : p.base = q.base) (h1 : p.r = .int .i32 r) (h2 : p.w = .int .i64 wd) (h3 : p.line = .int .i64 ln) (h4 : p.col = .int .i64 col) (h5 : p.openBquotes = .int .i64 0)
    (w1 : 0 ≤ wd) (w2 : wd ≤ 2) (w3 : 0 < r → r < 128 → wd = 1) (l1 : 0 ≤ ln) (l2 : ln + u.length ≤ 10000000000 + k) (c1 : 0 ≤ col) (c2 : col + 4 * u.length ≤ 10000000000 + 4 * k) (b1 : pb < B) (b2 : rb < B) (b3 : B ≤ w.heap.size) (hl : Lt w B pb p lit) (hll : ∀ l ∈ lit, l.length + u.length ≤ 1000000000) (hr : r ≠ 1114112) (hpk : Pk w w' B pb rb ea p u m) :
    LexS w' B pb rb ea q r u lit k ∧ Kr B pb rb w w' := by
  obtain ⟨p', win', rest', bsp', offs', hm', hs', hk', _⟩ := hpk.out
  refine ⟨⟨p', wd, ln, col, ?_, (congrArg Pc.r hs').trans h1, (congrArg Pc.w hs').trans h2, (congrArg Pc.line hs').trans h3, (congrArg Pc.col hs').trans h4, (congrArg Pc.openBquotes hs').trans h5, w1, w2, w3, l1, l2, c1, c2, b1, b2, Nat.le_trans b3 hk'.size, hl.kept hk' (by simp; omega) (by have := congrArg Pc.litBs hs'; exact this) (by have := congrArg Pc.litBuf hs'; exact this), hll, .inl ⟨hr, win', rest', bsp', offs', hm'⟩⟩, Kr.of hk' (by simp)⟩
  rw [← hb]
  unfold Pc.base
  rw [core_of_side hs']

theorem peek_s {w : World} {B pb rb : Nat} {ea : Addr} {q : Pc} {r : Int} {u : List UInt8} {lit : Option (List UInt8)} {k : Nat} (h : LexS w B pb rb ea q r u lit k) (hr : r ≠ 1114112) :
    Calls Tryf.prog 35 #[.pointer (some ⟨pb, 0, none⟩)] w fun e w' => e = .returned (By (hd2 u).1) ∧ LexS w' B pb rb ea q r u lit k ∧ Kr B pb rb w w' := by
  obtain ⟨p, wd, ln, col, hb, h1, h2, h3, h4, h5, w1, w2, w3, l1, l2, c1, c2, b1, b2, b3, hl, hll, ⟨_, win, rest, bsp, offs, hm⟩ | ⟨he, _⟩⟩ := h
  · refine (peek_md hm r h1 hr).mono ?_
    rintro e w' ⟨rfl, hpk⟩
    exact ⟨rfl, LexS.peeked hb h1 h2 h3 h4 h5 w1 w2 w3 l1 l2 c1 c2 b1 b2 b3 hl hll hr hpk⟩
  · exact absurd he hr

theorem peek2_s {w : World} {B pb rb : Nat} {ea : Addr} {q : Pc} {r : Int} {u : List UInt8} {lit : Option (List UInt8)} {k : Nat} (h : LexS w B pb rb ea q r u lit k) (hr : r ≠ 1114112) :
    Calls Tryf.prog 36 #[.pointer (some ⟨pb, 0, none⟩)] w fun e w' => e = .returned (.tuple #[By (hd2 u).1, By (hd2 u).2]) ∧ LexS w' B pb rb ea q r u lit k ∧ Kr B pb rb w w' := by
  obtain ⟨p, wd, ln, col, hb, h1, h2, h3, h4, h5, w1, w2, w3, l1, l2, c1, c2, b1, b2, b3, hl, hll, ⟨_, win, rest, bsp, offs, hm⟩ | ⟨he, _⟩⟩ := h
  · refine (peek2_md hm r h1 hr).mono ?_
    rintro e w' ⟨rfl, hpk⟩
    exact ⟨rfl, LexS.peeked hb h1 h2 h3 h4 h5 w1 w2 w3 l1 l2 c1 c2 b1 b2 b3 hl hll hr hpk⟩
  · exact absurd he hr

/-- An extended glob opens: '(' and not ')' behind it. -/
def egB (u : List UInt8) : Bool := decide ((hd2 u).1 = 40 ∧ (hd2 u).2 ≠ 41)

set_option maxRecDepth 100000 in
set_option maxHeartbeats 800000 in
theorem eg_s {w : World} {B pb rb : Nat} {ea : Addr} {q : Pc} {r : Int} {u l : List UInt8} {k : Nat} (h : LexS w B pb rb ea q r u (some l) k) (hB : 0 < B) (hr : r ≠ 1114112) (hq1 : q.lang = .int .i64 2) (hq2 : q.val = .string ⟨#[]⟩) :
    Calls Tryf.prog 46 #[.pointer (some ⟨pb, 0, none⟩)] w fun e w' => e = .returned (.bool (egB u)) ∧ Hid (LexS w' B pb rb ea q r u (some l) k ∧ Kr B pb rb w w') := by
  obtain ⟨p, g, o, cc, hp, f10, f11, f17, f20, f27, f28, f30, f2087, fcc, fcell, flen, r10, r11, r27, rr⟩ := h.facts hB
  rw [hq1] at f20; rw [hq2] at f11
  have HP := Lib.hid (peek_s h hr)
  obtain ⟨x, hx⟩ : ∃ x, x = (hd2 u).1 := ⟨_, rfl⟩
  obtain ⟨y, hy⟩ : ∃ y, y = (hd2 u).2 := ⟨_, rfl⟩
  have HE : Hid (egB u = decide (x = 40 ∧ y ≠ 41)) := Lib.hid (by rw [egB, hx, hy])
  rw [← hx] at HP
  have HY := Lib.hid hy
  have HX := Lib.hid hx
  unfold By at HP
  by_cases hx4 : x = 40
  · subst hx4
    have gx : (((40 : UInt8).toNat : Int)) = 40 := rfl
    rw [gx] at HP
    by_cases hy4 : y = 41
    · have HF : Hid (egB u = false) := Lib.hid (by rw [HE.out, hy4]; rfl)
      have gy : (y.toNat : Int) = 41 := by rw [hy4]; rfl
      clear h hx hy hp hq1 hq2 fcell HE f10 f17 f27 f28 f30 f2087 fcc flen r10 r11 r27 rr hy4
      go_enter Tryf.func46, Tryf.ntmps46
      go_wp2_with (first
        | (go_at_call 44; refine (in_16 _).mono ?_; rintro e w' ⟨rfl, rfl⟩)
        | (go_at_call 35; refine HP.out.mono ?_; rintro e w1 ⟨rfl, h1, k1⟩; have H1 := Lib.hid h1; have K1 := Lib.hid k1; clear h1 k1)
        | (go_at_call 36; have h2 := peek2_s H1.out hr; rw [← HX.out, ← HY.out] at h2; unfold By at h2; rw [gy] at h2; refine h2.mono ?_; clear h2; rintro e w2 ⟨rfl, h2, k2⟩; have H2 := Lib.hid h2; have K2 := Lib.hid k2; clear h2 k2))
      go_ret
      rw [HF.out]
      exact ⟨rfl, Lib.hid ⟨H2.out, K1.out.trans K2.out⟩⟩
    · have HF : Hid (egB u = true) := Lib.hid (by rw [HE.out]; simp [hy4])
      have gy : ((y.toNat : Int) != 41) = true := by
        have : ¬ y.toNat = 41 := fun e => hy4 (UInt8.toNat_inj.1 e)
        simp; omega
      clear h hx hy hp hq1 hq2 fcell HE f10 f17 f27 f28 f30 f2087 fcc flen r10 r11 r27 rr hy4
      go_enter Tryf.func46, Tryf.ntmps46
      go_wp2_with (first
        | (go_at_call 44; refine (in_16 _).mono ?_; rintro e w' ⟨rfl, rfl⟩)
        | (go_at_call 35; refine HP.out.mono ?_; rintro e w1 ⟨rfl, h1, k1⟩; have H1 := Lib.hid h1; have K1 := Lib.hid k1; clear h1 k1)
        | (go_at_call 36; have h2 := peek2_s H1.out hr; rw [← HX.out, ← HY.out] at h2; unfold By at h2; refine h2.mono ?_; clear h2; rintro e w2 ⟨rfl, h2, k2⟩; have H2 := Lib.hid h2; have K2 := Lib.hid k2; clear h2 k2))
      go_ret
      rw [HF.out]
      exact ⟨rfl, Lib.hid ⟨H2.out, K1.out.trans K2.out⟩⟩
  · have HF : Hid (egB u = false) := Lib.hid (by rw [HE.out]; simp [hx4])
    have gx : ((x.toNat : Int) == 40) = false := by
      have : ¬ x.toNat = 40 := fun e => hx4 (UInt8.toNat_inj.1 e)
      simp; omega
    clear h hx hy hp hq1 hq2 fcell HE f10 f17 f27 f28 f30 f2087 fcc flen r10 r11 r27 rr hx4
    go_enter Tryf.func46, Tryf.ntmps46
    go_wp2_with (first | (go_at_call 44; refine (in_16 _).mono ?_; rintro e w' ⟨rfl, rfl⟩) | (go_at_call 35; refine HP.out.mono ?_; rintro e w1 ⟨rfl, h1, k1⟩; have H1 := Lib.hid h1; have K1 := Lib.hid k1; clear h1 k1))
    go_ret
    rw [HF.out]
    exact ⟨rfl, Lib.hid ⟨H1.out, K1.out⟩⟩
end Go.Proofs.YtejlgdiepjiodaaFmt
