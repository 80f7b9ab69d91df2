/-
  advanceLitRe, walked: its token, value, state and count of open parentheses, over valid bytes without an escaped newline.
-/
import Derived.Test.YtnjaeooblfihbaaFmtVc
import Derived.Deep.LoopGhost
import Derived.Handy
namespace Go.Proofs.YtnjaeooblfihbaaFmt
open Go.RowKit

/-- The literal as endLit gives it. -/
def endB (r : Int) (l : List UInt8) : List UInt8 := if r = 1114112 then l else l.take (l.length - 1)
theorem endlit_l {w : World} {B pb rb : Nat} {ea : Addr} {q : Pc} {r : Int} {u l : List UInt8} {k : Nat} (h : LexL w B pb rb ea q r u (some l) k) (hB : 0 < B) (hr : r = 1114112 ∨ (0 < r ∧ r < 128 ∧ 0 < l.length)) :
    Calls Tryf.prog 37 #[.pointer (some ⟨pb, 0, none⟩)] w fun e w' => e = .returned (.string ⟨(endB r l).toArray⟩) ∧ Kr B pb rb w w' ∧ ∃ p, PB w' pb p ∧ p.quote = q.quote ∧ p.rxOpenParens = q.rxOpenParens := by
  obtain ⟨p, o, b, wd, ln, cl, hp, hb0, hpr, _, hlt, ⟨_, _, e3, _⟩, hw1, _, _, _, hll, _⟩ := h.upd hB
  have f1 : p.quote = q.quote := by have := congrArg Pc.quote hb0; exact this
  have f2 : p.rxOpenParens = q.rxOpenParens := by have := congrArg Pc.rxOpenParens hb0; exact this
  have hl9 := hll l rfl
  unfold endB
  rcases hr with hr | ⟨g0, hr, h0⟩
  · refine (endlit_all hp hlt r hpr (.inl hr)).mono ?_
    rintro e w' ⟨rfl, hp', hk'⟩
    exact ⟨by rw [if_pos hr], Kr.of hk' (by simp), _, hp', f1, f2⟩
  · refine (endlit_one hp hlt r hpr (by omega) (by omega) (by rw [e3, hw1 (by omega) (by omega)]) h0 (by omega)).mono ?_
    rintro e w' ⟨rfl, hp', hk'⟩
    exact ⟨by rw [if_neg (by omega)], Kr.of hk' (by simp), _, hp', f1, f2⟩

/-- The count of open parentheses is put anew. -/
theorem LexL.opens {w : World} {B pb rb : Nat} {ea : Addr} {q : Pc} {r : Int} {u : List UInt8} {lit : Option (List UInt8)} {k : Nat} (h : LexL w B pb rb ea q r u lit k) (hB : 0 < B) (v : Value) :
    LexL (w.setCell ⟨pb, 33, none⟩ v) B pb rb ea { q with rxOpenParens := v } r u lit k := by
  obtain ⟨p, _, _, _, _, _, hp, hb, _, _, hl, _, _, b1, _, _, hll, hup⟩ := h.upd hB
  have hk : Kept [pb] w (w.setCell ⟨pb, 33, none⟩ v) := (Kept.refl _ _).setCell (p := ⟨pb, 33, none⟩) (by simp) _
  exact hup _ { q with rxOpenParens := v } { p with rxOpenParens := v } lit (hp.s_rxOpenParens v) (Kb.of hk (by simp)) (by have := congrArg (fun b : Pc => { b with rxOpenParens := v }) hb; exact this) ⟨rfl, rfl, rfl, rfl, rfl, rfl, rfl, rfl, rfl, rfl, rfl, rfl⟩ (hl.kept hk (by simp; exact b1) rfl rfl) hll

theorem LexL.c33 {w : World} {B pb rb : Nat} {ea : Addr} {q : Pc} {r : Int} {u : List UInt8} {lit : Option (List UInt8)} {k : Nat} (h : LexL w B pb rb ea q r u lit k) (hB : 0 < B) : w.cell? ⟨pb, 33, none⟩ = some q.rxOpenParens ∧ ∀ i, w.frozen? ⟨pb, i, none⟩ = false := by
  obtain ⟨p, _, _, _, _, _, hp, hb, _⟩ := h.upd hB
  have e : p.rxOpenParens = q.rxOpenParens := by have := congrArg Pc.rxOpenParens hb; exact this
  exact ⟨by rw [hp.c_rxOpenParens, e], hp.frozen⟩

/-- .. with d open parentheses. -/
def Pc.op (q : Pc) (d : Int) : Pc := { q with rxOpenParens := .int .i64 d }

/-- What rune() has come to, no escaped newline being there. -/
def RdX (w : World) (B pb rb : Nat) (ea : Addr) (q : Pc) (lit : Option (List UInt8)) (u : List UInt8) (a : Int) : Prop :=
  (a = 1114112 ∧ u = [] ∧ ∃ k, k ≤ 10 ∧ LexL w B pb rb ea q 1114112 [] lit k) ∨
  (∃ x t, u = x :: t ∧ a = x.toNat ∧ x.toNat < 128 ∧ x.toNat ≠ 0 ∧ Vd t ∧ LexL w B pb rb ea q x.toNat t (lit.map (· ++ [x])) 0) ∨
  (∃ bs t, ∃ n : Nat, u = bs ++ t ∧ a = n ∧ MB bs n ∧ Vd t ∧ LexL w B pb rb ea q n t (lit.map (· ++ bs)) 0)
theorem RdS.x {w : World} {B pb rb : Nat} {ea : Addr} {q : Pc} {lit : Option (List UInt8)} {u : List UInt8} {a : Int} (h : RdS w B pb rb ea q lit u a) (hb : NoPair 92 10 u) : RdX w B pb rb ea q lit u a := by
  rcases h with ⟨rfl, rfl, k, hk, h⟩ | ⟨x, t, rfl, rfl, h1, h2, hv, h, h96⟩ | ⟨bs, t, m, rfl, rfl, hm, hv, h, hw⟩ | ⟨t, rfl, rfl, hv, h⟩
  · exact .inl ⟨rfl, rfl, k, by omega, h⟩
  · exact .inr (.inl ⟨x, t, rfl, rfl, h1, h2, hv, h⟩)
  · exact .inr (.inr ⟨bs, t, m, rfl, rfl, hm, hv, h⟩)
  · exact absurd rfl (hb 0 rfl)

/-- The head of a round: R is what comes out in the end. -/
def ReI (w0 w : World) (B pb rb : Nat) (ea : Addr) (q : Pc) (s : List UInt8) (R : Int × Nat × Int × Int) (n : Nat) (a : Int) : Prop :=
  Kr B pb rb w0 w ∧ ∃ pre u d, RdX w B pb rb ea (q.op d) (some pre) u a ∧ s = pre ++ u ∧ R = reL false u d pre.length ∧ 0 ≤ d ∧ d ≤ 2000000000 + pre.length ∧ n = u.length

/-- How it ends: the literal, by the time of endLit. -/
def ReE (w0 w : World) (B pb rb : Nat) (qt : Value) (s : List UInt8) (R : Int × Nat × Int × Int) : Prop :=
  Calls Tryf.prog 37 #[.pointer (some ⟨pb, 0, none⟩)] w fun e w' => e = .returned (.string ⟨(s.take R.2.1).toArray⟩) ∧ Hid (Kr B pb rb w0 w' ∧ ∃ p, PB w' pb p ∧ p.quote = qt ∧ p.rxOpenParens = .int .i64 R.2.2.2)

theorem re_fin {w0 w : World} {B pb rb : Nat} {ea : Addr} {q : Pc} {s l : List UInt8} {R : Int × Nat × Int × Int} {d r : Int} {u : List UInt8} {k : Nat} (hkr : Kr B pb rb w0 w) (h : LexL w B pb rb ea (q.op d) r u (some l) k) (hB : 0 < B) (hr : r = 1114112 ∨ (0 < r ∧ r < 128 ∧ 0 < l.length)) (h1 : s.take R.2.1 = endB r l) (h2 : R.2.2.2 = d) : ReE w0 w B pb rb q.quote s R := by
  refine (endlit_l h hB hr).mono ?_
  rintro e w' ⟨rfl, hk', p, hp, f1, f2⟩
  exact ⟨by rw [h1], Lib.hid ⟨hkr.trans hk', p, hp, f1, by rw [h2]; exact f2⟩⟩
/-- .. at a byte that is not taken. -/
theorem re_stop {w0 w : World} {B pb rb : Nat} {ea : Addr} {q : Pc} {s pre u t : List UInt8} {R : Int × Nat × Int × Int} {d : Int} {x : UInt8} (hkr : Kr B pb rb w0 w) (h : LexL w B pb rb ea (q.op d) x.toNat t (some (pre ++ [x])) 0) (hB : 0 < B) (hx : 0 < x.toNat ∧ x.toNat < 128) (hs : s = pre ++ u) (h1 : R.2.1 = pre.length) (h2 : R.2.2.2 = d) : ReE w0 w B pb rb q.quote s R := by
  refine re_fin hkr h hB (.inr ⟨by omega, by omega, by simp⟩) ?_ h2
  unfold endB
  rw [if_neg (by omega), h1, hs]
  simp

/-- What is left of the parser. -/
def RePost (w0 w : World) (B pb rb : Nat) (s : List UInt8) (R : Int × Nat × Int × Int) : Prop :=
  Hid (Kr B pb rb w0 w ∧ ∃ p, PB w pb p ∧ p.tok = .int .u32 R.1 ∧ p.val = .string ⟨(s.take R.2.1).toArray⟩ ∧ p.quote = .int .u32 R.2.2.1 ∧ p.rxOpenParens = .int .i64 R.2.2.2)

theorem re_post {w0 w : World} {B pb rb : Nat} {s : List UInt8} {R : Int × Nat × Int × Int} {p : Pc} {t u : Int} (hkr : Kr B pb rb w0 w) (hp : PB w pb p) (hr : p.rxOpenParens = .int .i64 R.2.2.2) (ht : R.1 = t) (hu : R.2.2.1 = u) : RePost w0 (((w.setCell ⟨pb, 10, none⟩ (.int .u32 t)).setCell ⟨pb, 11, none⟩ (.string ⟨(s.take R.2.1).toArray⟩)).setCell ⟨pb, 17, none⟩ (.int .u32 u)) B pb rb s R :=
  Lib.hid ⟨hkr.trans (Kr.of ((((Kept.refl [pb] _).setCell (p := ⟨pb, 10, none⟩) (by simp) _).setCell (p := ⟨pb, 11, none⟩) (by simp) _).setCell (p := ⟨pb, 17, none⟩) (by simp) _) (by simp)), _, ((hp.s_tok _).s_val _).s_quote _, by rw [ht], rfl, by rw [hu], hr⟩
theorem re_post0 {w0 w : World} {B pb rb : Nat} {s : List UInt8} {R : Int × Nat × Int × Int} {p : Pc} {t : Int} (hkr : Kr B pb rb w0 w) (hp : PB w pb p) (hr : p.rxOpenParens = .int .i64 R.2.2.2) (ht : R.1 = t) (hu : p.quote = .int .u32 R.2.2.1) : RePost w0 ((w.setCell ⟨pb, 10, none⟩ (.int .u32 t)).setCell ⟨pb, 11, none⟩ (.string ⟨(s.take R.2.1).toArray⟩)) B pb rb s R :=
  Lib.hid ⟨hkr.trans (Kr.of (((Kept.refl [pb] _).setCell (p := ⟨pb, 10, none⟩) (by simp) _).setCell (p := ⟨pb, 11, none⟩) (by simp) _) (by simp)), _, (hp.s_tok _).s_val _, by rw [ht], rfl, hu, hr⟩

/-- On to the next rune. -/
theorem re_go {w0 w : World} {B pb rb : Nat} {ea : Addr} {q : Pc} {s pre t : List UInt8} {R : Int × Nat × Int × Int} {d r : Int} (hkr : Kr B pb rb w0 w) (h : LexL w B pb rb ea (q.op d) r t (some pre) 0) (hB : 0 < B) (hr : r ≠ 1114112) (hv : Vd t) (hs : s = pre ++ t) (hc : NoPair 13 10 s) (hb : NoPair 92 10 s) (hR : R = reL false t d pre.length) (d0 : 0 ≤ d) (d1 : d ≤ 2000000000 + pre.length) (n : Nat) (hn : t.length < n) :
    Calls Tryf.prog 22 #[.pointer (some ⟨pb, 0, none⟩)] w fun e w' => ∃ a, e = .returned (.int .i32 a) ∧ ∃ m, m < n ∧ ReI w0 w' B pb rb ea q s R m a := by
  refine (next_l h hB hr hv (by rw [hs] at hc; exact hc.app)).mono ?_
  rintro e w' ⟨a, rfl, h1, h2⟩
  exact ⟨a, rfl, t.length, hn, hkr.trans h2, pre, t, d, h1.x (by rw [hs] at hb; exact hb.app), hs, hR, d0, d1, rfl⟩

/-- .. behind a backslash. -/
theorem re_esc {w0 w : World} {B pb rb : Nat} {ea : Addr} {q : Pc} {s pre t : List UInt8} {R : Int × Nat × Int × Int} {d a : Int} (hkr : Kr B pb rb w0 w) (h : RdS w B pb rb ea (q.op d) (some pre) t a) (hB : 0 < B) (hs : s = pre ++ t) (hc : NoPair 13 10 s) (hb : NoPair 92 10 s) (hR : R = reL true t d pre.length) (d0 : 0 ≤ d) (d1 : d ≤ 2000000000 + pre.length) (n : Nat) (hn : t.length < n) :
    Calls Tryf.prog 22 #[.pointer (some ⟨pb, 0, none⟩)] w fun e w' => ∃ a, e = .returned (.int .i32 a) ∧ ∃ m, m < n ∧ ReI w0 w' B pb rb ea q s R m a := by
  rcases h with ⟨rfl, rfl, k, hk, h⟩ | ⟨x, t, rfl, rfl, h1, h2, hv, h, h96⟩ | ⟨bs, t, m, rfl, rfl, hm, hv, h, hw⟩ | ⟨t, rfl, rfl, hv, h⟩
  · refine (rune_l_eof h (by omega) hB).mono ?_
    rintro e w' ⟨rfl, h1, h2⟩
    exact ⟨_, rfl, 0, by simpa using hn, hkr.trans h2, pre, [], d, .inl ⟨rfl, rfl, k + 1, by omega, h1⟩, hs, by rw [hR]; simp [reL], d0, d1, rfl⟩
  · simp only [List.length_cons] at hn
    exact re_go hkr h hB (by omega) hv (by rw [hs]; simp) hc hb (by rw [hR]; simp [reL]) d0 (by simp; omega) n (by omega)
  · have hl := hm.1
    have hf := (mb_facts hm).2.2.2.2.1
    simp only [List.length_append] at hn
    refine re_go hkr h hB (by omega) hv (by rw [hs]; simp) hc hb ?_ d0 (by simp; omega) n (by omega)
    rw [hR, reL_high_esc (mb_high hm) (fun e => by rw [e] at hl; simp at hl)]
    simp
  · rw [hs] at hb
    exact absurd rfl (hb.app 0 rfl)

set_option maxRecDepth 1000000 in
set_option maxHeartbeats 3200000 in
theorem adv_re {w : World} {B pb rb : Nat} {ea : Addr} {q : Pc} {s : List UInt8} {d a : Int} (h : RdS w B pb rb ea (q.op d) none s a) (hB : 0 < B) (hq : q.quote = .int .u32 16384) (hc : NoPair 13 10 s) (hb : NoPair 92 10 s) (hl : s.length ≤ 100000000) (hd : 0 ≤ d) (hd2 : d ≤ 2000000000) :
    Calls Tryf.prog 25 #[.pointer (some ⟨pb, 0, none⟩), .int .i32 a] w fun e w' => e = .returned (.tuple #[]) ∧ RePost w w' B pb rb s (reL false s d 0) := by
  obtain ⟨R, hR⟩ : ∃ R, R = reL false s d 0 := ⟨_, rfl⟩
  rw [← hR]
  have HN := Lib.hid (newlit_r h hB hl)
  have HR := Lib.hid hR; have HC := Lib.hid hc; have HB := Lib.hid hb; have HQQ := Lib.hid hq; have HL := Lib.hid hl
  clear h hR hc hb hq hl
  go_enter Tryf.func25, Tryf.ntmps25
  go_wp2_with (go_at_call 34; refine HN.out.mono ?_; rintro e w1 ⟨rfl, h1, k1, _⟩; have H1 := Lib.hid h1; have K1 : Hid (Kr B pb rb w w1) := Lib.hid (Kr.of k1 (by simp)); clear h1 k1)
  go_loopg [1] s.length (fun n r wr => ∃ a, r = .int .i32 a ∧ Hid (ReI w wr B pb rb ea q s R n a))
  case atStart => exact ⟨a, rfl, Lib.hid ⟨K1.out, [], s, d, H1.out.x HB.out, rfl, by simpa using HR.out, hd, by simpa using hd2, rfl⟩⟩
  case round =>
    obtain ⟨a, rfl, HI⟩ := hrel
    clear hd hd2 H1 K1 HN HR
    obtain ⟨hkr, pre, u, d, hS, hsu, hRe, hd0, hd1, rfl⟩ := HI.out
    clear HI
    have hlen : s.length = pre.length + u.length := by rw [hsu, List.length_append]
    have hsl := HL.out
    rcases hS with ⟨rfl, rfl, k, hk, hx⟩ | ⟨x, t, rfl, hax, hx1, hx2, hv, hx⟩ | ⟨bs, t, m, rfl, hax, hm, hv, hx⟩
    · have hR2 : R = (4, pre.length, 1, d) := by rw [hRe]; rfl
      have HE : Hid (ReE w wr B pb rb q.quote s R) := Lib.hid (re_fin hkr hx hB (.inl rfl) (by rw [hR2, hsu]; simp [endB]) (by rw [hR2]))
      have HT : Hid (R.1 = 4) := Lib.hid (by rw [hR2])
      have HQ : Hid (R.2.2.1 = 1) := Lib.hid (by rw [hR2])
      clear hkr hx hRe hR2 hsu hlen hsl hd0 hd1
      go_wp2_with (go_at_call 37; refine Calls.mono HE.out ?_; rintro e w3 ⟨rfl, hpost⟩; obtain ⟨hk3, p3, hp3, hq3, hr3⟩ := hpost.out; have c10 := hp3.c_tok; have c11 := hp3.c_val; have c17 := hp3.c_quote; have fz3 : ∀ i, w3.frozen? ⟨pb, i, none⟩ = false := hp3.frozen; have HP3 := Lib.hid hp3; have HQ3 := Lib.hid hq3; have HR3 := Lib.hid hr3; have HK3 := Lib.hid hk3; clear hpost hk3 hp3 hq3 hr3)
      try rw [jumps_ret]
      go_returns
      exact ⟨rfl, re_post HK3.out HP3.out HR3.out HT.out HQ.out⟩
    · have h33 := (hx.c33 hB).1
      have fz := (hx.c33 hB).2
      have c33 : wr.cell? ⟨pb, 33, none⟩ = some (.int .i64 d) := h33
      clear h33
      have hd2 : d ≤ 3000000000 := by omega
      have hs2 : s = (pre ++ [x]) ++ t := by rw [hsu]; simp
      have hl2 : (pre ++ [x]).length = pre.length + 1 := by simp
      by_cases h92 : x = 92
      · subst h92
        obtain rfl : a = 92 := hax
        have hR2 : R = reL true t d (pre ++ [92]).length := by rw [hRe, hl2, reL, if_pos rfl]
        have HR1 := Lib.hid (next_l hx hB (by omega) hv (by have := HC.out; rw [hs2] at this; exact this.app))
        have HR2 := Lib.hid (fun (w1 : World) (a1 : Int) (k1 : Kr B pb rb wr w1) (h1 : RdS w1 B pb rb ea (q.op d) (some (pre ++ [92])) t a1) => re_esc (hkr.trans k1) h1 hB hs2 HC.out HB.out hR2 hd0 (by omega) ((92 : UInt8) :: t).length (by simp))
        clear hkr hx hRe hR2 hsu hs2 hl2 hlen hsl hv hx1 hx2
        go_wp2_with (first
          | (go_at_call 22; refine HR1.out.mono ?_; clear HR1; rintro e w1 ⟨a1, rfl, h1, k1⟩; have H1 := Lib.hid h1; have K1 := Lib.hid k1; clear h1 k1)
          | (go_at_call 22; refine (HR2.out _ _ K1.out H1.out).mono ?_; rintro e w2 ⟨a2, rfl, n2, hn2, hi2⟩; have HI2 := Lib.hid hi2; have HN2 := Lib.hid hn2; clear hi2 hn2))
        go_roundg n2
        case measure => exact HN2.out
        case rel => exact ⟨a2, rfl, HI2⟩
      by_cases h40 : x = 40
      · subst h40
        obtain rfl : a = 40 := hax
        have hR2 : R = reL false t (d + 1) (pre ++ [40]).length := by rw [hRe, hl2, reL, if_neg h92, if_pos rfl]
        have HR1 := Lib.hid (re_go (q := q) (d := d + 1) (hkr.trans (Kr.of ((Kept.refl _ _).setCell (p := ⟨pb, 33, none⟩) (S := [pb]) (by simp) _) (by simp))) (hx.opens hB (.int .i64 (d + 1))) hB (by omega) hv hs2 HC.out HB.out hR2 (by omega) (by rw [hl2]; push_cast; omega) ((40 : UInt8) :: t).length (by simp))
        clear hkr hx hRe hR2 hsu hs2 hl2 hlen hsl hv hx1 hx2 h92
        go_wp2_with (first | (go_at_call 22; refine HR1.out.mono ?_; rintro e w2 ⟨a2, rfl, n2, hn2, hi2⟩; have HI2 := Lib.hid hi2; have HN2 := Lib.hid hn2; clear hi2 hn2))
        go_roundg n2
        case measure => exact HN2.out
        case rel => exact ⟨a2, rfl, HI2⟩
      by_cases h41 : x = 41
      · subst h41
        obtain rfl : a = 41 := hax
        have hR2 : R = if d - 1 < 0 then (4, pre.length, 8192, d - 1) else reL false t (d - 1) (pre ++ [41]).length := by rw [hRe, hl2, reL, if_neg h92, if_neg h40, if_pos rfl]
        by_cases hneg : d - 1 < 0
        · rw [if_pos hneg] at hR2
          have HE := Lib.hid (re_stop (q := q) (d := d - 1) (R := R) (hkr.trans (Kr.of ((Kept.refl _ _).setCell (p := ⟨pb, 33, none⟩) (S := [pb]) (by simp) _) (by simp))) (hx.opens hB (.int .i64 (d - 1))) hB (by decide) hsu (by rw [hR2]) (by rw [hR2]))
          have HT : Hid (R.1 = 4) := Lib.hid (by rw [hR2])
          have HQ : Hid (R.2.2.1 = 8192) := Lib.hid (by rw [hR2])
          clear hkr hx hRe hR2 hsu hs2 hl2 hlen hsl hv hx1 hx2 h92 h40
          go_wp2_with (go_at_call 37; refine Calls.mono HE.out ?_; rintro e w3 ⟨rfl, hpost⟩; obtain ⟨hk3, p3, hp3, hq3, hr3⟩ := hpost.out; have c10 := hp3.c_tok; have c11 := hp3.c_val; have c17 := hp3.c_quote; have fz3 : ∀ i, w3.frozen? ⟨pb, i, none⟩ = false := hp3.frozen; have HP3 := Lib.hid hp3; have HQ3 := Lib.hid hq3; have HR3 := Lib.hid hr3; have HK3 := Lib.hid hk3; clear hpost hk3 hp3 hq3 hr3)
          try rw [jumps_ret]
          go_returns
          exact ⟨rfl, re_post HK3.out HP3.out HR3.out HT.out HQ.out⟩
        · rw [if_neg hneg] at hR2
          have HR1 := Lib.hid (re_go (q := q) (d := d - 1) (hkr.trans (Kr.of ((Kept.refl _ _).setCell (p := ⟨pb, 33, none⟩) (S := [pb]) (by simp) _) (by simp))) (hx.opens hB (.int .i64 (d - 1))) hB (by omega) hv hs2 HC.out HB.out hR2 (by omega) (by rw [hl2]; push_cast; omega) ((41 : UInt8) :: t).length (by simp))
          clear hkr hx hRe hR2 hsu hs2 hl2 hlen hsl hv hx1 hx2 h92 h40
          go_wp2_with (first | (go_at_call 22; refine HR1.out.mono ?_; rintro e w2 ⟨a2, rfl, n2, hn2, hi2⟩; have HI2 := Lib.hid hi2; have HN2 := Lib.hid hn2; clear hi2 hn2))
          go_roundg n2
          case measure => exact HN2.out
          case rel => exact ⟨a2, rfl, HI2⟩
      by_cases hbl : x = 32 ∨ x = 9 ∨ x = 13 ∨ x = 10 ∨ x = 59 ∨ x = 38 ∨ x = 62 ∨ x = 60
      · have hR2 : R = if d ≤ 0 then (4, pre.length, 8192, d) else reL false t d (pre ++ [x]).length := by rw [hRe, hl2, reL, if_neg h92, if_neg h40, if_neg h41, if_pos hbl]
        have ha : a = 32 ∨ a = 9 ∨ a = 13 ∨ a = 10 ∨ a = 59 ∨ a = 38 ∨ a = 62 ∨ a = 60 := by
          rcases hbl with rfl | rfl | rfl | rfl | rfl | rfl | rfl | rfl <;> simp [hax]
        by_cases hneg : d ≤ 0
        · rw [if_pos hneg] at hR2
          have HE := Lib.hid (re_stop (q := q) (d := d) (R := R) hkr hx hB ⟨by omega, hx1⟩ hsu (by rw [hR2]) (by rw [hR2]))
          have HT : Hid (R.1 = 4) := Lib.hid (by rw [hR2])
          have HQ : Hid (R.2.2.1 = 8192) := Lib.hid (by rw [hR2])
          clear hkr hx hRe hR2 hsu hs2 hl2 hlen hsl hv hx1 hx2 hax h92 h40 h41 hbl
          rcases ha with rfl | rfl | rfl | rfl | rfl | rfl | rfl | rfl
          all_goals (
            go_wp2_with (go_at_call 37; refine Calls.mono HE.out ?_; rintro e w3 ⟨rfl, hpost⟩; obtain ⟨hk3, p3, hp3, hq3, hr3⟩ := hpost.out; have c10 := hp3.c_tok; have c11 := hp3.c_val; have c17 := hp3.c_quote; have fz3 : ∀ i, w3.frozen? ⟨pb, i, none⟩ = false := hp3.frozen; have HP3 := Lib.hid hp3; have HQ3 := Lib.hid hq3; have HR3 := Lib.hid hr3; have HK3 := Lib.hid hk3; clear hpost hk3 hp3 hq3 hr3)
            try rw [jumps_ret]
            go_returns
            exact ⟨rfl, re_post HK3.out HP3.out HR3.out HT.out HQ.out⟩)
        · rw [if_neg hneg] at hR2
          have HR1 := Lib.hid (re_go hkr hx hB (by omega) hv hs2 HC.out HB.out hR2 (by omega) (by rw [hl2]; push_cast; omega) (x :: t).length (by simp))
          clear hkr hx hRe hR2 hsu hs2 hl2 hlen hsl hv hx1 hx2 hax h92 h40 h41 hbl
          rcases ha with rfl | rfl | rfl | rfl | rfl | rfl | rfl | rfl
          all_goals (
            go_wp2_with (first | (go_at_call 22; refine HR1.out.mono ?_; rintro e w2 ⟨a2, rfl, n2, hn2, hi2⟩; have HI2 := Lib.hid hi2; have HN2 := Lib.hid hn2; clear hi2 hn2))
            go_roundg n2
            case measure => exact HN2.out
            case rel => exact ⟨a2, rfl, HI2⟩)
      by_cases hqu : x = 34 ∨ x = 39 ∨ x = 36 ∨ x = 96
      · have hR2 : R = (3, pre.length, 16384, d) := by rw [hRe, reL, if_neg h92, if_neg h40, if_neg h41, if_neg hbl, if_pos hqu]
        have ha : a = 34 ∨ a = 39 ∨ a = 36 ∨ a = 96 := by
          rcases hqu with rfl | rfl | rfl | rfl <;> simp [hax]
        have HE := Lib.hid (re_stop (q := q) (d := d) (R := R) hkr hx hB ⟨by omega, hx1⟩ hsu (by rw [hR2]) (by rw [hR2]))
        have HT : Hid (R.1 = 3) := Lib.hid (by rw [hR2])
        have HQ : Hid (R.2.2.1 = 16384) := Lib.hid (by rw [hR2])
        clear hkr hx hRe hR2 hsu hs2 hl2 hlen hsl hv hx1 hx2 hax h92 h40 h41 hbl hqu
        rcases ha with rfl | rfl | rfl | rfl
        all_goals (
          go_wp2_with (go_at_call 37; refine Calls.mono HE.out ?_; rintro e w3 ⟨rfl, hpost⟩; obtain ⟨hk3, p3, hp3, hq3, hr3⟩ := hpost.out; have c10 := hp3.c_tok; have c11 := hp3.c_val; have c17 := hp3.c_quote; have fz3 : ∀ i, w3.frozen? ⟨pb, i, none⟩ = false := hp3.frozen; have HP3 := Lib.hid hp3; have HQ3 := Lib.hid hq3; have HR3 := Lib.hid hr3; have HK3 := Lib.hid hk3; clear hpost hk3 hp3 hq3 hr3)
          try rw [jumps_ret]
          go_returns
          exact ⟨rfl, re_post0 HK3.out HP3.out HR3.out HT.out (by rw [HQ3.out, HQQ.out, HQ.out])⟩)
      have hR2 : R = reL false t d (pre ++ [x]).length := by rw [hRe, hl2, reL, if_neg h92, if_neg h40, if_neg h41, if_neg hbl, if_neg hqu]
      have HR1 := Lib.hid (re_go hkr hx hB (by omega) hv hs2 HC.out HB.out hR2 (by omega) (by rw [hl2]; push_cast; omega) (x :: t).length (by simp))
      have key : ∀ c : UInt8, x ≠ c → (a == (c.toNat : Int)) = false := fun c hne => by
        have : ¬ x.toNat = c.toNat := fun e => hne (UInt8.toNat_inj.1 e)
        simp; omega
      simp only [not_or] at hbl hqu
      have f1 : (a == 92) = false := key 92 h92
      have f2 : (a == 40) = false := key 40 h40
      have f3 : (a == 41) = false := key 41 h41
      have f4 : (a == 32) = false := key 32 hbl.1
      have f5 : (a == 9) = false := key 9 hbl.2.1
      have f6 : (a == 13) = false := key 13 hbl.2.2.1
      have f7 : (a == 10) = false := key 10 hbl.2.2.2.1
      have f8 : (a == 59) = false := key 59 hbl.2.2.2.2.1
      have f9 : (a == 38) = false := key 38 hbl.2.2.2.2.2.1
      have f10 : (a == 62) = false := key 62 hbl.2.2.2.2.2.2.1
      have f11 : (a == 60) = false := key 60 hbl.2.2.2.2.2.2.2
      have f12 : (a == 34) = false := key 34 hqu.1
      have f13 : (a == 39) = false := key 39 hqu.2.1
      have f14 : (a == 36) = false := key 36 hqu.2.2.1
      have f15 : (a == 96) = false := key 96 hqu.2.2.2
      have f16 : (a == 1114112) = false := by simp; omega
      clear hkr hx hRe hR2 hsu hs2 hl2 hlen hsl hv hx1 hx2 hax h92 h40 h41 hbl hqu key
      go_wp2_with (first | (go_at_call 22; refine HR1.out.mono ?_; rintro e w2 ⟨a2, rfl, n2, hn2, hi2⟩; have HI2 := Lib.hid hi2; have HN2 := Lib.hid hn2; clear hi2 hn2))
      go_roundg n2
      case measure => exact HN2.out
      case rel => exact ⟨a2, rfl, HI2⟩
    · have hl2 := hm.1
      have hf := mb_facts hm
      have hf1 := hf.2.2.2.1
      have hf2 := hf.2.2.2.2.1
      have hs2 : s = (pre ++ bs) ++ t := by rw [hsu]; simp
      have hl3 : (pre ++ bs).length = pre.length + bs.length := List.length_append
      have hR2 : R = reL false t d (pre ++ bs).length := by rw [hRe, reL_high (mb_high hm), hl3]
      have HR1 := Lib.hid (re_go hkr hx hB (by omega) hv hs2 HC.out HB.out hR2 (by omega) (by rw [hl3]; push_cast; omega) (bs ++ t).length (by simp; omega))
      have key : ∀ c : Int, c < 128 → (a == c) = false := fun c hne => by simp; omega
      have f1 : (a == 92) = false := key 92 (by decide)
      have f2 : (a == 40) = false := key 40 (by decide)
      have f3 : (a == 41) = false := key 41 (by decide)
      have f4 : (a == 32) = false := key 32 (by decide)
      have f5 : (a == 9) = false := key 9 (by decide)
      have f6 : (a == 13) = false := key 13 (by decide)
      have f7 : (a == 10) = false := key 10 (by decide)
      have f8 : (a == 59) = false := key 59 (by decide)
      have f9 : (a == 38) = false := key 38 (by decide)
      have f10 : (a == 62) = false := key 62 (by decide)
      have f11 : (a == 60) = false := key 60 (by decide)
      have f12 : (a == 34) = false := key 34 (by decide)
      have f13 : (a == 39) = false := key 39 (by decide)
      have f14 : (a == 36) = false := key 36 (by decide)
      have f15 : (a == 96) = false := key 96 (by decide)
      have f16 : (a == 1114112) = false := by simp; omega
      clear hkr hx hRe hR2 hsu hs2 hl2 hl3 hlen hsl hv hax hm hf hf1 hf2 key
      go_wp2_with (first | (go_at_call 22; refine HR1.out.mono ?_; rintro e w2 ⟨a2, rfl, n2, hn2, hi2⟩; have HI2 := Lib.hid hi2; have HN2 := Lib.hid hn2; clear hi2 hn2))
      go_roundg n2
      case measure => exact HN2.out
      case rel => exact ⟨a2, rfl, HI2⟩
end Go.Proofs.YtnjaeooblfihbaaFmt
