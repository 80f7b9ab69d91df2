/-
  advanceLitDquote on ASCII bytes: its literal, its token, the rune on which it rests.
-/
import Derived.Test.YtejlgdiepjiodaaFmtQa
import Derived.Deep.LoopGhost
namespace Go.Proofs.YtejlgdiepjiodaaFmt
open Go.RowKit

/-- The head of a round: F is what comes out in the end. -/
def DqI (w0 w : World) (B pb rb : Nat) (ea : Addr) (q : Pc) (F : List UInt8 × Int × Int) (n : Nat) (a : Int) : Prop :=
  Kr B pb rb w0 w ∧ ∃ L b u, DqS 2 w B pb rb ea q (some L) b u a ∧ F = (L ++ (dqL b u).1, (dqL b u).2) ∧ n = u.length ∧ (∀ y ∈ u, alphaB y)

/-- How it ends: the literal and the rune, by the time of endLit. -/
def DqE (w0 w : World) (B pb rb : Nat) (F : List UInt8 × Int × Int) : Prop :=
  Calls Tryf.prog 43 #[.pointer (some ⟨pb, 0, none⟩)] w fun e w' => e = .returned (.string ⟨F.1.toArray⟩) ∧ Hid (Kr B pb rb w0 w' ∧ ∃ p, PB w' pb p ∧ p.r = .int .i32 F.2.2)

theorem dq_fin {w0 w : World} {B pb rb : Nat} {ea : Addr} {q : Pc} {F : List UInt8 × Int × Int} {r : Int} {u l : List UInt8} {k : Nat} (hkr : Kr B pb rb w0 w) (h : LexS w B pb rb ea q r u (some l) k) (hB : 0 < B) (hr : (r = 1114112 ∨ r = 1114113) ∨ (0 < r ∧ r < 128 ∧ 0 < l.length)) (h1 : F.1 = endOf r l) (h2 : F.2.2 = r) : DqE w0 w B pb rb F := by
  refine (endlit_s h hB hr).mono ?_
  rintro e w' ⟨rfl, hl', hk'⟩
  obtain ⟨p, hp, hr', _⟩ := hl'.relit hB
  exact ⟨by rw [h1], Lib.hid ⟨hkr.trans (Kr.of hk' (by simp)), p, hp, by rw [h2]; exact hr'⟩⟩

/-- What is left of the parser: its token, its value, its rune. -/
def DqPost (w0 w : World) (B pb rb : Nat) (F : List UInt8 × Int × Int) : Prop :=
  Hid (Kr B pb rb w0 w ∧ ∃ p, PB w pb p ∧ p.tok = .int .u32 F.2.1 ∧ p.val = .string ⟨F.1.toArray⟩ ∧ p.r = .int .i32 F.2.2)

theorem dq_post {w0 w : World} {B pb rb : Nat} {F : List UInt8 × Int × Int} {p : Pc} {t : Int} (hkr : Kr B pb rb w0 w) (hp : PB w pb p) (hr : p.r = .int .i32 F.2.2) (ht : F.2.1 = t) : DqPost w0 ((w.setCell ⟨pb, 10, none⟩ (.int .u32 t)).setCell ⟨pb, 11, none⟩ (.string ⟨F.1.toArray⟩)) B pb rb F :=
  Lib.hid ⟨hkr.trans (Kr.of (((Kept.refl [pb] _).setCell (p := ⟨pb, 10, none⟩) (by simp) _).setCell (p := ⟨pb, 11, none⟩) (by simp) _) (by simp)), _, (hp.s_tok _).s_val _, by rw [ht], rfl, hr⟩

theorem dq_esc {w0 w : World} {B pb rb : Nat} {ea : Addr} {q : Pc} {F : List UInt8 × Int × Int} {L t : List UInt8} {b : Bool} {a : Int} (hkr : Kr B pb rb w0 w) (h : DqS 1 w B pb rb ea q (some (L ++ [92])) true t a) (hB : 0 < B) (hF : F = (L ++ (dqL b (92 :: t)).1, (dqL b (92 :: t)).2)) (hc : ¬ (b = false ∧ t.head? = some 10)) (hu : ∀ y ∈ t, alphaB y) :
    Calls Tryf.prog 28 #[.pointer (some ⟨pb, 0, none⟩)] w fun e w' => ∃ a, e = .returned (.int .i32 a) ∧ ∃ n, n < t.length + 1 ∧ DqI w0 w' B pb rb ea q F n a := by
  rcases h with ⟨rfl, rfl, k, hk, h⟩ | ⟨rfl, t, rfl, hb, h⟩ | ⟨c, t2, rfl, rfl, _, h⟩
  · skip
    refine (rune_s_eof h (by omega) hB).mono ?_
    rintro e w' ⟨rfl, h1, h2⟩
    refine ⟨_, rfl, 0, by simp, hkr.trans h2, L ++ [92], true, [], .inl ⟨rfl, rfl, k + 1, by omega, h1⟩, ?_, rfl, by simp⟩
    rw [hF]; simp [dqL]
  · cases hb
  · have hcc := hu c (by simp)
    refine (dq_next h hB (by have := hcc.1; omega) (fun y hy => hu y (by simp [hy]))).mono ?_
    rintro e w' ⟨a, rfl, h1, h2⟩
    have e1 : decide ((c.toNat : Int) = 92) = (c == 92) := by
      by_cases hc9 : c = 92
      · rw [hc9]; rfl
      · have : ¬ (c.toNat : Int) = 92 := fun e => hc9 (UInt8.toNat_inj.1 (by show c.toNat = 92; omega))
        simp [this, hc9]
    rw [e1] at h1
    refine ⟨a, rfl, t2.length, by simp; omega, hkr.trans h2, _, _, _, h1.up, ?_, rfl, fun y hy => hu y (by simp [hy])⟩
    have h5 : ¬ (b = false ∧ c = 10) := fun h => hc ⟨h.1, by simp [h.2]⟩
    rw [hF, dqL_92 h5]; simp

theorem dq_other {w0 w : World} {B pb rb : Nat} {ea : Addr} {q : Pc} {F : List UInt8 × Int × Int} {L t : List UInt8} {b : Bool} {x : UInt8} (hkr : Kr B pb rb w0 w) (h : LexS w B pb rb ea q x.toNat t (some (L ++ [x])) 0) (hB : 0 < B) (hF : F = (L ++ (dqL b (x :: t)).1, (dqL b (x :: t)).2)) (h34 : x ≠ 34) (h96 : x ≠ 96) (h36 : x ≠ 36) (h92 : x ≠ 92) (hu : ∀ y ∈ x :: t, alphaB y) :
    Calls Tryf.prog 28 #[.pointer (some ⟨pb, 0, none⟩)] w fun e w' => ∃ a, e = .returned (.int .i32 a) ∧ ∃ n, n < t.length + 1 ∧ DqI w0 w' B pb rb ea q F n a := by
  have hxx := hu x (by simp)
  refine (dq_next h hB (by have := hxx.1; omega) (fun y hy => hu y (by simp [hy]))).mono ?_
  rintro e w' ⟨a, rfl, h1, h2⟩
  have e1 : decide ((x.toNat : Int) = 92) = false := by
    simp only [decide_eq_false_iff_not]; intro e; exact h92 (UInt8.toNat_inj.1 (by show x.toNat = 92; omega))
  rw [e1] at h1
  refine ⟨a, rfl, t.length, by omega, hkr.trans h2, _, _, _, h1.up, ?_, rfl, fun y hy => hu y (by simp [hy])⟩
  rw [hF, dqL_other h34 h96 h36 h92]; simp

set_option maxRecDepth 1000000 in
set_option maxHeartbeats 1600000 in
theorem adv_dq {w : World} {B pb rb : Nat} {ea : Addr} {q : Pc} {b : Bool} {u : List UInt8} {a : Int} (h : DqS 1 w B pb rb ea q none b u a) (hB : 0 < B) (hu : ∀ y ∈ u, alphaB y) (hl : u.length ≤ 100000000) :
    Calls Tryf.prog 31 #[.pointer (some ⟨pb, 0, none⟩), .int .i32 a] w fun e w' => e = .returned (.tuple #[]) ∧ DqPost w w' B pb rb (dqL b u) := by
  obtain ⟨F, hF⟩ : ∃ F, F = dqL b u := ⟨_, rfl⟩
  rw [← hF]
  have HN := Lib.hid (dq_newlit h hB hu hl)
  have HU := Lib.hid hu; have HF := Lib.hid hF
  clear h hu hF
  go_enter Tryf.func31, Tryf.ntmps31
  go_wp2_with fail
  go_step3
  go_wp2_with fail
  go_step3
  go_wp2_with (go_at_call 42; refine HN.out.mono ?_; rintro e w1 ⟨rfl, hpost⟩; have HP := Lib.hid hpost; clear hpost)
  go_loopg [1, 4] u.length (fun n r t wr => ∃ a, r = .int .i32 a ∧ t = .int .u32 4 ∧ Hid (DqI w wr B pb rb ea q F n a))
  case atStart => exact ⟨a, rfl, rfl, Lib.hid ⟨HP.out.2, [], b, u, HP.out.1.up, by simpa using HF.out, rfl, HU.out⟩⟩
  case round =>
    obtain ⟨a, rfl, rfl, HI⟩ := hrel
    obtain ⟨hkr, L, b, u, hS, hFe, rfl, hu⟩ := HI.out
    rcases hS with ⟨rfl, rfl, k, hk, hx⟩ | ⟨rfl, t, rfl, rfl, hx⟩ | ⟨x, t, rfl, hax, hc, hx⟩
    · have HE : Hid (DqE w wr B pb rb F) := Lib.hid (dq_fin hkr hx hB (.inl (.inl rfl)) (by rw [hFe, dqL_nil]; simp [endOf]) (by rw [hFe, dqL_nil]))
      have HT : Hid (F.2.1 = 4) := Lib.hid (by rw [hFe, dqL_nil])
      clear hkr hx hFe hu HI
      go_wp2_with (go_at_call 43; refine Calls.mono HE.out ?_; rintro e w3 ⟨rfl, hpost⟩; obtain ⟨hk3, p3, hp3, hr3⟩ := hpost.out; have c10 := hp3.c_tok; have c11 := hp3.c_val; have fz : ∀ i, w3.frozen? ⟨pb, i, none⟩ = false := hp3.frozen; have HP3 := Lib.hid hp3; have HR3 := Lib.hid hr3; have HK3 := Lib.hid hk3; clear hpost hk3 hp3 hr3)
      try rw [Exit.noGoto_normal]
      go_end0
      exact ⟨rfl, dq_post HK3.out HP3.out HR3.out HT.out⟩
    · have HE : Hid (DqE w wr B pb rb F) := Lib.hid (dq_fin hkr hx hB (.inl (.inr rfl)) (by rw [hFe, dqL_nl]; simp [endOf]) (by rw [hFe, dqL_nl]))
      have HT : Hid (F.2.1 = 3) := Lib.hid (by rw [hFe, dqL_nl])
      clear hkr hx hFe hu HI
      go_wp2_with (go_at_call 43; refine Calls.mono HE.out ?_; rintro e w3 ⟨rfl, hpost⟩; obtain ⟨hk3, p3, hp3, hr3⟩ := hpost.out; have c10 := hp3.c_tok; have c11 := hp3.c_val; have fz : ∀ i, w3.frozen? ⟨pb, i, none⟩ = false := hp3.frozen; have HP3 := Lib.hid hp3; have HR3 := Lib.hid hr3; have HK3 := Lib.hid hk3; clear hpost hk3 hp3 hr3)
      try rw [Exit.noGoto_normal]
      go_end0
      exact ⟨rfl, dq_post HK3.out HP3.out HR3.out HT.out⟩
    by_cases h34 : a = 34
    · subst h34
      have hx34 : x = 34 := UInt8.toNat_inj.1 (by show x.toNat = 34; omega)
      have HE : Hid (DqE w wr B pb rb F) := Lib.hid (dq_fin hkr hx hB (.inr ⟨by omega, by omega, by simp⟩) (by rw [hFe, hx34, dqL_34]; simp [endOf]) (by rw [hFe, hx34, dqL_34]; rfl))
      have HT : Hid (F.2.1 = 4) := Lib.hid (by rw [hFe, hx34, dqL_34])
      clear hkr hx hFe hu HI hc hax hx34
      go_wp2_with (go_at_call 43; refine Calls.mono HE.out ?_; rintro e w3 ⟨rfl, hpost⟩; obtain ⟨hk3, p3, hp3, hr3⟩ := hpost.out; have c10 := hp3.c_tok; have c11 := hp3.c_val; have fz : ∀ i, w3.frozen? ⟨pb, i, none⟩ = false := hp3.frozen; have HP3 := Lib.hid hp3; have HR3 := Lib.hid hr3; have HK3 := Lib.hid hk3; clear hpost hk3 hp3 hr3)
      try rw [Exit.noGoto_normal]
      go_end0
      exact ⟨rfl, dq_post HK3.out HP3.out HR3.out HT.out⟩
    by_cases h96 : a = 96
    · subst h96
      have hx96 : x = 96 := UInt8.toNat_inj.1 (by show x.toNat = 96; omega)
      have HE : Hid (DqE w wr B pb rb F) := Lib.hid (dq_fin hkr hx hB (.inr ⟨by omega, by omega, by simp⟩) (by rw [hFe, hx96, dqL_96]; simp [endOf]) (by rw [hFe, hx96, dqL_96]; rfl))
      have HT : Hid (F.2.1 = 3) := Lib.hid (by rw [hFe, hx96, dqL_96])
      clear hkr hx hFe hu HI hc hax hx96
      go_wp2_with (go_at_call 43; refine Calls.mono HE.out ?_; rintro e w3 ⟨rfl, hpost⟩; obtain ⟨hk3, p3, hp3, hr3⟩ := hpost.out; have c10 := hp3.c_tok; have c11 := hp3.c_val; have fz : ∀ i, w3.frozen? ⟨pb, i, none⟩ = false := hp3.frozen; have HP3 := Lib.hid hp3; have HR3 := Lib.hid hr3; have HK3 := Lib.hid hk3; clear hpost hk3 hp3 hr3)
      try rw [Exit.noGoto_normal]
      go_end0
      exact ⟨rfl, dq_post HK3.out HP3.out HR3.out HT.out⟩
    by_cases h36 : a = 36
    · subst h36
      have hx36 : x = 36 := UInt8.toNat_inj.1 (by show x.toNat = 36; omega)
      have HE : Hid (DqE w wr B pb rb F) := Lib.hid (dq_fin hkr hx hB (.inr ⟨by omega, by omega, by simp⟩) (by rw [hFe, hx36, dqL_36]; simp [endOf]) (by rw [hFe, hx36, dqL_36]; rfl))
      have HT : Hid (F.2.1 = 3) := Lib.hid (by rw [hFe, hx36, dqL_36])
      clear hkr hx hFe hu HI hc hax hx36
      go_wp2_with (go_at_call 43; refine Calls.mono HE.out ?_; rintro e w3 ⟨rfl, hpost⟩; obtain ⟨hk3, p3, hp3, hr3⟩ := hpost.out; have c10 := hp3.c_tok; have c11 := hp3.c_val; have fz : ∀ i, w3.frozen? ⟨pb, i, none⟩ = false := hp3.frozen; have HP3 := Lib.hid hp3; have HR3 := Lib.hid hr3; have HK3 := Lib.hid hk3; clear hpost hk3 hp3 hr3)
      try rw [Exit.noGoto_normal]
      go_end0
      exact ⟨rfl, dq_post HK3.out HP3.out HR3.out HT.out⟩
    by_cases h92 : a = 92
    · subst h92
      have hx92 : x = 92 := UInt8.toNat_inj.1 (by show x.toNat = 92; omega)
      subst hx92
      have HR1 := Lib.hid (dq_next hx hB (by decide) (fun y hy => hu y (by simp [hy])))
      have HR2 := Lib.hid (fun (w1 : World) (a1 : Int) (k1 : Kr B pb rb wr w1) (h1 : DqS 1 w1 B pb rb ea q (some (L ++ [92])) true t a1) => dq_esc (hkr.trans k1) h1 hB hFe (fun h => hc ⟨rfl, h⟩) (fun y hy => hu y (by simp [hy])))
      clear hkr hx hFe hu HI hc hax h34 h96 h36
      go_wp2_with (first
        | (go_at_call 28; refine HR1.out.mono ?_; clear HR1; rintro e w1 ⟨a1, rfl, h1, k1⟩; have H1 := Lib.hid h1; have K1 := Lib.hid k1; clear h1 k1)
        | (go_at_call 28; refine (HR2.out _ _ K1.out H1.out).mono ?_; rintro e w2 ⟨a2, rfl, n2, hn2, hi2⟩; have HI2 := Lib.hid hi2; have HN2 := Lib.hid hn2; clear hi2 hn2))
      go_roundg n2
      case measure => exact HN2.out
      case rel => exact ⟨a2, rfl, rfl, HI2⟩
    have hxa := hu x (by simp)
    have HR := Lib.hid (dq_other hkr hx hB hFe (fun e => h34 (by rw [hax, e]; rfl)) (fun e => h96 (by rw [hax, e]; rfl)) (fun e => h36 (by rw [hax, e]; rfl)) (fun e => h92 (by rw [hax, e]; rfl)) hu)
    have g1 : (a == 34) = false := by simpa using h34
    have g2 : (a == 96) = false := by simpa using h96
    have g3 : (a == 36) = false := by simpa using h36
    have g4 : (a == 92) = false := by simpa using h92
    have g5 : (a == 1114112) = false := by have := hxa.1; simp; omega
    have g6 : (a != 1114112) = true := by have := hxa.1; simp; omega
    have g7 : (a == 1114113) = false := by have := hxa.1; simp; omega
    clear hkr hx hFe hu HI hc hax h34 h96 h36 h92 hxa
    go_wp2_with (go_at_call 28; refine HR.out.mono ?_; rintro e w2 ⟨a2, rfl, n2, hn2, hi2⟩; have HI2 := Lib.hid hi2; have HN2 := Lib.hid hn2; clear hi2 hn2)
    go_roundg n2
    case measure => exact HN2.out
    case rel => exact ⟨a2, rfl, rfl, HI2⟩
end Go.Proofs.YtejlgdiepjiodaaFmt
