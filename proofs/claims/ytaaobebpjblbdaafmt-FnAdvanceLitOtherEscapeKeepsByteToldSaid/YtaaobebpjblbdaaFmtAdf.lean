/-
  advanceLitOther: the literal up to the first byte at which its switch stops.
-/
import Derived.Test.YtaaobebpjblbdaaFmtAdl
namespace Go.Proofs.YtaaobebpjblbdaaFmt
open Go.RowKit

/-- Where a literal ended: the rune and the token. -/
def endR (rest : List UInt8) : Int := match rest with
  | [] => 1114112
  | x :: _ => x.toNat
def endT (rest : List UInt8) : Int := match rest with
  | [] => 4
  | x :: _ => if isQ x.toNat = true then 3 else 4

theorem AdvEnd.is {w0 w : World} {B pb rb : Nat} {ea : Addr} {q : Pc} {full rest : List UInt8} {r tk : Int} (h : AdvEnd w0 w B pb rb ea q full rest r tk) : r = endR rest ∧ tk = endT rest := by
  rcases h.2 with ⟨rfl, rfl, rfl, _⟩ | ⟨x, u, k, rfl, _, rfl, rfl, _⟩
  · exact ⟨rfl, rfl⟩
  · exact ⟨rfl, rfl⟩

/-- What is left of the parser: its token, its value, its rune. -/
def AdvPost (w0 w : World) (B pb rb : Nat) (full rest : List UInt8) : Prop :=
  Hid (Kr B pb rb w0 w ∧ ∃ p, PB w pb p ∧ p.tok = .int .u32 (endT rest) ∧ p.val = .string ⟨full.toArray⟩ ∧ p.r = .int .i32 (endR rest))

theorem adv_endlit {w0 w : World} {B pb rb : Nat} {ea : Addr} {q : Pc} {full rest : List UInt8} {r tk : Int} (h : AdvEnd w0 w B pb rb ea q full rest r tk) (hB : 0 < B) :
    Calls Tryf.prog 35 #[.pointer (some ⟨pb, 0, none⟩)] w fun e w' => e = .returned (.string ⟨full.toArray⟩) ∧ Hid (Kr B pb rb w0 w' ∧ ∃ p, PB w' pb p ∧ p.r = .int .i32 r) := by
  have fin : ∀ {w' : World} {r' : Int} {u : List UInt8} {k : Nat}, LexS w' B pb rb ea q r' u none k → ∃ p, PB w' pb p ∧ p.r = .int .i32 r' := fun h => by
    obtain ⟨p, hp, hr, _⟩ := h.relit hB
    exact ⟨p, hp, hr⟩
  obtain ⟨hk, h⟩ := h
  rcases h with ⟨_, rfl, _, k, hl, _⟩ | ⟨x, u, k, _, hx, rfl, _, hl, _⟩
  · refine (endlit_s hl hB (.inl (.inl rfl))).mono ?_
    rintro e w' ⟨rfl, hl', hk'⟩
    exact ⟨rfl, Lib.hid ⟨hk.trans (Kr.of hk' (by simp)), fin hl'⟩⟩
  · have h1 := hx.1
    have h2 := hx.2.1
    refine (endlit_s hl hB (.inr ⟨by omega, by omega, by simp⟩)).mono ?_
    rintro e w' ⟨rfl, hl', hk'⟩
    refine ⟨?_, Lib.hid ⟨hk.trans (Kr.of hk' (by simp)), fin hl'⟩⟩
    unfold endOf
    rw [if_neg (by omega)]
    simp

set_option maxRecDepth 1000000 in
set_option maxHeartbeats 1600000 in
theorem adv_other {w : World} {B pb rb : Nat} {ea : Addr} {q : Pc} {x : UInt8} {u : List UInt8} {lit : Option (List UInt8)} {k : Nat} {qv lv : Int} {b1 b2 b3 b4 nz kz : Bool} (h : LexS w B pb rb ea q x.toNat u lit k) (hk : k < 1000000) (hB : 0 < B) (ha : Asks qv lv b1 b2 b3 b4 nz kz) (hqv : q.quote = .int .u32 qv) (hlv : q.lang = .int .i64 lv) (hx : plainB x) (hu : ∀ y ∈ u, plainB y) (hul : u.length ≤ 100000000) :
    Calls Tryf.prog 24 #[.pointer (some ⟨pb, 0, none⟩), .int .i32 x.toNat] w fun e w' => e = .returned (.tuple #[]) ∧ AdvPost w w' B pb rb ((x :: u).takeWhile (goesO b1 b2 b3 b4 nz kz)) ((x :: u).dropWhile (goesO b1 b2 b3 b4 nz kz)) := by
  have HN := Lib.hid (newlit_s h hB hx.1 hul)
  have HX := Lib.hid hx; have HU := Lib.hid hu; have HQV := Lib.hid hqv; have HLV := Lib.hid hlv; have HA := Lib.hid ha
  obtain ⟨full, hfull⟩ : ∃ full, full = (x :: u).takeWhile (goesO b1 b2 b3 b4 nz kz) := ⟨_, rfl⟩
  obtain ⟨rest, hrest⟩ : ∃ rest, rest = (x :: u).dropWhile (goesO b1 b2 b3 b4 nz kz) := ⟨_, rfl⟩
  rw [← hfull, ← hrest]
  have HF := Lib.hid hfull; have HRE := Lib.hid hrest
  clear h hx hu hqv hlv ha hfull hrest
  go_enter Tryf.func24, Tryf.ntmps24
  go_wp2_with fail
  go_step3
  go_wp2_with fail
  go_step3
  go_wp2_with (go_at_call 33; refine HN.out.mono ?_; rintro e w1 ⟨rfl, hpost⟩; have HP := Lib.hid hpost; clear hpost)
  refine adv_loop (w0 := w) (ea := ea) (rb := rb) (pb := pb) HA.out hB HQV.out HLV.out full rest ?_ (u.length + 1) _ _ ?_
  · intro u2 u3 u5 u6 u7 u8 u9 u10 u11 u12 u13 u14 u15 u16 u17 u18 u19 u20 u21 u22 u23 u24 u25 u26 u27 u28 u29 u30 u31 u32 u33 u34 u35 u36 u37 u38 u39 u40 u41 u42 u43 u44 u45 u46 u47 u48 u49 u50 u51 u52 u53 u54 u55 u56 u57 u58 u59 u60 u61 u62 u63 u64 u65 u66 u67 u68 u69 u70 u71 u72 u73 u74 u75 u76 u77 u78 u79 u80 u81 u82 u83 u84 u85 u86 u87 u88 u89 u90 u91 u92 u93 u94 u95 u96 u97 u98 u99 u100 u101 u102 u103 u104 u105 u106 u107 u108 u109 u110 u111 u112 u113 w2 r tk hae
    obtain ⟨rfl, rfl⟩ := hae.is
    have HE := Lib.hid (adv_endlit hae hB)
    clear hae
    go_wp2_with (go_at_call 35; refine HE.out.mono ?_; rintro e w3 ⟨rfl, hpost⟩; obtain ⟨hk3, p3, hp3, hr3⟩ := hpost.out; have c10 := hp3.c_tok; have c11 := hp3.c_val; have fz : ∀ i, w3.frozen? ⟨pb, i, none⟩ = false := hp3.frozen; have HP3 := Lib.hid hp3; have HR3 := Lib.hid hr3; have HK3 := Lib.hid hk3; clear hpost hk3 hp3 hr3)
    try rw [Exit.noGoto_normal]
    go_end0
    refine ⟨rfl, Lib.hid ⟨HK3.out.trans (Kr.of (((Kept.refl [pb] _).setCell (p := ⟨pb, 10, none⟩) (by simp) _).setCell (p := ⟨pb, 11, none⟩) (by simp) _) (by simp)), _, (HP3.out.s_tok _).s_val _, rfl, rfl, HR3.out⟩⟩
  · have hfull := HF.out
    have hrest := HRE.out
    subst hfull hrest
    exact advI_start (Kr.of HP.out.2 (by simp)) HX.out HU.out HP.out.1 hk _ _ _ _ _ _ _ _ _ _ _ _ _ _ _ _ _ _ _ _ _ _ _ _ _ _ _ _ _ _ _ _ _ _ _ _ _ _ _ _ _ _ _ _ _ _ _ _ _ _ _ _ _ _ _ _ _ _ _ _ _ _ _ _ _ _ _ _ _ _ _ _ _ _ _ _ _ _ _ _ _ _ _ _ _ _ _ _ _ _ _ _ _ _ _ _ _ _ _ _ _ _ _ _ _ _ _ _ _ _ _
end Go.Proofs.YtaaobebpjblbdaaFmt
