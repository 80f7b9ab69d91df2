/-
  advanceLitNone: what its rounds keep.
-/
import Derived.Test.YtejlgdiepjiodaaFmtQw
import Derived.Deep.LoopGhost
namespace Go.Proofs.YtejlgdiepjiodaaFmt
open Go.RowKit

def inB (m : Int) : Bool := bits BinOp.and IntKind.i64 2 m == 2
theorem in_any (m : Int) (w : World) : Calls Tryf.prog 44 #[.int .i64 2, .int .i64 m] w fun e w' => e = .returned (.bool (inB m)) ∧ w = w' := in_run 2 m _ rfl w
theorem in9 : inB 9 = false := by decide +kernel
theorem in16 : inB 16 = false := by decide +kernel
theorem in29 : inB 29 = false := by decide +kernel

theorem LexS.s_eql {w : World} {B pb rb : Nat} {ea : Addr} {q : Pc} {r : Int} {u : List UInt8} {lit : Option (List UInt8)} {k : Nat} (h : LexS w B pb rb ea q r u lit k) (hB : 0 < B) (v : Value) : LexS (w.setCell ⟨pb, 18, none⟩ v) B pb rb ea { q with eqlOffs := v } r u lit k := by
  obtain ⟨p, wd, ln, col, hb, h1, h2, h3, h4, h5, w1, w2, w3, l1, l2, c1, c2, b1, b2, b3, hl, hll, hcase⟩ := h
  have hp : PB w pb p := by
    rcases hcase with ⟨_, win, rest, bsp, offs, hm⟩ | ⟨_, _, ha⟩
    · exact hm.lx.hpb
    · exact ha.1
  have hp' := hp.s_eqlOffs v
  have hk' : Kept [pb] w (w.setCell ⟨pb, 18, none⟩ v) := (Kept.refl _ _).setCell (by simp) _
  refine ⟨{ p with eqlOffs := v }, wd, ln, col, congrArg (fun z : Pc => { z with eqlOffs := v }) hb, h1, h2, h3, h4, h5, w1, w2, w3, l1, l2, c1, c2, b1, b2, Nat.le_trans b3 hk'.size, hl.kept hk' (by simp; exact b1) rfl rfl, hll, ?_⟩
  rcases hcase with ⟨hr, win, rest, bsp, offs, hm⟩ | ⟨hr, hu, ha⟩
  · refine .inl ⟨hr, win, rest, bsp, offs, ?_⟩
    have := hm.step (Kb.of hk' (by simp)) hB hp' 0 (by have := hm.hb; omega) rfl rfl rfl (by simpa using hm.lx.hbsp) rfl rfl rfl
    simpa using this
  · obtain ⟨_, e1, e2, A, n, c, m, b, e3, e4, e5, e6, e7⟩ := ha
    exact .inr ⟨hr, hu, hp', e1, e2, A, n, c, m, b, e3, e4, e5, e6, e7⟩

theorem LexS.c_eql {w : World} {B pb rb : Nat} {ea : Addr} {q : Pc} {r : Int} {u : List UInt8} {lit : Option (List UInt8)} {k : Nat} (h : LexS w B pb rb ea q r u lit k) (hB : 0 < B) : w.cell? ⟨pb, 18, none⟩ = some q.eqlOffs := by
  obtain ⟨p, _, _, _, _, _, hp, hb, _⟩ := h.mark hB
  have e18 : p.eqlOffs = q.eqlOffs := by have := congrArg Pc.eqlOffs hb; exact this
  rw [hp.c_eqlOffs, e18]

def qe (q : Pc) (e : Int) : Pc := { q with eqlOffs := .int .i64 e }

/-- The head of a round. -/
def NoI (w0 w : World) (B pb rb : Nat) (ea : Addr) (q : Pc) (F : Int × List UInt8 × Int × Int) (n : Nat) (a : Int) : Prop :=
  Kr B pb rb w0 w ∧ ∃ e L u, NoS w B pb rb ea (qe q e) (some L) u a ∧ F = noF L e u ∧ n = u.length ∧ noOk u ∧ (L = [] → ∀ x t, u = x :: t → ¬ (x = 62 ∨ x = 60)) ∧ (∀ y ∈ L, y.toNat < 128) ∧ -1 ≤ e ∧ e ≤ 1000000000 ∧ L.length + u.length ≤ 200000000

def NoE (w0 w : World) (B pb rb : Nat) (F : Int × List UInt8 × Int × Int) : Prop :=
  Calls Tryf.prog 43 #[.pointer (some ⟨pb, 0, none⟩)] w fun e w' => e = .returned (.string ⟨F.2.1.toArray⟩) ∧ Hid (Kr B pb rb w0 w' ∧ ∃ p, PB w' pb p ∧ p.r = .int .i32 F.2.2.2 ∧ p.eqlOffs = .int .i64 F.2.2.1)

theorem no_fin {w0 w : World} {B pb rb : Nat} {ea : Addr} {q : Pc} {F : Int × List UInt8 × Int × Int} {r t e : Int} {u L : List UInt8} {y : UInt8} {k : Nat} (hkr : Kr B pb rb w0 w) (h : LexS w B pb rb ea (qe q e) r u (some (L ++ [y])) k) (hB : 0 < B) (hr : 0 < r ∧ r < 128) (hF : F = (t, L, e, r)) : NoE w0 w B pb rb F := by
  have hE0 : endOf r (L ++ [y]) = L := endOf_snoc _ _ (by omega) (by omega)
  refine (endlit_s h hB (.inr ⟨hr.1, hr.2, by simp⟩)).mono ?_
  rintro e2 w' ⟨rfl, hl', hk'⟩
  obtain ⟨p, hp, hr', _⟩ := hl'.relit hB
  have c18 := hl'.c_eql hB
  rw [hp.c_eqlOffs] at c18
  exact ⟨by rw [hE0, hF], Lib.hid ⟨hkr.trans (Kr.of hk' (by simp)), p, hp, by rw [hF]; exact hr', by rw [hF]; exact Option.some.inj c18⟩⟩

/-- What is left of the parser: token, value, rune, the place of '='. -/
def NoPost (w0 w : World) (B pb rb : Nat) (F : Int × List UInt8 × Int × Int) : Prop :=
  Hid (Kr B pb rb w0 w ∧ ∃ p, PB w pb p ∧ p.tok = .int .u32 F.1 ∧ p.val = .string ⟨F.2.1.toArray⟩ ∧ p.eqlOffs = .int .i64 F.2.2.1 ∧ p.r = .int .i32 F.2.2.2)

theorem no_post {w0 w : World} {B pb rb : Nat} {F : Int × List UInt8 × Int × Int} {p : Pc} {t : Int} (hkr : Kr B pb rb w0 w) (hp : PB w pb p) (hr : p.r = .int .i32 F.2.2.2) (he : p.eqlOffs = .int .i64 F.2.2.1) (ht : F.1 = t) : NoPost w0 ((w.setCell ⟨pb, 10, none⟩ (.int .u32 t)).setCell ⟨pb, 11, none⟩ (.string ⟨F.2.1.toArray⟩)) B pb rb F :=
  Lib.hid ⟨hkr.trans (Kr.of (((Kept.refl [pb] _).setCell (p := ⟨pb, 10, none⟩) (by simp) _).setCell (p := ⟨pb, 11, none⟩) (by simp) _) (by simp)), _, (hp.s_tok _).s_val _, by rw [ht], rfl, he, hr⟩

theorem no_go {w0 w : World} {B pb rb : Nat} {ea : Addr} {q : Pc} {F : Int × List UInt8 × Int × Int} {r e : Int} {t L : List UInt8} (hkr : Kr B pb rb w0 w) (h : LexS w B pb rb ea (qe q e) r t (some L) 0) (hB : 0 < B) (hr : r ≠ 1114112) (hF : F = noF L e t) (hok : noOk t) (hL : L ≠ []) (hu : ∀ y ∈ L, y.toNat < 128) (e1 : -1 ≤ e) (e2 : e ≤ 1000000000) (hl : L.length + t.length ≤ 200000000) :
    Calls Tryf.prog 28 #[.pointer (some ⟨pb, 0, none⟩)] w fun e w' => ∃ a, e = .returned (.int .i32 a) ∧ ∃ n, n < t.length + 1 ∧ NoI w0 w' B pb rb ea q F n a := by
  refine (no_next h hB hr hok).mono ?_
  rintro e3 w' ⟨a, rfl, h1, h2⟩
  exact ⟨a, rfl, t.length, by omega, hkr.trans h2, e, L, t, h1, hF, rfl, hok, fun e => absurd e hL, hu, e1, e2, hl⟩

theorem litredir_s {w : World} {B pb rb : Nat} {ea : Addr} {q : Pc} {r : Int} {u L : List UInt8} {y : UInt8} {k : Nat} (h : LexS w B pb rb ea q r u (some (L ++ [y])) k) (hB : 0 < B) (hq : q.lang = .int .i64 2) (hL : L ≠ []) (hu : ∀ y ∈ L, y.toNat < 128) (hl : L.length ≤ 200000000) (b : Bool) (hb : litR L = b) :
    Calls Tryf.prog 45 #[.pointer (some ⟨pb, 0, none⟩)] w fun e w' => e = .returned (.bool b) ∧ Kept [] w w' := by
  obtain ⟨p3, g, o, cc, hp3, _, _, _, f20, _, _, _, f2087, fcc, fcell, _⟩ := h.facts hB
  rw [hq] at f20
  cases L with
  | nil => exact absurd rfl hL
  | cons a0 L =>
    have e1 : (a0 :: L ++ [y]).length = L.length + 2 := by simp
    rw [e1] at f2087 fcc
    exact litredir (m := L.length) (a0 := a0) (L := a0 :: L) f2087 fcc f20 (fun j z hj => fcell j z (by rw [List.getElem?_append_left (List.getElem?_eq_some_iff.1 hj).1]; exact hj)) rfl rfl (by simp at hl; omega) hu b hb.symm
end Go.Proofs.YtejlgdiepjiodaaFmt
