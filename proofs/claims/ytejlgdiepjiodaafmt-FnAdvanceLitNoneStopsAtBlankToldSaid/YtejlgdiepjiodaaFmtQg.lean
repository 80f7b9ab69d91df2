/-
  advanceLitHdoc, in plain terms, and rune by rune.
-/
import Derived.Test.YtejlgdiepjiodaaFmtQf
namespace Go.Proofs.YtejlgdiepjiodaaFmt
open Go.RowKit

def plB (y : UInt8) : Prop := y.toNat < 128 ∧ y.toNat ≠ 0 ∧ y.toNat ≠ 13 ∧ y.toNat ≠ 92

/-- The body read so far: whole lines 'done', of the current line 'line'. Token, value, rune, whether the stop word was found. -/
def hdF (stop : List UInt8) : List UInt8 → List UInt8 → List UInt8 → Int × List UInt8 × Int × Bool
  | done, line, [] => if line = stop then (if done = [] then 2 else 4, done, 1114112, true) else (3, [], 1114112, false)
  | done, line, x :: u =>
    if x = 36 ∨ x = 96 then (3, done ++ line, x.toNat, false)
    else if x = 10 then (if line = stop then (if done = [] then 2 else 4, done, 10, true) else hdF stop (done ++ line ++ [10]) [] u)
    else hdF stop done (line ++ [x]) u

/-- The bytes that are read are plain. -/
def hdOk (stop : List UInt8) : List UInt8 → List UInt8 → Prop
  | _, [] => True
  | line, x :: u => plB x ∧ (if x = 36 ∨ x = 96 then True else if x = 10 then (if line = stop then True else hdOk stop [] u) else hdOk stop (line ++ [x]) u)

theorem hdOk_plain {stop : List UInt8} {u : List UInt8} (h : ∀ y ∈ u, plB y) (line : List UInt8) : hdOk stop line u := by
  induction u generalizing line with
  | nil => trivial
  | cons x u ih =>
    have h2 := ih (fun y hy => h y (by simp [hy]))
    refine ⟨h x (by simp), ?_⟩
    split
    · trivial
    · split
      · split
        · trivial
        · exact h2 _
      · exact h2 _

/-- What rune() has come to. -/
def HdS (w : World) (B pb rb : Nat) (ea : Addr) (q : Pc) (lit : Option (List UInt8)) (u : List UInt8) (a : Int) : Prop :=
  (a = 1114112 ∧ u = [] ∧ LexS w B pb rb ea q 1114112 [] lit 1) ∨
  ∃ x t, u = x :: t ∧ a = x.toNat ∧ plB x ∧ LexS w B pb rb ea q x.toNat t (lit.map (· ++ [x])) 0 ∧ (x = 96 → w.cell? ⟨pb, 32, none⟩ = some (.int .i64 0))

theorem hd_next {w : World} {B pb rb : Nat} {ea : Addr} {q : Pc} {r : Int} {u : List UInt8} {lit : Option (List UInt8)} (h : LexS w B pb rb ea q r u lit 0) (hB : 0 < B) (hr : r ≠ 1114112) (hu : ∀ x t, u = x :: t → plB x) :
    Calls Tryf.prog 28 #[.pointer (some ⟨pb, 0, none⟩)] w fun e w' => ∃ a, e = .returned (.int .i32 a) ∧ HdS w' B pb rb ea q lit u a ∧ Kr B pb rb w w' := by
  cases u with
  | nil =>
    refine (rune_s_eof h (by omega) hB).mono ?_
    rintro e w' ⟨rfl, h1, h2⟩
    exact ⟨_, rfl, .inl ⟨rfl, rfl, h1⟩, h2⟩
  | cons x t =>
    have hx := hu x t rfl
    by_cases h96 : x = 96
    · subst h96
      refine (rune_s96 h (by omega) hB hr).mono ?_
      rintro e w' ⟨rfl, h1, h2, h3⟩
      exact ⟨_, rfl, .inr ⟨96, t, rfl, rfl, hx, h1, fun _ => h3⟩, h2⟩
    · refine (rune_s h (by omega) hB hr (.plain x t hx.1 hx.2.1 hx.2.2.1 hx.2.2.2)).mono ?_
      rintro e w' ⟨rfl, h1, h2⟩
      exact ⟨_, rfl, .inr ⟨x, t, rfl, rfl, hx, h1, fun e => absurd e h96⟩, h2⟩

/-- The world behind 'p.pos = p.nextPos()' and 'p.tok = _Lit'. -/
theorem hd_mark {w w1 W : World} {B pb rb : Nat} {ea : Addr} {q : Pc} {u : List UInt8} {a : Int} {x y : Value} (h : HdS w B pb rb ea q none u a) (hB : 0 < B) (k1 : Kept [] w w1) (hW : W = ((w1.setCell ⟨pb, 15, none⟩ x).setCell ⟨pb, 16, none⟩ y).setCell ⟨pb, 10, none⟩ (.int .u32 3)) :
    HdS W B pb rb ea { q with tok := .int .u32 3, pos1 := x, pos2 := y } none u a ∧ Kept [pb] w W := by
  have kW : Kept [pb] w W := by
    rw [hW]
    exact (((k1.weaken (S' := [pb]) (by simp)).setCell (p := ⟨pb, 15, none⟩) (by simp) x).setCell (p := ⟨pb, 16, none⟩) (by simp) y).setCell (p := ⟨pb, 10, none⟩) (by simp) (.int .u32 3)
  refine ⟨?_, kW⟩
  have key : ∀ {r : Int} {t : List UInt8} {lit : Option (List UInt8)} {k : Nat}, LexS w B pb rb ea q r t lit k → LexS W B pb rb ea { q with tok := .int .u32 3, pos1 := x, pos2 := y } r t lit k ∧ W.cell? ⟨pb, 32, none⟩ = w.cell? ⟨pb, 32, none⟩ := by
    intro r t lit k hl
    obtain ⟨p, _, _, _, _, _, hp, hb, _, _, _, hm⟩ := hl.mark hB
    have hv : p.val = q.val := by have := congrArg Pc.val hb; exact this
    have hpW : PB W pb { p with tok := .int .u32 3, val := q.val, pos1 := x, pos2 := y } := by
      rw [hW, ← hv]
      exact (((hp.kept k1 (by simp)).s_pos1 x).s_pos2 y).s_tok (.int .u32 3)
    exact ⟨hm W _ _ _ _ hpW kW, by rw [hpW.c_lastBquoteEsc, hp.c_lastBquoteEsc]⟩
  rcases h with ⟨h1, h2, h⟩ | ⟨x, t, h1, h2, h3, h, h5⟩
  · exact .inl ⟨h1, h2, (key h).1⟩
  · exact .inr ⟨x, t, h1, h2, h3, (key h).1, fun e => (key h).2.trans (h5 e)⟩

theorem hd_newlit {w : World} {B pb rb : Nat} {ea : Addr} {q : Pc} {u : List UInt8} {a : Int} (h : HdS w B pb rb ea q none u a) (hB : 0 < B) (hl : u.length ≤ 100000000) :
    Calls Tryf.prog 42 #[.pointer (some ⟨pb, 0, none⟩), .int .i32 a] w fun e w' => e = .returned (.tuple #[]) ∧ HdS w' B pb rb ea q (some []) u a ∧ Kept [pb] w w' := by
  rcases h with ⟨rfl, rfl, h⟩ | ⟨x, t, rfl, rfl, hx, h, h5⟩
  · refine (newlit_s_eof h hB (.inl rfl) (by simp)).mono ?_
    rintro e w' ⟨rfl, h1, h2⟩
    exact ⟨rfl, .inl ⟨rfl, rfl, h1⟩, h2⟩
  · obtain ⟨p, hp, hr, hl0, hb, hw, b1, b2, b3, hll, hup⟩ := h.relit hB
    refine (newlit_byte hp x hx.1).mono ?_
    rintro e w' ⟨rfl, hp', hk'⟩
    refine ⟨rfl, .inr ⟨x, t, rfl, rfl, hx, hup w' _ _ (some [x]) hp' hk' (.inl ⟨rfl, by simp, rfl⟩) (fun l hl2 => by simp at hl2 hl; subst hl2; simp; omega), fun e => ?_⟩, hk'⟩
    rw [hp'.c_lastBquoteEsc, ← h5 e, hp.c_lastBquoteEsc]

/-- The stop word, where the parser finds it. -/
structure HsAt (w : World) (B pb rb hb sb c : Nat) (stop : List UInt8) : Prop where
  row : w.heap[hb]? = some (.cells #[.slice (some ⟨sb, 0, none⟩) stop.length c] 42 (0, 0))
  bytes : ∀ j x, stop[j]? = some x → w.cell? ⟨sb, j, none⟩ = some (By x)
  h1 : hb < B ∧ hb ≠ pb ∧ hb ≠ rb
  h2 : sb < B ∧ sb ≠ pb ∧ sb ≠ rb
  h3 : B ≤ w.heap.size

theorem HsAt.kept {w w' : World} {B pb rb hb sb c : Nat} {stop : List UInt8} (h : HsAt w B pb rb hb sb c stop) (k : Kr B pb rb w w') : HsAt w' B pb rb hb sb c stop := by
  obtain ⟨S, k, hS⟩ := k
  have hn : ∀ x, x < B → x ≠ pb → x ≠ rb → x ∉ S := fun x a b c hm => by rcases hS x hm with h | h | h <;> omega
  have h3 := h.h3
  refine ⟨?_, fun j x hj => ?_, h.h1, h.h2, Nat.le_trans h3 k.size⟩
  · rw [k.block hb (by have := h.h1.1; omega) (hn hb h.h1.1 h.h1.2.1 h.h1.2.2)]
    exact h.row
  · exact (k.cell (p := ⟨sb, j, none⟩) (by have := h.h2.1; show sb < _; omega) (hn sb h.h2.1 h.h2.2.1 h.h2.2.2)).trans (h.bytes j x hj)
theorem HsAt.cell {w : World} {B pb rb hb sb c : Nat} {stop : List UInt8} (h : HsAt w B pb rb hb sb c stop) : w.cell? ⟨hb, 0, none⟩ = some (.slice (some ⟨sb, 0, none⟩) stop.length c) := row_cell (L := [.slice (some ⟨sb, 0, none⟩) stop.length c]) h.row 0
theorem HsAt.src {w : World} {B pb rb hb sb c : Nat} {stop : List UInt8} (h : HsAt w B pb rb hb sb c stop) : SrcB w (some ⟨sb, 0, none⟩) stop.length stop :=
  ⟨rfl, fun _ => ⟨sb, 0, rfl, by have := h.h2.1; have := h.h3; omega, fun j x hj => by rw [Nat.zero_add]; exact h.bytes j x hj⟩⟩
end Go.Proofs.YtejlgdiepjiodaaFmt
