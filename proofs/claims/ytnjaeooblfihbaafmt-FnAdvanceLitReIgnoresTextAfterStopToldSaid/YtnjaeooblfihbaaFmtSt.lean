/-
  The lexer rune by rune: the current rune, the bytes behind it, the literal that is being gathered; what rune() does to them.
-/
import Derived.Test.YtnjaeooblfihbaaFmtRx
namespace Go.Proofs.YtnjaeooblfihbaaFmt
open Go.RowKit

/-- The fields that no rune turns. -/
def Pc.base (p : Pc) : Pc := { p.core with r := i0 .i32, w := i0 .i64, line := i0 .i64, col := i0 .i64 }
theorem base_of_core {p q : Pc} {a b ln col : Int} (h : p.core = (q.ran a b ln col).core) : p.base = q.base := by
  unfold Pc.base
  rw [h]
  rfl
theorem base_of_side {p q : Pc} {a b ln col : Int} (h : p.side = (q.ran a b ln col).side) : p.base = q.base := base_of_core (core_of_side h)

/-- The current rune is r, u is what is unread behind it, lit the literal so far; the other fields are q's; k: so often was the end met. -/
def LexS (w : World) (B pb rb : Nat) (ea : Addr) (q : Pc) (r : Int) (u : List UInt8) (lit : Option (List UInt8)) (k : Nat) : Prop :=
  ∃ (p : Pc) (wd ln col : Int), p.base = q.base ∧ p.r = .int .i32 r ∧ p.w = .int .i64 wd ∧ p.line = .int .i64 ln ∧ p.col = .int .i64 col ∧ p.openBquotes = .int .i64 0 ∧
    0 ≤ wd ∧ wd ≤ 2 ∧ (0 < r → r < 128 → wd = 1) ∧ 0 ≤ ln ∧ ln + u.length ≤ 10000000000 + k ∧ 0 ≤ col ∧ col + 4 * u.length ≤ 10000000000 + 4 * k ∧ pb < B ∧ rb < B ∧ B ≤ w.heap.size ∧
    Lt w B pb p lit ∧ (∀ l ∈ lit, l.length + u.length ≤ 1000000000) ∧
    ((r ≠ 1114112 ∧ ∃ win rest bsp offs, Md w B pb rb ea p win rest bsp offs u) ∨ (r = 1114112 ∧ u = [] ∧ AtEof w pb p))

theorem nx_len {r a b : Int} {u c d : List UInt8} {dc : Nat} (h : Nx r u a b c d dc) : d.length + dc + 1 ≤ u.length ∧ 0 ≤ b ∧ b ≤ 2 ∧ c.length ≤ 1 ∧ a ≠ 1114112 ∧ (a < 128 → b = 1) := by
  induction h with
  | plain x u h1 => simp; omega
  | cr u => simp
  | same u => simp
  | other u => simp
  | nl u => simp
  | crnl u => simp
  | nul u c d a b dc _ ih => simp; omega
  | crlf u c d a b dc _ ih => simp at ih ⊢; omega

theorem rune_s {w : World} {B pb rb : Nat} {ea : Addr} {q : Pc} {r a b : Int} {u c d : List UInt8} {dc : Nat} {lit : Option (List UInt8)} {k : Nat} (h : LexS w B pb rb ea q r u lit k) (hk : k ≤ 1000000) (hB : 0 < B) (hr : r ≠ 1114112) (hn : Nx r u a b c d dc) :
    Calls Tryf.prog 22 #[.pointer (some ⟨pb, 0, none⟩)] w fun e w' => e = .returned (.int .i32 a) ∧ LexS w' B pb rb ea q a d (lit.map (· ++ c)) k ∧ Kr B pb rb w w' := by
  obtain ⟨p, wd, ln, col, hb, h1, h2, h3, h4, h5, w1, w2, w3, l1, l2, c1, c2, b1, b2, b3, hl, hll, ⟨_, win, rest, bsp, offs, hm⟩ | ⟨he, _⟩⟩ := h
  · obtain ⟨n1, n2, n3, n4, n5, n6⟩ := nx_len hn
    refine (rune_nx hm hB r wd ln col h1 hr h2 w1 (by omega) h4 c1 (by omega) h3 l1 (by omega) lit hl (fun l hl => by have := hll l hl; omega) h5 hn (by omega)).mono ?_
    rintro e w' ⟨rfl, p', win', rest', bsp', offs', hm', hc', hl', hk'⟩
    have hln : lnOf r ln ≤ ln + 1 ∧ 0 ≤ lnOf r ln := by unfold lnOf; split <;> omega
    have hcl : colOf r col wd ≤ col + wd ∧ 0 ≤ colOf r col wd := by unfold colOf; split <;> omega
    refine ⟨rfl, ⟨p', b, lnOf r ln, colOf r col wd + dc, (base_of_core hc').trans hb, congrArg Pc.r hc', congrArg Pc.w hc', congrArg Pc.line hc', congrArg Pc.col hc', (congrArg Pc.openBquotes hc').trans h5, n2, n3, fun _ h => n6 h, hln.2, by omega, by omega, by omega, b1, b2, hm'.lx.hrd.lt.2, hl', ?_, .inl ⟨n5, win', rest', bsp', offs', hm'⟩⟩, hk'⟩
    intro l hl
    cases lit with
    | none => cases hl
    | some l0 =>
      have := hll l0 rfl
      simp only [Option.map_some, Option.mem_def, Option.some.injEq] at hl
      rw [← hl, List.length_append]
      omega
  · exact absurd he hr
/-- rune() behind the last byte. -/
theorem rune_s_eof {w : World} {B pb rb : Nat} {ea : Addr} {q : Pc} {r : Int} {lit : Option (List UInt8)} {k : Nat} (h : LexS w B pb rb ea q r [] lit k) (hk : k ≤ 1000000) (hB : 0 < B) :
    Calls Tryf.prog 22 #[.pointer (some ⟨pb, 0, none⟩)] w fun e w' => e = .returned (.int .i32 1114112) ∧ LexS w' B pb rb ea q 1114112 [] lit (k + 1) ∧ Kr B pb rb w w' := by
  obtain ⟨p, wd, ln, col, hb, h1, h2, h3, h4, h5, w1, w2, w3, l1, l2, c1, c2, b1, b2, b3, hl, hll, ⟨hr, win, rest, bsp, offs, hm⟩ | ⟨he, _, ha⟩⟩ := h
  · refine (rune_eof hm hB r wd ln col h1 hr h2 w1 (by omega) h4 c1 (by omega) h3 l1 (by omega) lit hl rfl).mono ?_
    rintro e w' ⟨rfl, p', ha', hs', hl', hk'⟩
    have hln : lnOf r ln ≤ ln + 1 ∧ 0 ≤ lnOf r ln := by unfold lnOf; split <;> omega
    have hcl : colOf r col wd ≤ col + wd ∧ 0 ≤ colOf r col wd := by unfold colOf; split <;> omega
    have hh : ∃ S, Kept S w w' ∧ ∀ x ∈ S, x = pb ∨ x = rb ∨ B ≤ x := hk'
    obtain ⟨S, hS, _⟩ := hh
    refine ⟨rfl, ⟨p', 1, lnOf r ln, colOf r col wd, (base_of_side hs').trans hb, ha'.2.1, ha'.2.2.1, congrArg Pc.line hs', congrArg Pc.col hs', (congrArg Pc.openBquotes hs').trans h5, by omega, by omega, fun _ h => by omega, hln.2, ?_, hcl.2, ?_, b1, b2, Nat.le_trans b3 hS.size, hl', hll, .inr ⟨rfl, rfl, ha'⟩⟩, hk'⟩
    · simp at l2 ⊢; omega
    · simp at c2 ⊢; omega
  · subst he
    simp at l2 c2
    refine (rune_again rb ha b1 ln col h4 c1 (by omega) h3 lit hl).mono ?_
    rintro e w' ⟨rfl, p', ha', hs', hl', hk'⟩
    have hh : ∃ S, Kept S w w' ∧ ∀ x ∈ S, x = pb ∨ x = rb ∨ B ≤ x := hk'
    obtain ⟨S, hS, _⟩ := hh
    refine ⟨rfl, ⟨p', 1, ln, col + 1, (base_of_side hs').trans hb, ha'.2.1, ha'.2.2.1, congrArg Pc.line hs', congrArg Pc.col hs', (congrArg Pc.openBquotes hs').trans h5, by omega, by omega, fun _ h => by omega, l1, ?_, by omega, ?_, b1, b2, Nat.le_trans b3 hS.size, hl', hll, .inr ⟨rfl, rfl, ha'⟩⟩, hk'⟩
    · simp; omega
    · simp; omega
end Go.Proofs.YtnjaeooblfihbaaFmt
