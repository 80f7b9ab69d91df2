/-
  quotedHdocWord, in plain terms: where a line's bytes lie in the literal; the stop word's place; what the parser shows.
-/
import Derived.Test.YtnjaeooblfihbaaFmtVc
import Derived.Test.YtnjaeooblfihbaaFmtVd
namespace Go.Proofs.YtnjaeooblfihbaaFmt
open Go.RowKit

theorem Rd.raise {w : World} {B B' rb pb : Nat} {rest : List UInt8} (h : Rd w B rb pb rest) (h1 : B ≤ B') (h2 : B' ≤ w.heap.size) : Rd w B' rb pb rest := by
  obtain ⟨A, n, c, i, pv, l, e1, e2, e3, e4, e5, e6, e7, e8, e9⟩ := h
  refine ⟨A, n, c, i, pv, l, e1, e2, fun hn => ?_, e4, e5, e6, e7, by omega, h2⟩
  obtain ⟨g, o, a1, a2, a3⟩ := e3 hn
  exact ⟨g, o, a1, by omega, a3⟩
theorem LexL.raise {w : World} {B B' pb rb : Nat} {ea : Addr} {q : Pc} {r : Int} {u : List UInt8} {lit : Option (List UInt8)} {k n : Nat} (h : LexL w B pb rb ea q r u lit k) (h1 : B ≤ B') (h2 : B' ≤ w.heap.size) (hc : w.cell? ⟨pb, 2087, none⟩ = some (.slice (some ⟨pb, 1063, none⟩) n 1024)) : LexL w B' pb rb ea q r u lit k := by
  obtain ⟨p, wd, ln, col, hb, e1, e2, e3, e4, e5, w1, w2, w3, l1, l2, c1, c2, b1, b2, b3, hl, hll, hT, hcase⟩ := h
  have hp : PB w pb p := by
    rcases hcase with ⟨_, win, rest, bsp, offs, hm⟩ | ⟨_, _, ha⟩
    · exact hm.lx.hpb
    · exact ha.1
  have hlb := hp.c_litBs
  rw [hc] at hlb
  have hl' : Lt w B' pb p lit := by
    cases lit with
    | none => exact hl
    | some l =>
      rcases hl with h | ⟨g, cap, a1, _, _⟩
      · exact .inl h
      · rw [a1] at hlb; simp at hlb
  refine ⟨p, wd, ln, col, hb, e1, e2, e3, e4, e5, w1, w2, w3, l1, l2, c1, c2, by omega, by omega, h2, hl', hll, fun w' k' => hT w' ?_, ?_⟩
  · obtain ⟨S, kS, hS⟩ := k'
    exact ⟨S, kS, fun x hx => by rcases hS x hx with h | h | h; exact .inl h; exact .inr (.inl h); exact .inr (.inr (by omega))⟩
  · rcases hcase with ⟨hr, win, rest, bsp, offs, hm⟩ | h
    · exact .inl ⟨hr, win, rest, bsp, offs, { hm with lx := { hm.lx with hrd := hm.lx.hrd.raise h1 h2, hlt := by omega } }⟩
    · exact .inr h
theorem RdS.raise {w : World} {B B' pb rb : Nat} {ea : Addr} {q : Pc} {lit : Option (List UInt8)} {u : List UInt8} {a : Int} {n : Nat} (h : RdS w B pb rb ea q lit u a) (h1 : B ≤ B') (h2 : B' ≤ w.heap.size) (hc : w.cell? ⟨pb, 2087, none⟩ = some (.slice (some ⟨pb, 1063, none⟩) n 1024)) : RdS w B' pb rb ea q lit u a := by
  rcases h with ⟨rfl, rfl, k, hk, h⟩ | ⟨x, t, rfl, rfl, g1, g2, hv, h, h96⟩ | ⟨bs, t, n, rfl, rfl, hm, hv, h, hw⟩ | ⟨t, rfl, rfl, hv, h⟩
  · exact .inl ⟨rfl, rfl, k, hk, h.raise h1 h2 hc⟩
  · exact .inr (.inl ⟨x, t, rfl, rfl, g1, g2, hv, h.raise h1 h2 hc, h96⟩)
  · exact .inr (.inr (.inl ⟨bs, t, n, rfl, rfl, hm, hv, h.raise h1 h2 hc, hw⟩))
  · exact .inr (.inr (.inr ⟨t, rfl, rfl, hv, h.raise h1 h2 hc⟩))

/-- The stop word, where the parser finds it. -/
structure HsAt (w : World) (B pb rb hb sb c : Nat) (stop : List UInt8) : Prop where
  row : w.heap[hb]? = some (.cells #[.slice (some ⟨sb, 0, none⟩) stop.length c] 22 (0, 0))
  bytes : ∀ j x, stop[j]? = some x → w.cell? ⟨sb, j, none⟩ = some (By x)
  h1 : hb < B ∧ hb ≠ pb ∧ hb ≠ rb
  h2 : sb < B ∧ sb ≠ pb ∧ sb ≠ rb
  h3 : B ≤ w.heap.size

theorem HsAt.kept {w w' : World} {B pb rb hb sb c : Nat} {stop : List UInt8} (h : HsAt w B pb rb hb sb c stop) (k : Kr B pb rb w w') : HsAt w' B pb rb hb sb c stop := by
  obtain ⟨S, k, hS⟩ := k
  have hn : ∀ x, x < B → x ≠ pb → x ≠ rb → x ∉ S := fun x a b c hm => by rcases hS x hm with h | h | h <;> omega
  have h3 := h.h3
  refine ⟨?_, fun j x hj => ?_, h.h1, h.h2, Nat.le_trans h3 k.size⟩
  · rw [k.block hb (by have := h.h1.1; omega) (hn hb h.h1.1 h.h1.2.1 h.h1.2.2)]
    exact h.row
  · exact (k.cell (p := ⟨sb, j, none⟩) (by have := h.h2.1; show sb < _; omega) (hn sb h.h2.1 h.h2.2.1 h.h2.2.2)).trans (h.bytes j x hj)
theorem HsAt.raise {w : World} {B B' pb rb hb sb c : Nat} {stop : List UInt8} (h : HsAt w B pb rb hb sb c stop) (h1 : B ≤ B') (h2 : B' ≤ w.heap.size) : HsAt w B' pb rb hb sb c stop :=
  ⟨h.row, h.bytes, ⟨by have := h.h1.1; omega, h.h1.2⟩, ⟨by have := h.h2.1; omega, h.h2.2⟩, h2⟩
theorem HsAt.cell {w : World} {B pb rb hb sb c : Nat} {stop : List UInt8} (h : HsAt w B pb rb hb sb c stop) : w.cell? ⟨hb, 0, none⟩ = some (.slice (some ⟨sb, 0, none⟩) stop.length c) := row_cell (L := [.slice (some ⟨sb, 0, none⟩) stop.length c]) h.row 0
theorem HsAt.src {w : World} {B pb rb hb sb c : Nat} {stop : List UInt8} (h : HsAt w B pb rb hb sb c stop) : SrcB w (some ⟨sb, 0, none⟩) stop.length stop :=
  ⟨rfl, fun _ => ⟨sb, 0, rfl, by have := h.h2.1; have := h.h3; omega, fun j x hj => by rw [Nat.zero_add]; exact h.bytes j x hj⟩⟩

/-- What a walk asks of the parser. -/
theorem LexL.facts {w : World} {B pb rb : Nat} {ea : Addr} {q : Pc} {r : Int} {u l : List UInt8} {k : Nat} (h : LexL w B pb rb ea q r u (some l) k) (hB : 0 < B) :
    ∃ p g o cc, PB w pb p ∧ w.cell? ⟨pb, 17, none⟩ = some q.quote ∧ w.cell? ⟨pb, 27, none⟩ = some q.hdocStops ∧ w.cell? ⟨pb, 30, none⟩ = some (.int .i64 0) ∧
      w.cell? ⟨pb, 2087, none⟩ = some (.slice (some ⟨g, o, none⟩) l.length cc) ∧ l.length ≤ cc ∧ (∀ j x, l[j]? = some x → w.cell? ⟨g, o + j, none⟩ = some (By x)) ∧ l.length + u.length ≤ 1000000000 ∧ p.litBs = .slice (some ⟨g, o, none⟩) l.length cc := by
  obtain ⟨p, _, _, _, _, _, hp, hb, hr, hob, hlt, _, _, _, _, _, hll, _⟩ := h.upd hB
  obtain ⟨g, o, cc, h1, h2, h3⟩ := hlt.cells hp
  have e17 : p.quote = q.quote := by have := congrArg Pc.quote hb; exact this
  have e27 : p.hdocStops = q.hdocStops := by have := congrArg Pc.hdocStops hb; exact this
  exact ⟨p, g, o, cc, hp, by rw [hp.c_quote, e17], by rw [hp.c_hdocStops, e27], by rw [hp.c_openBquotes, hob], by rw [hp.c_litBs, h1], h2, fun j x hj => by rw [← h3 j x hj, addr_add], hll l rfl, h1⟩

/-- Where the line's comparison begins in the literal. -/
def Lrel (pre u : List UInt8) (ls : Int) : Prop :=
  (∃ x t, u = x :: t ∧ x.toNat < 128 ∧ ls = pre.length) ∨
  (∃ bs t, ∃ n : Nat, u = bs ++ t ∧ MB bs n ∧ ls = pre.length + bs.length - 1) ∨
  (∃ t, u = 92 :: 10 :: t ∧ ls = (pre.length : Int) - 1)

theorem high_no10 {bs : List UInt8} (h : ∀ x ∈ bs, 128 ≤ x.toNat) : (10 : UInt8) ∉ bs := fun hm => by have := h 10 hm; simp at this

/-- The comparison answers as a comparison of the whole line would; where it is 'yes', it begins where the line begins. -/
theorem line_cmp {s pre u stop : List UInt8} {ls : Int} (hs : s = pre ++ u) (hl : Lrel pre u ls) (hat : LineAt s pre.length) (hst : StOk stop) (h0 : 0 ≤ ls) :
    ls.toNat < (pre ++ lineOf u).length + 1 ∧ decide ((pre ++ lineOf u).drop ls.toNat = stop) = decide (lineOf u = stop) ∧ (lineOf u = stop → ls = pre.length) := by
  obtain ⟨st1, st2, st3⟩ := hst
  rcases hl with ⟨x, t, rfl, hx, rfl⟩ | ⟨bs, t, n, rfl, hm, rfl⟩ | ⟨t, rfl, rfl⟩
  · have e : ((pre.length : Nat) : Int).toNat = pre.length := by omega
    rw [e, List.drop_left]
    exact ⟨by rw [List.length_append]; omega, rfl, fun _ => rfl⟩
  · have hh := mb_high hm
    have hb2 := hm.1
    have e : ((pre.length : Int) + bs.length - 1).toNat = pre.length + (bs.length - 1) := by omega
    have hlo : lineOf (bs ++ t) = bs ++ lineOf t := lineOf_app (high_no10 hh)
    have hn1 : ¬ bs ++ lineOf t = stop := fun e => by
      match bs, hb2, hh with
      | y :: bs', _, hh =>
        have := st1 y (bs' ++ lineOf t) (by rw [← e]; rfl)
        have := hh y (by simp)
        omega
    have hn2 : ¬ (bs ++ lineOf t).drop (bs.length - 1) = stop := fun e => by
      have hlt : bs.length - 1 < bs.length := by omega
      have hd : (bs ++ lineOf t).drop (bs.length - 1) = bs[bs.length - 1] :: lineOf t := by
        rw [List.drop_append_of_le_length (by omega), List.drop_eq_getElem_cons hlt, List.drop_of_length_le (i := bs.length - 1 + 1) (by omega)]
        rfl
      rw [hd] at e
      have h1 := st1 _ _ e.symm
      have h2 := hh _ (List.getElem_mem hlt)
      omega
    rw [e, hlo, List.drop_append, List.drop_of_length_le (by omega), List.nil_append, show pre.length + (bs.length - 1) - pre.length = bs.length - 1 by omega]
    refine ⟨by rw [List.length_append, List.length_append]; omega, by rw [decide_eq_false hn1, decide_eq_false hn2], fun h => absurd h hn1⟩
  · have e : ((pre.length : Int) - 1).toNat = pre.length - 1 := by omega
    have hlo : lineOf (92 :: 10 :: t) = [92] := by simp [lineOf]
    have hp : 0 < pre.length := by omega
    have hlast : pre.drop (pre.length - 1) = [10] := by
      rcases hat with h | ⟨_, h⟩
      · omega
      · have hlt : pre.length - 1 < pre.length := by omega
        rw [hs, List.getElem?_append_left hlt, List.getElem?_eq_getElem hlt] at h
        rw [List.drop_eq_getElem_cons hlt, Option.some.inj h]
        simp
        omega
    rw [e, hlo, List.drop_append, hlast, show pre.length - 1 - pre.length = 0 by omega]
    have hn1 : ¬ ([92] : List UInt8) = stop := fun e => st2 e.symm
    have hn2 : ¬ ([10] ++ [92] : List UInt8) = stop := fun e => st3 e.symm
    refine ⟨by simp; omega, ?_, fun h => absurd h hn1⟩
    rw [decide_eq_false hn1]
    simpa using hn2
theorem line_neg {pre u stop : List UInt8} {ls : Int} (hl : Lrel pre u ls) (hst : StOk stop) (h0 : ls < 0) : lineOf u ≠ stop := by
  rcases hl with ⟨x, t, rfl, hx, rfl⟩ | ⟨bs, t, n, rfl, hm, rfl⟩ | ⟨t, rfl, rfl⟩
  · omega
  · have := hm.1; omega
  · have hlo : lineOf (92 :: 10 :: t) = [92] := by simp [lineOf]
    rw [hlo]
    exact fun e => hst.2.1 e.symm
end Go.Proofs.YtnjaeooblfihbaaFmt
