/-
  The lexer for a token function: the current rune with the column, the bytes behind it; what rune() gives of whatever bytes.
-/
import Derived.Test.YtolgahamfkaipaaFmtTe
import Derived.Test.YtolgahamfkaipaaFmtSt
namespace Go.Proofs.YtolgahamfkaipaaFmt
open Go.RowKit Go.Stop Go.Extern

/-- The first m bytes bear no NUL, no CR, no backslash. -/
def Cl (u : List UInt8) (m : Nat) : Prop := ∀ i x, i < m → u[i]? = some x → x.toNat ≠ 0 ∧ x.toNat ≠ 13 ∧ x.toNat ≠ 92
theorem Cl.tail {x : UInt8} {u : List UInt8} {m : Nat} (h : Cl (x :: u) (m + 1)) : Cl u m := fun i y hi hy => h (i + 1) y (by omega) hy
theorem Cl.less {u : List UInt8} {m n : Nat} (h : Cl u m) (hn : n ≤ m) : Cl u n := fun i y hi hy => h i y (by omega) hy

/-- What can be read of a parser behind a rune: the rune, the column; the language, the quote state. -/
def Fin (w : World) (pb : Nat) (r c lv : Int) : Prop := ∃ p, PB w pb p ∧ p.r = .int .i32 r ∧ p.col = .int .i64 c ∧ p.lang = .int .i64 lv ∧ p.quote = .int .u32 1
/-- The lexer before a rune of ASCII: r the rune, wd its width, c the column; u what is unread, its first m bytes clean. -/
def LexC (w : World) (B pb rb fb : Nat) (ea : Addr) (F : Interp) (lv r : Int) (u : List UInt8) (wd c : Int) (m : Nat) : Prop :=
  ∃ (p : Pc) (ln : Int), p.r = .int .i32 r ∧ p.w = .int .i64 wd ∧ p.line = .int .i64 ln ∧ p.col = .int .i64 c ∧ p.openBquotes = .int .i64 0 ∧ p.lang = .int .i64 lv ∧ p.quote = .int .u32 1 ∧
    0 ≤ wd ∧ wd ≤ 1 ∧ 0 ≤ ln ∧ ln ≤ 100 ∧ 0 ≤ c ∧ c + m ≤ 100 ∧ pb < B ∧ rb < B ∧ fb < B ∧ B ≤ w.heap.size ∧ Lt w B pb p none ∧ (∀ w', Kr B pb rb w w' → Tabs w') ∧ Er w pb rb fb F p ∧
    (∃ win rest bsp offs, Md w B pb rb ea p win rest bsp offs u) ∧ Cl u m

theorem LexC.fin {w : World} {B pb rb fb : Nat} {ea : Addr} {F : Interp} {lv r : Int} {u : List UInt8} {wd c : Int} {m : Nat} (h : LexC w B pb rb fb ea F lv r u wd c m) : Fin w pb r c lv := by
  obtain ⟨p, ln, h1, h2, h3, h4, h5, h6, h7, _, _, _, _, _, _, _, _, _, _, _, _, _, ⟨_, _, _, _, hm⟩, _⟩ := h
  exact ⟨p, hm.lx.hpb, h1, h4, h6, h7⟩
theorem LexC.low {w : World} {B pb rb fb : Nat} {ea : Addr} {F : Interp} {lv r : Int} {u : List UInt8} {wd c : Int} {m : Nat} (h : LexC w B pb rb fb ea F lv r u wd c m) : pb < B ∧ rb < B ∧ fb < B ∧ B ≤ w.heap.size := by
  obtain ⟨p, ln, _, _, _, _, _, _, _, _, _, _, _, _, _, h1, h2, h3, h4, _⟩ := h
  exact ⟨h1, h2, h3, h4⟩

theorem er_core {w w' : World} {B pb rb fb : Nat} {F : Interp} {p q : Pc} {a b ln col : Int} (h : Er w pb rb fb F p) (k : Kr B pb rb w w') (hfb : fb < B) (hc : q.core = (p.ran a b ln col).core) (hb : 0 ≤ b) (hb2 : b ≤ 8) (hl : 0 ≤ ln) (hl2 : ln ≤ 1000) (hc1 : 0 ≤ col) (hc2 : col ≤ 1000) : Er w' pb rb fb F q := by
  obtain ⟨S, kS, hS⟩ := k
  have e := h.kept (q := p) kS (fun hx => by rcases hS _ hx with e | e | e; exact h.n1 e; exact h.n2 e; omega) rfl
  exact ⟨(congrArg Pc.err hc).trans e.herr, (congrArg Pc.tok hc).trans e.htok, (congrArg Pc.f hc).trans e.hf, e.n1, e.n2, e.cf, e.hF, ⟨b, (by have q := congrArg Pc.w hc; exact q), hb, hb2⟩, ⟨ln, (by have q := congrArg Pc.line hc; exact q), hl, by omega⟩, ⟨col, (by have q := congrArg Pc.col hc; exact q), hc1, by omega⟩⟩

/-- rune(). -/
theorem rune_c {w : World} {B pb rb fb : Nat} {ea : Addr} {F : Interp} {lv r : Int} {u : List UInt8} {wd c : Int} {m : Nat} (h : LexC w B pb rb fb ea F lv r u wd c (m + 1)) (hB : 0 < B) (hr1 : r < 128) (hr2 : r ≠ 10) :
    Calls Tryf.prog 29 #[.pointer (some ⟨pb, 0, none⟩)] w fun e w' => e = .returned (.int .i32 (nxt u)) ∧ Fin w' pb (nxt u) (c + wd) lv ∧ (nxt u < 128 → LexC w' B pb rb fb ea F lv (nxt u) u.tail 1 (c + wd) m) ∧ Kr B pb rb w w' := by
  obtain ⟨p, ln, h1, h2, h3, h4, h5, h6, h7, w1, w2, l1, l2, c1, c2, b1, b2, b3, b4, hlt, hT, he, ⟨win, rest, bsp, offs, hm⟩, hcl⟩ := h
  have hln : lnOf r ln = ln := if_neg (by omega)
  have hco : colOf r c wd = c + wd := if_neg (by omega)
  rcases nxt_cases u with ⟨hu, hn⟩ | ⟨x, d, hu, hx, hn⟩ | ⟨hu, hn⟩ | ⟨bs, d, a, hu, hmb, hn, ha1, ha2⟩
  · rw [hn]
    refine (rune_eof hm hB r wd ln c h1 (by omega) h2 w1 (by omega) h4 c1 (by omega) h3 l1 (by omega) none hlt hu).mono ?_
    rintro e w' ⟨rfl, p', ha, hs, hl', hk⟩
    rw [hln, hco] at hs
    exact ⟨rfl, ⟨p', ha.1, (by have q := congrArg Pc.r hs; exact q), (by have q := congrArg Pc.col hs; exact q), (congrArg Pc.lang hs).trans h6, (congrArg Pc.quote hs).trans h7⟩, fun h => by omega, hk⟩
  · obtain ⟨z1, z2, z3⟩ := hcl 0 x (by omega) (by rw [hu]; rfl)
    subst hu
    rw [hn]
    refine (rune_nx hm hB r wd ln c h1 (by omega) h2 w1 (by omega) h4 c1 (by omega) h3 l1 (by omega) none hlt (fun l hl => by cases hl) h5 (.plain x d hx z1 z2 z3) (by omega)).mono ?_
    rintro e w' ⟨rfl, p', win', rest', bsp', offs', hm', hc', hl', hk⟩
    rw [hln, hco] at hc'
    try simp only [Int.natCast_zero, Int.add_zero] at hc'
    have he' := er_core he hk b3 hc' (by omega) (by omega) l1 (by omega) (by omega) (by omega)
    have f1 : p'.r = .int .i32 x.toNat := (by have q := congrArg Pc.r hc'; exact q)
    have f2 : p'.col = .int .i64 (c + wd) := (by have q := congrArg Pc.col hc'; exact q)
    have f3 : p'.lang = .int .i64 lv := (congrArg Pc.lang hc').trans h6
    have f4 : p'.quote = .int .u32 1 := (congrArg Pc.quote hc').trans h7
    exact ⟨rfl, ⟨p', hm'.lx.hpb, f1, f2, f3, f4⟩, fun _ => ⟨p', ln, f1, (by have q := congrArg Pc.w hc'; exact q), (by have q := congrArg Pc.line hc'; exact q), f2, (congrArg Pc.openBquotes hc').trans h5, f3, f4, by omega, by omega, l1, l2, by omega, by omega, b1, b2, b3, hm'.lx.hrd.lt.2, hl', fun w2 k2 => hT w2 (hk.trans k2), he', ⟨win', rest', bsp', offs', hm'⟩, hcl.tail⟩, hk⟩
  · rw [hn]
    refine (rune_bad hm hB r wd ln c h1 (by omega) h2 w1 (by omega) h4 c1 (by omega) h3 l1 (by omega) hlt b3 he hT hu).mono ?_
    rintro e w' ⟨rfl, p', hp', f1, f2, f3, f4, hk⟩
    rw [hco] at f2
    exact ⟨rfl, ⟨p', hp', f1, f2, f3.trans h6, f4.trans h7⟩, fun h => by omega, hk⟩
  · rw [hn]
    subst hu
    refine (rune_ny hm hB r wd ln c h1 (by omega) h2 w1 (by omega) h4 c1 (by omega) h3 l1 (by omega) hlt h5 hT (.multi bs d a hmb) (by omega)).mono ?_
    rintro e w' ⟨rfl, p', win', rest', bsp', offs', hm', hc', hl', hk⟩
    rw [hln, hco] at hc'
    try simp only [Int.natCast_zero, Int.add_zero] at hc'
    exact ⟨rfl, ⟨p', hm'.lx.hpb, (by have q := congrArg Pc.r hc'; exact q), (by have q := congrArg Pc.col hc'; exact q), (congrArg Pc.lang hc').trans h6, (congrArg Pc.quote hc').trans h7⟩, fun h => by omega, hk⟩
end Go.Proofs.YtolgahamfkaipaaFmt
