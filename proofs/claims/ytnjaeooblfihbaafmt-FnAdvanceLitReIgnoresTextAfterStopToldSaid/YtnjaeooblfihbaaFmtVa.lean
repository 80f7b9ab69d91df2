/-
  The lexer rune by rune, runes of more than one byte too: the current rune, the bytes behind it, the literal that is being gathered; what rune(), newLit do to them.
-/
import Derived.Test.YtnjaeooblfihbaaFmtVi
import Derived.Test.YtnjaeooblfihbaaFmtVp
import Derived.Test.YtnjaeooblfihbaaFmtR6
import Derived.Test.YtnjaeooblfihbaaFmtSl
import Derived.Handy
namespace Go.Proofs.YtnjaeooblfihbaaFmt
open Go.RowKit

/-- The current rune is r, u is what is unread behind it, lit the literal so far; the other fields are q's; k: so often was the end met. -/
def LexL (w : World) (B pb rb : Nat) (ea : Addr) (q : Pc) (r : Int) (u : List UInt8) (lit : Option (List UInt8)) (k : Nat) : Prop :=
  ∃ (p : Pc) (wd ln col : Int), p.base = q.base ∧ p.r = .int .i32 r ∧ p.w = .int .i64 wd ∧ p.line = .int .i64 ln ∧ p.col = .int .i64 col ∧ p.openBquotes = .int .i64 0 ∧
    0 ≤ wd ∧ wd ≤ 4 ∧ (0 < r → r < 128 → wd = 1) ∧ 0 ≤ ln ∧ ln + u.length ≤ 10000000000 + k ∧ 0 ≤ col ∧ col + 8 * u.length ≤ 10000000000 + 8 * k ∧ pb < B ∧ rb < B ∧ B ≤ w.heap.size ∧
    Lt w B pb p lit ∧ (∀ l ∈ lit, l.length + u.length ≤ 1000000000) ∧ (∀ w', Kr B pb rb w w' → Tabs w') ∧
    ((r ≠ 1114112 ∧ ∃ win rest bsp offs, Md w B pb rb ea p win rest bsp offs u) ∨ (r = 1114112 ∧ u = [] ∧ AtEof w pb p))

theorem rune_l {w : World} {B pb rb : Nat} {ea : Addr} {q : Pc} {r a b : Int} {u c d : List UInt8} {dc : Nat} {lit : Option (List UInt8)} {k : Nat} (h : LexL w B pb rb ea q r u lit k) (hk : k ≤ 1000000) (hB : 0 < B) (hr : r ≠ 1114112) (hn : Nx r u a b c d dc) :
    Calls Tryf.prog 22 #[.pointer (some ⟨pb, 0, none⟩)] w fun e w' => e = .returned (.int .i32 a) ∧ LexL w' B pb rb ea q a d (lit.map (· ++ c)) k ∧ Kr B pb rb w w' := by
  obtain ⟨p, wd, ln, col, hb, h1, h2, h3, h4, h5, w1, w2, w3, l1, l2, c1, c2, b1, b2, b3, hl, hll, hT, ⟨_, win, rest, bsp, offs, hm⟩ | ⟨he, _⟩⟩ := h
  · obtain ⟨n1, n2, n3, n4, n5, n6⟩ := nx_len hn
    refine (rune_nx hm hB r wd ln col h1 hr h2 w1 (by omega) h4 c1 (by omega) h3 l1 (by omega) lit hl (fun l hl => by have := hll l hl; omega) h5 hn (by omega)).mono ?_
    rintro e w' ⟨rfl, p', win', rest', bsp', offs', hm', hc', hl', hk'⟩
    have hln : lnOf r ln ≤ ln + 1 ∧ 0 ≤ lnOf r ln := by unfold lnOf; split <;> omega
    have hcl : colOf r col wd ≤ col + wd ∧ 0 ≤ colOf r col wd := by unfold colOf; split <;> omega
    refine ⟨rfl, ⟨p', b, lnOf r ln, colOf r col wd + dc, (base_of_core hc').trans hb, congrArg Pc.r hc', congrArg Pc.w hc', congrArg Pc.line hc', congrArg Pc.col hc', (congrArg Pc.openBquotes hc').trans h5, n2, by omega, fun _ h => n6 h, hln.2, by omega, by omega, by omega, b1, b2, hm'.lx.hrd.lt.2, hl', ?_, fun w2 k2 => hT w2 (hk'.trans k2), .inl ⟨n5, win', rest', bsp', offs', hm'⟩⟩, hk'⟩
    intro l hl
    cases lit with
    | none => cases hl
    | some l0 =>
      have := hll l0 rfl
      simp only [Option.map_some, Option.mem_def, Option.some.injEq] at hl
      rw [← hl, List.length_append]
      omega
  · exact absurd he hr

theorem rune_lmb {w : World} {B pb rb : Nat} {ea : Addr} {q : Pc} {r : Int} {bs d : List UInt8} {a : Nat} {lit : Option (List UInt8)} {k : Nat} (h : LexL w B pb rb ea q r (bs ++ d) lit k) (hk : k ≤ 1000000) (hB : 0 < B) (hr : r ≠ 1114112) (hm : MB bs a) :
    Calls Tryf.prog 22 #[.pointer (some ⟨pb, 0, none⟩)] w fun e w' => e = .returned (.int .i32 a) ∧ LexL w' B pb rb ea q a d (lit.map (· ++ bs)) k ∧ Kr B pb rb w w' ∧
      (∃ m n : Nat, w'.cell? ⟨pb, 2, none⟩ = some (.int .u64 m) ∧ w'.cell? ⟨pb, 1, none⟩ = some (.slice (some ⟨pb, 39, none⟩) n 1024) ∧ bs.length ≤ m ∧ m ≤ n ∧ n ≤ 1024 ∧ ∀ j x, bs[j]? = some x → w'.cell? ⟨pb, 39 + (m - bs.length) + j, none⟩ = some (By x)) := by
  obtain ⟨p, wd, ln, col, hb, h1, h2, h3, h4, h5, w1, w2, w3, l1, l2, c1, c2, b1, b2, b3, hl, hll, hT, ⟨_, win, rest, bsp, offs, hmd⟩ | ⟨he, _⟩⟩ := h
  · obtain ⟨m1, m2, m3, m4, m5, m6⟩ := mb_facts hm
    have hbl := hm.1
    have hul : (bs ++ d).length = bs.length + d.length := List.length_append
    refine (rune_mbl hmd hB r wd ln col h1 hr h2 w1 (by omega) h4 c1 (by omega) h3 l1 (by omega) lit hl (fun l hl => by have := hll l hl; omega) hT hm rfl).mono ?_
    rintro e w' ⟨rfl, p', win', rest', bsp', offs', hm', hc', hl', hk', hwas⟩
    have hln : lnOf r ln ≤ ln + 1 ∧ 0 ≤ lnOf r ln := by unfold lnOf; split <;> omega
    have hcl : colOf r col wd ≤ col + wd ∧ 0 ≤ colOf r col wd := by unfold colOf; split <;> omega
    refine ⟨rfl, ⟨p', bs.length, lnOf r ln, colOf r col wd, (base_of_core hc').trans hb, congrArg Pc.r hc', congrArg Pc.w hc', congrArg Pc.line hc', congrArg Pc.col hc', (congrArg Pc.openBquotes hc').trans h5, by omega, by omega, fun _ h => by omega, hln.2, by omega, by omega, by omega, b1, b2, hm'.lx.hrd.lt.2, hl', ?_, fun w2 k2 => hT w2 (hk'.trans k2), .inl ⟨by omega, win', rest', bsp', offs', hm'⟩⟩, hk', ?_⟩
    · intro l hl
      cases lit with
      | none => cases hl
      | some l0 =>
        have := hll l0 rfl
        simp only [Option.map_some, Option.mem_def, Option.some.injEq] at hl
        rw [← hl, List.length_append]
        omega
    · have hfit := hm'.lx.hfit
      have hbw := hm'.hb
      obtain ⟨A, cc, cb, hA⟩ := hm'.bs
      obtain ⟨rfl, rfl⟩ := hA (by have := hwas.1; omega)
      exact ⟨bsp', win'.length, hm'.c2, cb, hwas.1, hbw, hfit, fun j x hj => by rw [Nat.add_assoc]; exact hm'.lx.byte _ _ (hwas.2 j x hj)⟩
  · exact absurd he hr

/-- rune() behind the last byte. -/
theorem rune_l_eof {w : World} {B pb rb : Nat} {ea : Addr} {q : Pc} {r : Int} {lit : Option (List UInt8)} {k : Nat} (h : LexL w B pb rb ea q r [] lit k) (hk : k ≤ 1000000) (hB : 0 < B) :
    Calls Tryf.prog 22 #[.pointer (some ⟨pb, 0, none⟩)] w fun e w' => e = .returned (.int .i32 1114112) ∧ LexL w' B pb rb ea q 1114112 [] lit (k + 1) ∧ Kr B pb rb w w' := by
  obtain ⟨p, wd, ln, col, hb, h1, h2, h3, h4, h5, w1, w2, w3, l1, l2, c1, c2, b1, b2, b3, hl, hll, hT, ⟨hr, win, rest, bsp, offs, hm⟩ | ⟨he, _, ha⟩⟩ := h
  · refine (rune_eof hm hB r wd ln col h1 hr h2 w1 (by omega) h4 c1 (by omega) h3 l1 (by omega) lit hl rfl).mono ?_
    rintro e w' ⟨rfl, p', ha', hs', hl', hk'⟩
    have hln : lnOf r ln ≤ ln + 1 ∧ 0 ≤ lnOf r ln := by unfold lnOf; split <;> omega
    have hcl : colOf r col wd ≤ col + wd ∧ 0 ≤ colOf r col wd := by unfold colOf; split <;> omega
    have hh : ∃ S, Kept S w w' ∧ ∀ x ∈ S, x = pb ∨ x = rb ∨ B ≤ x := hk'
    obtain ⟨S, hS, _⟩ := hh
    refine ⟨rfl, ⟨p', 1, lnOf r ln, colOf r col wd, (base_of_side hs').trans hb, ha'.2.1, ha'.2.2.1, congrArg Pc.line hs', congrArg Pc.col hs', (congrArg Pc.openBquotes hs').trans h5, by omega, by omega, fun _ h => by omega, hln.2, ?_, hcl.2, ?_, b1, b2, Nat.le_trans b3 hS.size, hl', hll, fun w2 k2 => hT w2 (hk'.trans k2), .inr ⟨rfl, rfl, ha'⟩⟩, hk'⟩
    · simp at l2 ⊢; omega
    · simp at c2 ⊢; omega
  · subst he
    simp at l2 c2
    refine (rune_again rb ha b1 ln col h4 c1 (by omega) h3 lit hl).mono ?_
    rintro e w' ⟨rfl, p', ha', hs', hl', hk'⟩
    have hh : ∃ S, Kept S w w' ∧ ∀ x ∈ S, x = pb ∨ x = rb ∨ B ≤ x := hk'
    obtain ⟨S, hS, _⟩ := hh
    refine ⟨rfl, ⟨p', 1, ln, col + 1, (base_of_side hs').trans hb, ha'.2.1, ha'.2.2.1, congrArg Pc.line hs', congrArg Pc.col hs', (congrArg Pc.openBquotes hs').trans h5, by omega, by omega, fun _ h => by omega, l1, ?_, by omega, ?_, b1, b2, Nat.le_trans b3 hS.size, hl', hll, fun w2 k2 => hT w2 (hk'.trans k2), .inr ⟨rfl, rfl, ha'⟩⟩, hk'⟩
    · simp; omega
    · simp; omega

theorem rune_l96 {w : World} {B pb rb : Nat} {ea : Addr} {q : Pc} {r : Int} {u : List UInt8} {lit : Option (List UInt8)} {k : Nat} (h : LexL w B pb rb ea q r (96 :: u) lit k) (hk : k ≤ 1000000) (hB : 0 < B) (hr : r ≠ 1114112) :
    Calls Tryf.prog 22 #[.pointer (some ⟨pb, 0, none⟩)] w fun e w' => e = .returned (.int .i32 96) ∧ LexL w' B pb rb ea q 96 u (lit.map (· ++ [96])) k ∧ Kr B pb rb w w' ∧ w'.cell? ⟨pb, 32, none⟩ = some (.int .i64 0) := by
  obtain ⟨p, wd, ln, col, hb, h1, h2, h3, h4, h5, w1, w2, w3, l1, l2, c1, c2, b1, b2, b3, hl, hll, hT, ⟨_, win, rest, bsp, offs, hm⟩ | ⟨he, _⟩⟩ := h
  · simp only [List.length_cons] at l2 c2 hll
    refine (rune_bq hm hB r wd ln col h1 hr h2 w1 (by omega) h4 c1 (by omega) h3 l1 (by omega) lit hl (fun l hl => by have := hll l hl; omega) rfl).mono ?_
    rintro e w' ⟨rfl, p', win', rest', bsp', offs', hm', hq', hc', hl', hk'⟩
    have hln : lnOf r ln ≤ ln + 1 ∧ 0 ≤ lnOf r ln := by unfold lnOf; split <;> omega
    have hcl : colOf r col wd ≤ col + wd ∧ 0 ≤ colOf r col wd := by unfold colOf; split <;> omega
    have hm2 : Md w' B pb rb ea p' win' rest' bsp' offs' u := hm'
    refine ⟨rfl, ⟨p', 1, lnOf r ln, colOf r col wd, (base_of_core hc').trans hb, congrArg Pc.r hc', congrArg Pc.w hc', congrArg Pc.line hc', congrArg Pc.col hc', (congrArg Pc.openBquotes hc').trans h5, by omega, by omega, fun _ _ => rfl, hln.2, by omega, by omega, by omega, b1, b2, hm2.lx.hrd.lt.2, hl', ?_, fun w2 k2 => hT w2 (hk'.trans k2), .inl ⟨by decide, win', rest', bsp', offs', hm2⟩⟩, hk', by rw [hm2.lx.hpb.c_lastBquoteEsc, hq']⟩
    intro l hl
    cases lit with
    | none => cases hl
    | some l0 =>
      have := hll l0 rfl
      simp only [Option.map_some, Option.mem_def, Option.some.injEq] at hl
      rw [← hl, List.length_append]
      simp; omega
  · exact absurd he hr

/-- The state's parser, and that fields outside the reading side may be put anew. -/
theorem LexL.upd {w : World} {B pb rb : Nat} {ea : Addr} {q : Pc} {r : Int} {u : List UInt8} {lit : Option (List UInt8)} {k : Nat} (h : LexL w B pb rb ea q r u lit k) (hB : 0 < B) :
    ∃ p o b wd ln cl, PB w pb p ∧ p.base = q.base ∧ p.r = .int .i32 r ∧ p.openBquotes = .int .i64 0 ∧ Lt w B pb p lit ∧ (p.offs = .int .i64 o ∧ p.bsp = .int .u64 b ∧ p.w = .int .i64 wd ∧ p.line = .int .i64 ln ∧ p.col = .int .i64 cl ∧ 0 ≤ o ∧ o ≤ 1000000000 ∧ 0 ≤ b ∧ b ≤ 100000 ∧ 0 ≤ wd ∧ wd ≤ 8 ∧ 0 ≤ ln ∧ ln ≤ 1000000000000 + k ∧ 0 ≤ cl ∧ cl ≤ 1000000000000 + 8 * k) ∧
      (0 < r → r < 128 → wd = 1) ∧ pb < B ∧ rb < B ∧ B ≤ w.heap.size ∧ (∀ l ∈ lit, l.length + u.length ≤ 1000000000) ∧
      ∀ w' q' p' lit', PB w' pb p' → Kb B pb w w' → p'.base = q'.base → (p'.r = p.r ∧ p'.w = p.w ∧ p'.line = p.line ∧ p'.col = p.col ∧ p'.openBquotes = p.openBquotes ∧ p'.src = p.src ∧ p'.bs = p.bs ∧ p'.readBuf = p.readBuf ∧ p'.bsp = p.bsp ∧ p'.readEOF = p.readEOF ∧ p'.readErr = p.readErr ∧ p'.offs = p.offs) → Lt w' B pb p' lit' → (∀ l ∈ lit', l.length + u.length ≤ 1000000000) → LexL w' B pb rb ea q' r u lit' k := by
  obtain ⟨p, wd, ln, col, hb, h1, h2, h3, h4, h5, w1, w2, w3, l1, l2, c1, c2, b1, b2, b3, hl, hll, hT, hcase⟩ := h
  have hp : PB w pb p := by
    rcases hcase with ⟨_, win, rest, bsp, offs, hm⟩ | ⟨_, _, ha⟩
    · exact hm.lx.hpb
    · exact ha.1
  have hob : ∃ o b : Int, p.offs = .int .i64 o ∧ p.bsp = .int .u64 b ∧ 0 ≤ o ∧ o ≤ 1000000000 ∧ 0 ≤ b ∧ b ≤ 100000 := by
    rcases hcase with ⟨_, win, rest, bsp, offs, hm⟩ | ⟨_, _, _, _, _, A, n, c, m, b, e3, e4, e5, e6, _, o, e8, e9, e10⟩
    · have a1 := hm.ho1; have a2 := hm.ho2; have a3 := hm.hb; have a4 := hm.lx.hfit
      exact ⟨offs, bsp, hm.hoffs, hm.lx.hbsp, a1, by omega, by omega, by omega⟩
    · exact ⟨o, m, e8, e4, e9, e10, by omega, by omega⟩
  obtain ⟨o, b, ho, hbs, o1, o2, o3, o4⟩ := hob
  refine ⟨p, o, b, wd, ln, col, hp, hb, h1, h5, hl, ⟨ho, hbs, h2, h3, h4, o1, o2, o3, o4, w1, by omega, l1, by omega, c1, by omega⟩, w3, b1, b2, b3, hll, ?_⟩
  rintro w' q' p' lit' hp' hk' hb' ⟨e1, e2, e3, e4, e5, e6, e7, e8, e9, e10, e11, e12⟩ hl' hll'
  have hsz : B ≤ w'.heap.size := by
    obtain ⟨S, kS, _⟩ := hk'
    exact Nat.le_trans b3 kS.size
  refine ⟨p', wd, ln, col, hb', e1.trans h1, e2.trans h2, e3.trans h3, e4.trans h4, e5.trans h5, w1, w2, w3, l1, l2, c1, c2, b1, b2, hsz, hl', hll', fun w2 k2 => hT w2 (hk'.kr.trans k2), ?_⟩
  rcases hcase with ⟨hr, win, rest, bsp, offs, hm⟩ | ⟨hr, hu, ha⟩
  · refine .inl ⟨hr, win, rest, bsp, offs, ?_⟩
    have := hm.step hk' hB hp' 0 (by have := hm.hb; omega) e6 e7 e8 (by rw [e9]; simpa using hm.lx.hbsp) e10 e11 e12
    simpa using this
  · obtain ⟨_, f1, f2, A, n, c, m, b, f3, f4, f5, f6, f7, o', f8, f9, f10⟩ := ha
    exact .inr ⟨hr, hu, hp', e1.trans f1, e2.trans f2, A, n, c, m, b, e7.trans f3, e9.trans f4, f5, f6, e10.trans f7, o', e12.trans f8, f9, f10⟩

theorem LexL.kept0 {w w' : World} {B pb rb : Nat} {ea : Addr} {q : Pc} {r : Int} {u : List UInt8} {lit : Option (List UInt8)} {k : Nat} (h : LexL w B pb rb ea q r u lit k) (hB : 0 < B) (kp : Kept [] w w') : LexL w' B pb rb ea q r u lit k := by
  obtain ⟨p, _, _, _, _, _, hp, hb, _, _, hl, _, _, b1, _, _, hll, hup⟩ := h.upd hB
  exact hup w' q p lit (hp.kept kp (by simp)) (Kb.of kp (by simp)) hb ⟨rfl, rfl, rfl, rfl, rfl, rfl, rfl, rfl, rfl, rfl, rfl, rfl⟩ (hl.kept kp (by simp) rfl rfl) hll

theorem newlit_l {w : World} {B pb rb : Nat} {ea : Addr} {q : Pc} {u : List UInt8} {lit : Option (List UInt8)} {k : Nat} {x : UInt8} (h : LexL w B pb rb ea q x.toNat u lit k) (hB : 0 < B) (hx : x.toNat < 128) (hu : u.length ≤ 100000000) :
    Calls Tryf.prog 34 #[.pointer (some ⟨pb, 0, none⟩), .int .i32 x.toNat] w fun e w' => e = .returned (.tuple #[]) ∧ LexL w' B pb rb ea q x.toNat u (some [x]) k ∧ Kept [pb] w w' ∧ w'.cell? ⟨pb, 32, none⟩ = w.cell? ⟨pb, 32, none⟩ ∧ (∃ n, w'.cell? ⟨pb, 2087, none⟩ = some (.slice (some ⟨pb, 1063, none⟩) n 1024)) := by
  obtain ⟨p, _, _, _, _, _, hp, hb, _, _, hl, _, _, b1, _, _, hll, hup⟩ := h.upd hB
  refine (newlit_byte hp x hx).mono ?_
  rintro e w' ⟨rfl, hp', hk'⟩
  refine ⟨rfl, hup w' q _ (some [x]) hp' (Kb.of hk' (by simp)) hb ⟨rfl, rfl, rfl, rfl, rfl, rfl, rfl, rfl, rfl, rfl, rfl, rfl⟩ (.inl ⟨rfl, by simp, ?_⟩) (fun l hl => by simp at hl; subst hl; simp; omega), hk', by rw [hp'.c_lastBquoteEsc, hp.c_lastBquoteEsc], 1, hp'.c_litBs⟩
  show (By x :: p.litBuf.drop 1).take 1 = Bys [x]
  rfl
theorem newlit_l_none {w : World} {B pb rb : Nat} {ea : Addr} {q : Pc} {r : Int} {u : List UInt8} {lit : Option (List UInt8)} {k : Nat} (h : LexL w B pb rb ea q r u lit k) (hB : 0 < B) (hr : r = 1114112 ∨ r = 1114113) (hu : u.length ≤ 100000000) :
    Calls Tryf.prog 34 #[.pointer (some ⟨pb, 0, none⟩), .int .i32 r] w fun e w' => e = .returned (.tuple #[]) ∧ LexL w' B pb rb ea q r u (some []) k ∧ Kept [pb] w w' ∧ (∃ n, w'.cell? ⟨pb, 2087, none⟩ = some (.slice (some ⟨pb, 1063, none⟩) n 1024)) := by
  obtain ⟨p, _, _, _, _, _, hp, hb, _, _, hl, _, _, b1, _, _, hll, hup⟩ := h.upd hB
  refine (newlit_none hp r hr).mono ?_
  rintro e w' ⟨rfl, hp', hk'⟩
  exact ⟨rfl, hup w' q _ (some []) hp' (Kb.of hk' (by simp)) hb ⟨rfl, rfl, rfl, rfl, rfl, rfl, rfl, rfl, rfl, rfl, rfl, rfl⟩ (.inl ⟨rfl, by simp, rfl⟩) (fun l hl => by simp at hl; subst hl; simp; omega), hk', 0, hp'.c_litBs⟩

set_option maxRecDepth 100000 in
theorem runelen_mb {bs : List UInt8} {a : Nat} (hm : MB bs a) (w : World) : Calls Tryf.prog 45 #[.int .i32 a] w fun e w' => e = .returned (.int .i64 bs.length) ∧ w = w' := by
  have h0 := mb_facts hm
  obtain ⟨a', ha'⟩ : ∃ a' : Int, a' = a := ⟨_, rfl⟩
  rw [← ha']
  rcases mb_len hm with ⟨e, h1⟩ | ⟨e, h1, h2, h3⟩ | ⟨e, h1⟩
  · rw [e]
    have g1 : 128 ≤ a' := by omega
    have g2 : a' < 2048 := by omega
    clear h0 ha' hm e h1
    go_enter Tryf.func45, Tryf.ntmps45
    go_wp2
    go_returns
    exact ⟨rfl, rfl⟩
  · rw [e]
    have g1 : 2048 ≤ a' := by omega
    have g2 : a' < 65536 := by omega
    have g3 : a' < 55296 ∨ 57343 < a' := by omega
    clear h0 ha' hm e h1 h2 h3
    rcases g3 with g3 | g3
    all_goals (
      go_enter Tryf.func45, Tryf.ntmps45
      go_wp2
      go_returns
      exact ⟨rfl, rfl⟩)
  · rw [e]
    have g1 : 65536 ≤ a' := by omega
    have g2 : a' ≤ 1114111 := by omega
    clear h0 ha' hm e h1
    go_enter Tryf.func45, Tryf.ntmps45
    go_wp2
    go_returns
    exact ⟨rfl, rfl⟩
end Go.Proofs.YtnjaeooblfihbaaFmt
