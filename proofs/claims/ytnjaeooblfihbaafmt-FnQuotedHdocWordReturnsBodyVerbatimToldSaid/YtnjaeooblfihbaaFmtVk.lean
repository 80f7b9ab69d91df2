/-
  quotedHdocWord: what its walk carries from line to line, and what it leaves.
-/
import Derived.Test.YtnjaeooblfihbaaFmtVj
import Derived.Deep.LoopGhost
namespace Go.Proofs.YtnjaeooblfihbaaFmt
open Go.RowKit

/-- append of bytes that lie in a block just made. -/
theorem wpList_litn {w : World} {ops : Array Oper} {rest : List Oper} {o : Oper} {a : Act} {Q : Exit → Act → World → Prop} (hgd : o.guard = none) (s x : Operand)
    (ho : o.op = .call { callee := .builtin .append, args := #[s, x], argTypes := #[22, 22] })
    {B pb : Nat} {p : Pc} {l : List UInt8} (h : Lt w B pb p (some l)) (hp : PB w pb p) (hlt : pb < B) (hB : B ≤ w.heap.size) (hs : a.eval s = p.litBs) (cs : Array Value) (y : List UInt8) (N m : Nat) (hN : w.heap.size = N) (hx : a.eval x = .slice (some ⟨N, 0, none⟩) m m) (hcs : cs = (Bys y).toArray) (hy : y.length = m) (hm : 0 < m) (hlim : l.length + m ≤ 100000000000)
    (hw : ∀ A n c w' p', PB w' pb p' → (∃ lb, p' = { p with litBuf := lb }) → Lt w' B pb { p' with litBs := .slice (some A) n c } (some (l ++ y)) → Kb B pb w w' → wpList Tryf.prog ops Q rest (a.put o.dst (.slice (some A) n c)) w') : wpList Tryf.prog ops Q (o :: rest) a (w.alloc (.cells cs 5)) := by
  subst hN
  refine wpList_plain hgd fun K hK => ?_
  have hk : Kept [] w (w.alloc (.cells cs 5)) := (Kept.refl _ _).alloc _
  have hb := heap_alloc_new w (.cells cs 5)
  rw [hcs] at hb
  obtain ⟨v, w', p', hr, h1, h2, h3, h4⟩ := lit_run (h.kept hk (by simp) rfl rfl) (hp.kept hk (by simp)) hlt (Nat.le_trans hB hk.size) o.type ⟨w.heap.size, 0, none⟩ m m y hy hm (fun j z hj => by
    rw [addr_add, Nat.zero_add, hcs, row_cell hb]; unfold Bys; rw [List.getElem?_map, hj]; rfl) hlim
  unfold Oper.wp execOp
  simp only [ho, resolve, invoke, builtin, Sem.run_bind, Sem.run_pure, Result.andThen_ok, List.map_toArray, List.map_cons, List.map_nil, hs, hx, hr]
  obtain ⟨A, n, c, rfl⟩ : ∃ A n c, v = .slice (some A) n c := by
    rcases h3 with ⟨a1, _, _⟩ | ⟨g, cap, a1, _, _⟩
    · exact ⟨_, _, _, a1⟩
    · exact ⟨_, _, _, a1⟩
  exact hK _ _ (hw A n c w' p' h1 h2 h3 ((Kb.of hk (by simp)).trans h4))

/-- The ground of the loops: what keeps. -/
structure QG (w5 w : World) (B pb rb hb sb c posb : Nat) (x y : Int) (stop : List UInt8) : Prop where
  kr : Kr B pb rb w5 w
  hs : HsAt w B pb rb hb sb c stop
  pos : w.heap[posb]? = some (.cells #[.int .u32 x, .int .u32 y] 50 (0, 0))
  p1 : posb < B ∧ posb ≠ pb ∧ posb ≠ rb ∧ posb ≠ hb
theorem QG.kept {w5 w w' : World} {B pb rb hb sb c posb : Nat} {x y : Int} {stop : List UInt8} (h : QG w5 w B pb rb hb sb c posb x y stop) (k : Kr B pb rb w w') : QG w5 w' B pb rb hb sb c posb x y stop := by
  refine ⟨h.kr.trans k, h.hs.kept k, ?_, h.p1⟩
  obtain ⟨S, k, hS⟩ := k
  rw [k.block posb (heap_lt h.pos) (fun hm => by have := h.p1; rcases hS _ hm with e | e | e <;> omega)]
  exact h.pos

/-- A round's head. -/
def QI (w5 w : World) (B pb rb hb sb c posb : Nat) (ea : Addr) (q : Pc) (x y : Int) (s stop : List UInt8) (n : Nat) (a : Int) : Prop :=
  QG w5 w B pb rb hb sb c posb x y stop ∧
  ((a = 1114112 ∧ w.cell? ⟨pb, 27, none⟩ = some q.hdocStops ∧ ∀ b, ¬ Hit s stop b) ∨
   (a ≠ 1114112 ∧ ∃ pre u, RdS w B pb rb ea q (some pre) u a ∧ s = pre ++ u ∧ LineAt s pre.length ∧ Free s stop pre.length ∧ n = u.length))

theorem LexL.c27 {w : World} {B pb rb : Nat} {ea : Addr} {q : Pc} {r : Int} {u : List UInt8} {lit : Option (List UInt8)} {k : Nat} (h : LexL w B pb rb ea q r u lit k) (hB : 0 < B) : w.cell? ⟨pb, 27, none⟩ = some q.hdocStops := by
  obtain ⟨p, _, _, _, _, _, hp, hb, _⟩ := h.upd hB
  have e27 : p.hdocStops = q.hdocStops := by have := congrArg Pc.hdocStops hb; exact this
  rw [hp.c_hdocStops, e27]
theorem qi_of {w5 w : World} {B pb rb hb sb c posb : Nat} {ea : Addr} {q : Pc} {x y : Int} {s stop pre u : List UInt8} {a : Int} (hB : 0 < B) (g : QG w5 w B pb rb hb sb c posb x y stop) (h : RdS w B pb rb ea q (some pre) u a) (hs : s = pre ++ u) (hl : LineAt s pre.length) (hf : Free s stop pre.length) : QI w5 w B pb rb hb sb c posb ea q x y s stop u.length a := by
  refine ⟨g, ?_⟩
  by_cases ha : a = 1114112
  · left
    have h0 := h
    rcases h with ⟨_, rfl, k, hk, h⟩ | ⟨x, t, rfl, rfl, g1, g2, hv, h, h96⟩ | ⟨bs, t, n, rfl, rfl, hm, hv, h, hw⟩ | ⟨t, rfl, rfl, hv, h⟩
    · exact ⟨ha, h.c27 hB, free_none hf (by rw [hs]; simp)⟩
    · omega
    · have := (mb_facts hm).2.2.2.2.1; omega
    · omega
  · exact .inr ⟨ha, pre, u, h, hs, hl, hf, rfl⟩

/-- The line's end: what has been read. -/
theorem line_next {s pre u t stop : List UInt8} (hs : s = pre ++ u) (hu : u = lineOf u ++ 10 :: t) (hf : Free s stop pre.length) (hn : lineOf u ≠ stop) : s = (pre ++ lineOf u ++ [10]) ++ t ∧ LineAt s (pre ++ lineOf u ++ [10]).length ∧ Free s stop (pre ++ lineOf u ++ [10]).length := by
  have e : s = (pre ++ lineOf u ++ [10]) ++ t := by rw [hs, hu]; simp; rw [← hu]
  have hd : s.drop pre.length = u := by rw [hs]; simp
  refine ⟨e, .inr ⟨by simp; omega, ?_⟩, ?_⟩
  · rw [e, List.getElem?_append_left (by simp), List.getElem?_append_right (by simp)]
    simp
  · have := free_next hf (by rw [hd]; exact hn)
    rw [hd] at this
    have hl : (pre ++ lineOf u ++ [10]).length = pre.length + (lineOf u).length + 1 := by simp; omega
    rw [hl]
    exact this
theorem line_last {s pre u stop : List UInt8} (hs : s = pre ++ u) (hu : lineOf u = u) (hf : Free s stop pre.length) (hn : lineOf u ≠ stop) : ∀ b, ¬ Hit s stop b := by
  have hd : s.drop pre.length = u := by rw [hs]; simp
  have := free_next hf (by rw [hd]; exact hn)
  rw [hd] at this
  refine free_none this ?_
  have e := congrArg List.length hs
  rw [hu]
  simp at e
  omega
theorem hit_first {s pre u stop : List UInt8} (hs : s = pre ++ u) (h0 : u ≠ []) (hl : LineAt s pre.length) (hf : Free s stop pre.length) (he : lineOf u = stop) : First s stop pre.length := by
  have hd : s.drop pre.length = u := by rw [hs]; simp
  refine ⟨⟨?_, hl, by rw [hd]; exact he⟩, hf⟩
  rw [hs, List.length_append]
  have := List.length_pos_iff.2 h0
  omega

/-- What quotedHdocWord leaves. -/
def QPost (w0 w : World) (B pb rb hb sb c : Nat) (s stop : List UInt8) (e : Ending) : Prop :=
  (∃ S, Kept S w0 w ∧ ∀ x ∈ S, x = pb ∨ x = rb ∨ x = hb ∨ B ≤ x) ∧ w.cell? ⟨pb, 27, none⟩ = some (.slice (some ⟨hb, 0, none⟩) 1 1) ∧
  ((∃ b, First s stop b ∧ w.cell? ⟨hb, 0, none⟩ = some (.slice none 0 0) ∧ ((b = 0 ∧ e = .returned (.pointer none)) ∨
    (0 < b ∧ ∃ g lg, e = .returned (.pointer (some ⟨g, 0, none⟩)) ∧ w.cell? ⟨g, 0, none⟩ = some (.slice (some ⟨g, 1, none⟩) 1 1) ∧ w.cell? ⟨g, 1, none⟩ = some (.iface 65 (.pointer (some ⟨lg, 0, none⟩))) ∧ w.cell? ⟨lg, 4, none⟩ = some (.string ⟨(s.take b).toArray⟩)))) ∨
   ((∀ b, ¬ Hit s stop b) ∧ e = .returned (.pointer none) ∧ w.cell? ⟨hb, 0, none⟩ = some (.slice (some ⟨sb, 0, none⟩) stop.length c)))

theorem qpost_none {w0 w5 w : World} {B B' pb rb hb sb c posb : Nat} {x y : Int} {s stop : List UInt8} (k0 : Kept [pb] w0 w5) (hBB : B ≤ B') (g : QG w5 w B' pb rb hb sb c posb x y stop) (h27 : w.cell? ⟨pb, 27, none⟩ = some (.slice (some ⟨hb, 0, none⟩) 1 1)) (hn : ∀ b, ¬ Hit s stop b) : QPost w0 w B pb rb hb sb c s stop (.returned (.pointer none)) := by
  obtain ⟨S, k, hS⟩ := g.kr
  refine ⟨⟨pb :: S, (k0.weaken (by simp)).trans (k.weaken (fun x hx => .inl (List.mem_cons_of_mem _ hx))), fun x hx => ?_⟩, h27, .inr ⟨hn, rfl, g.hs.cell⟩⟩
  rcases List.mem_cons.1 hx with h | h
  · exact .inl h
  · rcases hS x h with h | h | h
    · exact .inl h
    · exact .inr (.inl h)
    · exact .inr (.inr (.inr (by omega)))
theorem qpost_hit {w0 w5 w W : World} {B B' pb rb hb sb c posb : Nat} {x y : Int} {s stop : List UInt8} {e : Ending} (k0 : Kept [pb] w0 w5) (hBB : B ≤ B') (g : QG w5 w B' pb rb hb sb c posb x y stop) (kW : Kept [hb, pb] w W) (h27 : W.cell? ⟨pb, 27, none⟩ = some (.slice (some ⟨hb, 0, none⟩) 1 1)) (hh : W.cell? ⟨hb, 0, none⟩ = some (.slice none 0 0)) {b : Nat} (hf : First s stop b)
    (he : (b = 0 ∧ e = .returned (.pointer none)) ∨
    (0 < b ∧ ∃ g lg, e = .returned (.pointer (some ⟨g, 0, none⟩)) ∧ W.cell? ⟨g, 0, none⟩ = some (.slice (some ⟨g, 1, none⟩) 1 1) ∧ W.cell? ⟨g, 1, none⟩ = some (.iface 65 (.pointer (some ⟨lg, 0, none⟩))) ∧ W.cell? ⟨lg, 4, none⟩ = some (.string ⟨(s.take b).toArray⟩))) : QPost w0 W B pb rb hb sb c s stop e := by
  obtain ⟨S, k, hS⟩ := g.kr
  refine ⟨⟨pb :: hb :: S, ((k0.weaken (by simp)).trans (k.weaken (fun x hx => .inl (by simp [hx])))).trans (kW.weaken (fun x hx => .inl (by simp at hx ⊢; rcases hx with h | h <;> simp [h]))), fun x hx => ?_⟩, h27, .inl ⟨b, hf, hh, he⟩⟩
  simp only [List.mem_cons] at hx
  rcases hx with h | h | h
  · exact .inl h
  · exact .inr (.inr (.inl h))
  · rcases hS x h with h | h | h
    · exact .inl h
    · exact .inr (.inl h)
    · exact .inr (.inr (.inr (by omega)))
/-- A round of the inner loop. -/
def IQ (w5 w : World) (B pb rb hb sb c posb : Nat) (ea : Addr) (q : Pc) (x y : Int) (pre u stop : List UInt8) (m : Nat) (a : Int) : Prop :=
  QG w5 w B pb rb hb sb c posb x y stop ∧ ∃ line v, RdS w B pb rb ea q (some (pre ++ line)) v a ∧ u = line ++ v ∧ (10 : UInt8) ∉ line ∧ m = v.length

theorem first_rune {w : World} {B pb rb : Nat} {ea : Addr} {q : Pc} {pre u : List UInt8} {a : Int} (h : RdS w B pb rb ea q (some pre) u a) (hne : a ≠ 1114112) : ∃ t0 L0, LexL w B pb rb ea q a t0 (some L0) 0 ∧ Lrel pre u ((L0.length : Int) - 1) := by
  rcases h with ⟨rfl, rfl, k, hk, h⟩ | ⟨x, t, rfl, rfl, g1, g2, hv, h, h96⟩ | ⟨bs, t, n, rfl, rfl, hm, hv, h, hw⟩ | ⟨t, rfl, rfl, hv, h⟩
  · exact absurd rfl hne
  · exact ⟨_, _, h, .inl ⟨x, t, rfl, g1, by simp⟩⟩
  · exact ⟨_, _, h, .inr (.inl ⟨bs, t, n, rfl, hm, by simp⟩)⟩
  · exact ⟨_, _, h, .inr (.inr ⟨t, rfl, rfl⟩)⟩

/-- The line against the stop word. -/
theorem hd_equal {w : World} {B pb rb hb sb c : Nat} {stop line : List UInt8} (hs : HsAt w B pb rb hb sb c stop) (b : Bool) (hb : decide (line = stop) = b) (A : Option Addr) (n cc : Nat) (h : SrcB w A n line) :
    Calls Tryf.prog 36 #[.slice A n cc, .slice (some ⟨sb, 0, none⟩) stop.length c] w fun e w' => e = .returned (.bool b) ∧ w = w' := by
  have := equal_any (c := cc) (d := c) h hs.src
  rw [hb] at this
  exact this
/-- Where a line lies. -/
theorem line_src {w : World} {g o ls n : Nat} {L line : List UInt8} {A : Option Addr} (h : ∀ j x, L[j]? = some x → w.cell? ⟨g, o + j, none⟩ = some (By x)) (hL : ∀ j x, line[j]? = some x → L[ls + j]? = some x) (hn : line.length = n) (hA : n = 0 ∨ A = some ⟨g, o + ls, none⟩) : SrcB w A n line := by
  refine ⟨hn, fun h0 => ?_⟩
  rcases hA with hA | hA
  · omega
  · have hl : 0 < line.length := by omega
    refine ⟨g, o + ls, hA, block_lt_of_cell (h (ls + 0) _ (hL 0 line[0] (List.getElem?_eq_getElem hl))), fun j x hj => ?_⟩
    rw [Nat.add_assoc]
    exact h (ls + j) x (hL j x hj)
theorem ext_take {l : List UInt8} {n : Nat} : (⟨l.toArray⟩ : ByteArray).extract 0 n = ⟨(l.take n).toArray⟩ := by
  apply ByteArray.ext
  apply Array.toList_inj.1
  rw [ext_list]
  simp
/-- endLit at the stop word's line, the entry having been cleared. -/
theorem el_hit {w : World} {B pb rb hb : Nat} {ea : Addr} {q : Pc} {r : Int} {u l : List UInt8} {k : Nat} (h : LexL w B pb rb ea q r u (some l) k) (hB : 0 < B) (hk : k ≤ 10) (hhb : hb < B ∧ hb ≠ pb) (hr : (r = 1114112 ∨ r = 1114113) ∨ (r = 10 ∧ 0 < l.length)) :
    ∀ W, Kept [hb] w W → Calls Tryf.prog 37 #[.pointer (some ⟨pb, 0, none⟩)] W fun e w' => e = .returned (.string ⟨(if r = 10 then l.take (l.length - 1) else l).toArray⟩) ∧ Kept [pb] W w' ∧
      ∃ p o b wd ln cl, PB w' pb p ∧ p.litBatch = q.litBatch ∧ p.wordBatch = q.wordBatch ∧ p.hdocStops = q.hdocStops ∧ (p.offs = .int .i64 o ∧ p.bsp = .int .u64 b ∧ p.w = .int .i64 wd ∧ p.line = .int .i64 ln ∧ p.col = .int .i64 cl ∧ 0 ≤ o ∧ o ≤ 1000000000 ∧ 0 ≤ b ∧ b ≤ 100000 ∧ 0 ≤ wd ∧ wd ≤ 8 ∧ 0 ≤ ln ∧ ln ≤ 1000000000100 ∧ 0 ≤ cl ∧ cl ≤ 1000000000100) := by
  intro W kW
  obtain ⟨p, o, b, wd, ln, cl, hp, hb0, hpr, _, hlt, ⟨e1, e2, e3, e4, e5, e6, e7, e8, e9, e10, e11, e12, e13, e14, e15⟩, hw1, _, _, _, hll, _⟩ := h.upd hB
  have hpW := hp.kept kW (by simp; exact fun e => hhb.2 e.symm)
  have hlW := hlt.kept kW (by simp; exact hhb.1) rfl rfl
  have f1 : p.litBatch = q.litBatch := by have := congrArg Pc.litBatch hb0; exact this
  have f2 : p.wordBatch = q.wordBatch := by have := congrArg Pc.wordBatch hb0; exact this
  have f3 : p.hdocStops = q.hdocStops := by have := congrArg Pc.hdocStops hb0; exact this
  have hl9 := hll l rfl
  rcases hr with hr | ⟨hr, h0⟩
  · refine (endlit_all hpW hlW r hpr hr).mono ?_
    rintro e w' ⟨rfl, hp', hk'⟩
    exact ⟨by rw [if_neg (by omega)], hk', _, o, b, wd, ln, cl, hp', f1, f2, f3, e1, e2, e3, e4, e5, e6, e7, e8, e9, e10, e11, e12, by omega, e14, by omega⟩
  · refine (endlit_one hpW hlW r hpr (by omega) (by omega) (by rw [e3, hw1 (by omega) (by omega)]) h0 (by omega)).mono ?_
    rintro e w' ⟨rfl, hp', hk'⟩
    exact ⟨by rw [if_pos hr], hk', _, o, b, wd, ln, cl, hp', f1, f2, f3, e1, e2, e3, e4, e5, e6, e7, e8, e9, e10, e11, e12, by omega, e14, by omega⟩
theorem line_strict {pre u : List UInt8} {ls : Int} (hl : Lrel pre u ls) : ls < pre.length + u.length := by
  rcases hl with ⟨x, t, rfl, hx, rfl⟩ | ⟨bs, t, n, rfl, hm, rfl⟩ | ⟨t, rfl, rfl⟩
  · simp; omega
  · have := hm.1; simp; omega
  · simp; omega
theorem lexl_app {w w9 : World} {B pb rb : Nat} {ea : Addr} {q p p4 : Pc} {r : Int} {u l l2 : List UInt8} {A : Addr} {n c : Nat} {k : Nat} (hup : ∀ w' q' p' lit', PB w' pb p' → Kb B pb w w' → p'.base = q'.base → (p'.r = p.r ∧ p'.w = p.w ∧ p'.line = p.line ∧ p'.col = p.col ∧ p'.openBquotes = p.openBquotes ∧ p'.src = p.src ∧ p'.bs = p.bs ∧ p'.readBuf = p.readBuf ∧ p'.bsp = p.bsp ∧ p'.readEOF = p.readEOF ∧ p'.readErr = p.readErr ∧ p'.offs = p.offs) → Lt w' B pb p' lit' → (∀ l ∈ lit', l.length + u.length ≤ 1000000000) → LexL w' B pb rb ea q' r u lit' k)
    (hb : p.base = q.base) (hlt : pb < B) (hp4 : PB w9 pb p4) (hlb : ∃ lb, p4 = { p with litBuf := lb }) (hl4 : Lt w9 B pb { p4 with litBs := .slice (some A) n c } (some (l ++ l2))) (hk4 : Kb B pb w w9) (hlen : (l ++ l2).length + u.length ≤ 1000000000) : LexL (w9.setCell ⟨pb, 2087, none⟩ (.slice (some A) n c)) B pb rb ea q r u (some (l ++ l2)) k := by
  obtain ⟨lb, rfl⟩ := hlb
  have k5 : Kept [pb] w9 (w9.setCell ⟨pb, 2087, none⟩ (.slice (some A) n c)) := (Kept.refl _ _).setCell (p := ⟨pb, 2087, none⟩) (by simp) _
  exact hup _ q _ (some (l ++ l2)) (hp4.s_litBs _) (hk4.trans (Kb.of k5 (by simp))) hb ⟨rfl, rfl, rfl, rfl, rfl, rfl, rfl, rfl, rfl, rfl, rfl, rfl⟩ (hl4.kept k5 (by simp; exact hlt) rfl rfl) (fun l' hl' => by simp at hl'; subst hl'; simpa using hlen)
theorem take_snoc (L : List UInt8) (x : UInt8) : (L ++ [x]).take ((L ++ [x]).length - 1) = L := by simp
end Go.Proofs.YtnjaeooblfihbaaFmt
