/-
  The lexer in the middle of its input: the window, what is still to be read, the literal that is being gathered; fill; append to the literal.
-/
import Derived.Test.YtnjaeooblfihbaaFmtLexG
import Derived.Test.YtnjaeooblfihbaaFmtApl
namespace Go.Proofs.YtnjaeooblfihbaaFmt
open Go.RowKit

/-- Only the parser's block and blocks from B on may have turned. -/
def Kb (B pb : Nat) (w w' : World) : Prop := ∃ S, Kept S w w' ∧ ∀ x ∈ S, x = pb ∨ B ≤ x
section
variable {B pb : Nat} {a b c : World}
theorem Kb.refl (B pb : Nat) (w : World) : Kb B pb w w := ⟨[], Kept.refl _ _, by simp⟩
theorem Kb.of {S : List Nat} (h : Kept S a b) (hS : ∀ x ∈ S, x = pb ∨ B ≤ x) : Kb B pb a b := ⟨S, h, hS⟩
theorem Kb.trans (h : Kb B pb a b) (k : Kb B pb b c) : Kb B pb a c := by
  obtain ⟨S, h1, h2⟩ := h
  obtain ⟨S', k1, k2⟩ := k
  refine ⟨S ++ S', (h1.weaken (by simp; intro x hx; exact .inl (.inl hx))).trans (k1.weaken (by simp; intro x hx; exact .inl (.inr hx))), fun x hx => ?_⟩
  rcases List.mem_append.1 hx with h | h
  · exact h2 x h
  · exact k2 x h
end

/-- The parser without its reading side. -/
def Pc.side (p : Pc) : Pc := { p with bs := nilS, bsp := i0 .u64, readErr := .nilIface, readEOF := .bool false, offs := i0 .i64, readBuf := [] }

/-- The parser is in the middle of its input; u is what is unread. -/
structure Md (w : World) (B pb rb : Nat) (ea : Addr) (p : Pc) (win rest : List UInt8) (bsp : Nat) (offs : Int) (u : List UInt8) : Prop where
  lx : Lx w B pb rb ea p win rest bsp
  hend : (p.readEOF = .bool false ∧ p.readErr = .nilIface) ∨ (∃ b, p.readEOF = .bool b ∧ p.readErr = EOFv ea ∧ rest = [])
  hoffs : p.offs = .int .i64 offs
  ho1 : 0 ≤ offs
  ho2 : offs + win.length + rest.length < 100000000
  hb : bsp ≤ win.length
  hst : win.drop bsp ++ rest = u
section
variable {w w' : World} {B pb rb : Nat} {ea : Addr} {p : Pc} {win rest u : List UInt8} {bsp : Nat} {offs : Int}
theorem Md.len (h : Md w B pb rb ea p win rest bsp offs u) : u.length = win.length - bsp + rest.length := by rw [← h.hst]; simp
theorem Md.c2 (h : Md w B pb rb ea p win rest bsp offs u) : w.cell? ⟨pb, 2, none⟩ = some (.int .u64 bsp) := by rw [h.lx.hpb.c_bsp, h.lx.hbsp]
theorem Md.bs (h : Md w B pb rb ea p win rest bsp offs u) : ∃ A c, w.cell? ⟨pb, 1, none⟩ = some (.slice A win.length c) ∧ (0 < win.length → A = some ⟨pb, 39, none⟩ ∧ c = 1024) := by
  rw [h.lx.hpb.c_bs]
  rcases h.lx.hbs with h1 | ⟨h1, h2⟩
  · rw [h1]; exact ⟨_, _, rfl, fun _ => ⟨rfl, rfl⟩⟩
  · rw [h1, h2]; exact ⟨none, 0, rfl, fun h => absurd h (by simp)⟩
theorem Lx.byte {w : World} {B pb rb : Nat} {ea : Addr} {p : Pc} {win rest : List UInt8} {bsp : Nat} (h : Lx w B pb rb ea p win rest bsp) (j : Nat) (c : UInt8) (hj : win[j]? = some c) : w.cell? ⟨pb, 39 + j, none⟩ = some (By c) := by
  have hlt : j < win.length := (List.getElem?_eq_some_iff.1 hj).1
  have hf := h.hfit
  rw [h.hpb.buf j (by omega)]
  have : p.readBuf[j]? = (p.readBuf.take win.length)[j]? := by rw [List.getElem?_take, if_pos hlt]
  rw [this, h.hbuf]
  simp [Bys, hj]
/-- The next byte lies in the window. -/
theorem Md.at_ (h : Md w B pb rb ea p win rest bsp offs u) (j : Nat) (hj : bsp + j < win.length) : ∃ x, u[j]? = some x ∧ win[bsp + j]? = some x ∧ w.cell? ⟨pb, 39 + (bsp + j), none⟩ = some (.int .u8 x.toNat) := by
  refine ⟨win[bsp + j], ?_, List.getElem?_eq_getElem hj, h.lx.byte (bsp + j) _ (List.getElem?_eq_getElem hj)⟩
  rw [← h.hst, List.getElem?_append_left (by simp; omega), List.getElem?_drop, List.getElem?_eq_getElem hj]
theorem Lx.keptB {w w' : World} {B pb rb : Nat} {ea : Addr} {p q : Pc} {win rest : List UInt8} {bsp bsp' : Nat} (h : Lx w B pb rb ea p win rest bsp) (k : Kb B pb w w') (hB : 0 < B) (hp : PB w' pb q) (e1 : q.src = p.src) (e2 : q.bs = p.bs) (e3 : q.readBuf = p.readBuf) (e4 : q.bsp = .int .u64 bsp') : Lx w' B pb rb ea q win rest bsp' := by
  obtain ⟨S, k1, k2⟩ := k
  refine { hpb := hp, hsrc := e1.trans h.hsrc, hbs := by rw [e2]; exact h.hbs, hbuf := by rw [e3]; exact h.hbuf, hfit := h.hfit, hbsp := e4, hrd := h.hrd.kept k1 k2 h.hne, hne := h.hne, hlt := h.hlt, heof := ?_, hg1 := h.hg1, hg2 := h.hg2 }
  have hlt := h.hlt
  exact (k1.cell (p := ⟨0, 0, none⟩) (block_lt_of_cell h.heof) (fun hm => by
    have hm2 : (0 : Nat) ∈ S := hm
    rcases k2 _ hm2 with h1 | h1
    · exact h.hg1 h1.symm
    · omega)).trans h.heof
/-- Other cells of the parser have been stored into, and the window's place may have moved by k. -/
theorem Md.step (h : Md w B pb rb ea p win rest bsp offs u) (k : Kb B pb w w') (hB : 0 < B) {q : Pc} (hp : PB w' pb q) (n : Nat) (hn : bsp + n ≤ win.length) (e1 : q.src = p.src) (e2 : q.bs = p.bs) (e3 : q.readBuf = p.readBuf) (e4 : q.bsp = .int .u64 ((bsp + n : Nat) : Int)) (e5 : q.readEOF = p.readEOF) (e6 : q.readErr = p.readErr) (e7 : q.offs = p.offs) : Md w' B pb rb ea q win rest (bsp + n) offs (u.drop n) := by
  refine ⟨h.lx.keptB k hB hp e1 e2 e3 e4, by rw [e5, e6]; exact h.hend, by rw [e7]; exact h.hoffs, h.ho1, h.ho2, hn, ?_⟩
  rw [← h.hst, List.drop_append_of_le_length (by simp; omega), List.drop_drop]
theorem Md.draws (h : Md w B pb rb ea p win rest bsp offs u) (n : Nat) : Md (w.drewN n) B pb rb ea p win rest bsp offs u :=
  { h with lx := { h.lx with hpb := h.lx.hpb.drewN n, hrd := h.lx.hrd.kept (S := []) ((Kept.refl _ _).drewN n) (by simp) h.lx.hne, heof := h.lx.heof } }
end

/-- fill, when the window is used up (or nearly so): it returns 0 exactly when the input is at its end. -/
theorem fill_md {w : World} {B pb rb : Nat} {ea : Addr} {p : Pc} {win rest u : List UInt8} {bsp : Nat} {offs : Int} (h : Md w B pb rb ea p win rest bsp offs u) (r : Int) (hr : p.r = .int .i32 r) (hr' : r ≠ 1114112) (hl : win.length - bsp < 1024) :
    Calls Tryf.prog 26 #[.pointer (some ⟨pb, 0, none⟩)] w fun e w' => (∃ n : Nat, e = .returned (.int .i64 n) ∧ (n = 0 ↔ rest = [])) ∧ Kept [rb, pb] w w' ∧
      ∃ p' win' rest' bsp' offs', Md w' B pb rb ea p' win' rest' bsp' offs' u ∧ p'.side = p.side ∧ win'.length - bsp' = min 1024 u.length := by
  have hlen := h.len
  have hfit := h.lx.hfit
  have ho2 := h.ho2
  have ho1 := h.ho1
  have hb := h.hb
  rcases h.hend with ⟨he, hre⟩ | ⟨_ | _, he, hre, hrest⟩
  · by_cases hrest : rest = []
    · have core : Calls Tryf.prog 26 #[.pointer (some ⟨pb, 0, none⟩)] w (EofPost w B pb rb ea p win bsp offs false) := by
        by_cases h0 : win.length ≤ bsp
        · exact fill_eof_none w B pb rb ea p win rest bsp r offs h.lx hr hr' he hre h.hoffs h.ho1 (by omega) h.hb hl hrest h0
        · exact fill_eof_left w B pb rb ea p win rest bsp r offs h.lx hr hr' he hre h.hoffs h.ho1 (by omega) h.hb hl hrest (by omega)
      refine core.mono ?_
      rintro e w' ⟨rfl, ⟨b, hlx⟩, hk⟩
      refine ⟨⟨0, rfl, by simp [hrest]⟩, hk, _, _, _, _, _, ⟨hlx, .inr ⟨_, rfl, rfl, rfl⟩, rfl, by omega, ?_, by simp, ?_⟩, rfl, by rw [hrest] at hlen; simp at hlen ⊢; omega⟩
      · simp; omega
      · have := h.hst; rw [hrest] at this; simpa using this
    · refine (fill_go w B pb rb ea p win rest bsp r offs h.lx hr hr' he hre h.hoffs h.ho1 (by omega) h.hb hl hrest).mono ?_
      rintro e w' ⟨rfl, ⟨b, hlx⟩, hk⟩
      have hpos : 0 < rest.length := List.length_pos_iff.2 hrest
      refine ⟨⟨_, rfl, by simp [hrest]; omega⟩, hk, _, _, _, _, _, ⟨hlx, .inl ⟨he, rfl⟩, rfl, by omega, ?_, by simp, ?_⟩, ?_, ?_⟩
      · simp; omega
      · have := h.hst; simpa [List.append_assoc] using this
      · simp [Pc.side]
      · simp; omega
  · have core : Calls Tryf.prog 26 #[.pointer (some ⟨pb, 0, none⟩)] w (EofPost w B pb rb ea p win bsp offs true) := by
      by_cases h0 : win.length ≤ bsp
      · exact fill_re_none w B pb rb ea p win rest bsp r offs h.lx hr hr' he hre h.hoffs h.ho1 (by omega) h.hb hl hrest h0
      · exact fill_re_left w B pb rb ea p win rest bsp r offs h.lx hr hr' he hre h.hoffs h.ho1 (by omega) h.hb hl hrest (by omega)
    refine core.mono ?_
    rintro e w' ⟨rfl, ⟨b, hlx⟩, hk⟩
    refine ⟨⟨0, rfl, by simp [hrest]⟩, hk, _, _, _, _, _, ⟨hlx, .inr ⟨_, rfl, rfl, rfl⟩, rfl, by omega, ?_, by simp, ?_⟩, ?_, by rw [hrest] at hlen; simp at hlen ⊢; omega⟩
    · simp; omega
    · have := h.hst; rw [hrest] at this; simpa using this
    · rfl
  · refine (fill_off w pb p h.lx.hpb he).mono ?_
    rintro e w' ⟨rfl, rfl⟩
    exact ⟨⟨0, rfl, by simp [hrest]⟩, Kept.refl _ _, p, win, rest, bsp, offs, h, rfl, by rw [hrest] at hlen; simp at hlen; omega⟩

/-- The literal that is being gathered: none, or l: in the parser's own buffer, or in a row from B on. -/
def Lt (w : World) (B pb : Nat) (p : Pc) : Option (List UInt8) → Prop
  | none => p.litBs = nilS
  | some l => (p.litBs = .slice (some ⟨pb, 1063, none⟩) l.length 1024 ∧ l.length ≤ 1024 ∧ p.litBuf.take l.length = Bys l) ∨ ∃ g cap, p.litBs = .slice (some ⟨g, 0, none⟩) l.length cap ∧ Own w (.slice (some ⟨g, 0, none⟩) l.length cap) l ∧ B ≤ g
theorem Lt.kept {w w' : World} {B pb : Nat} {p q : Pc} {lit : Option (List UInt8)} {S : List Nat} (h : Lt w B pb p lit) (k : Kept S w w') (hS : ∀ x ∈ S, x < B) (e1 : q.litBs = p.litBs) (e2 : q.litBuf = p.litBuf) : Lt w' B pb q lit := by
  cases lit with
  | none => exact e1.trans h
  | some l =>
    rcases h with ⟨h1, h2, h3⟩ | ⟨g, cap, h1, h2, h3⟩
    · exact .inl ⟨e1.trans h1, h2, by rw [e2]; exact h3⟩
    · exact .inr ⟨g, cap, e1.trans h1, h2.kept k (fun x hx hm => by cases hx; have h4 : g < B := hS g hm; omega), h3⟩
theorem PB.spliceL {w : World} {pb : Nat} {p : Pc} (h : PB w pb p) (o : Nat) (cs : List Value) (ho : o + cs.length ≤ 1024) :
    PB (w.setRow pb (p.list.take (1063 + o) ++ cs ++ p.list.drop (1063 + o + cs.length)).toArray) pb { p with litBuf := p.litBuf.take o ++ cs ++ p.litBuf.drop (o + cs.length) } := by
  have h0 : p.head.length = 39 := rfl
  have h1 := h.rb
  have h2 := h.lb
  refine ⟨?_, h.rb, by simp; omega⟩
  rw [setRow_heap w pb _ _ _ _ h.heap]
  congr 3
  have h3 : (p.head ++ p.readBuf).length = 1063 := by rw [List.length_append]; omega
  have e : p.list = (p.head ++ p.readBuf) ++ (p.litBuf ++ [p.litBs]) := by simp [Pc.list, List.append_assoc]
  have e2 : ({ p with litBuf := p.litBuf.take o ++ cs ++ p.litBuf.drop (o + cs.length) } : Pc).list = (p.head ++ p.readBuf) ++ ((p.litBuf.take o ++ cs ++ p.litBuf.drop (o + cs.length)) ++ [p.litBs]) := by simp [Pc.list, Pc.head, List.append_assoc]
  rw [e2, e, List.take_append, List.drop_append, List.take_of_length_le (l := p.head ++ p.readBuf) (by omega), List.drop_of_length_le (i := 1063 + o + cs.length) (l := p.head ++ p.readBuf) (by omega), h3]
  rw [show 1063 + o - 1063 = o by omega, show 1063 + o + cs.length - 1063 = o + cs.length by omega, List.take_append_of_le_length (by omega), List.drop_append_of_le_length (by omega)]
  simp [List.append_assoc]

/-- append(p.litBs, x). -/
theorem lit_run {w : World} {B pb : Nat} {p : Pc} {l : List UInt8} (h : Lt w B pb p (some l)) (hp : PB w pb p) (hlt : pb < B) (hB : B ≤ w.heap.size) (ty : TypeId) (a : Addr) (m c : Nat) (y : List UInt8) (hy : y.length = m) (hm : 0 < m) (hc : ∀ j x, y[j]? = some x → w.cell? (a.add j) = some (By x)) (hlim : l.length + m ≤ 100000000000) :
    ∃ v w' p', (Builtin.append_ #[22, 22] ty #[p.litBs, .slice (some a) m c]).run Tryf.prog w = .ok v w' ∧ PB w' pb p' ∧ (∃ lb, p' = { p with litBuf := lb }) ∧ Lt w' B pb { p' with litBs := v } (some (l ++ y)) ∧ Kb B pb w w' := by
  rcases h with ⟨h1, h2, h3⟩ | ⟨g, cap, h1, h2, h3⟩
  · obtain ⟨i, hi, hz, hs, hby⟩ := u8_info
    have hnl : (Bys y).length = m * i.size := by rw [hs, Bys_length, hy, Nat.mul_one]
    have hnews : ∀ j u, (Bys y)[j]? = some u → w.cell? (a.add j) = some u := by
      intro j u hu
      simp only [Bys, List.getElem?_map, Option.map_eq_some_iff] at hu
      obtain ⟨x, hx, rfl⟩ := hu
      exact hc j x hx
    have hcl : ∀ j u, (Bys l)[j]? = some u → w.cell? ((⟨pb, 1063, none⟩ : Addr).add j) = some u := by
      intro j u hu
      have hj : j < l.length := by have := (List.getElem?_eq_some_iff.1 hu).1; simpa using this
      rw [addr_add, hp.lit j (by omega), ← hu, ← h3, List.getElem?_take, if_pos hj]
    by_cases hroom : l.length + m ≤ 1024
    · have hst := run_storeCells_at Tryf.prog pb (1063 + l.length) 59 (Bys y) 0 p.list.toArray w hp.heap (by
        have q1 := hp.rb; have q2 := hp.lb; have q3 : p.head.length = 39 := rfl
        rw [Bys_length]; simp [Pc.list]; omega) (Bys_one _)
      have hf := run_firstCells_some (P := Tryf.prog) w i.size m a m c (Bys y) hnl hnews
      simp only [Nat.add_zero] at hst
      have hsp := hp.spliceL l.length (Bys y) (by rw [Bys_length, hy]; exact hroom)
      refine ⟨.slice (some ⟨pb, 1063, none⟩) (l.length + m) 1024, _, _, ?_, hsp, ⟨_, rfl⟩, .inl ⟨by rw [List.length_append, hy], by rw [List.length_append, hy]; exact hroom, ?_⟩, Kb.of (S := [pb]) ((Kept.refl _ _).setRow (by simp) _) (by simp)⟩
      · have hadd : (⟨pb, 1063, none⟩ : Addr).add (l.length * i.size) = ⟨pb, 1063 + l.length, none⟩ := by rw [addr_add, hs, Nat.mul_one]
        rw [h1]
        simp [Builtin.append_, run_underlying u8_und, sizeOf, typeInfo, hi, Builtin.lenOf, hroom, hf, hadd, hst]
      · show (p.litBuf.take l.length ++ Bys y ++ p.litBuf.drop (l.length + (Bys y).length)).take (l ++ y).length = Bys (l ++ y)
        rw [h3, show Bys (l ++ y) = Bys l ++ Bys y by simp [Bys]]
        exact List.take_left' (by simp)
    · have hr := run_append_grow (P := Tryf.prog) w 22 ty 5 i (.int .u8 0) u8_und hi hz ⟨pb, 1063, none⟩ l.length 1024 (Bys l) (by rw [hs, Bys_length, Nat.mul_one]) hcl a m c (Bys y) hnl hnews (by omega) (by omega) (growslice_fits (by omega) (by rw [hby]; omega))
      have hge := grownCap_ge w (l.length + m) 1024 5
      have hcm := grownCap_le_maxLen w (l.length + m) 1024 5 (by unfold maxLen; omega)
      have hk : Kept [] w (w.drew.alloc (.cells ((Bys l).toArray ++ (Bys y).toArray ++ Builtin.zeroCells (Value.int .u8 0).cells (grownCap w (l.length + m) 1024 5 - (l.length + m))) 5)) := ((Kept.refl _ _).drew).alloc _
      refine ⟨_, _, p, by rw [h1]; exact hr, hp.kept hk (by simp), ⟨p.litBuf, rfl⟩, .inr ⟨w.heap.size, _, by rw [List.length_append, hy], ?_, hB⟩, Kb.of hk (by simp)⟩
      refine ⟨by rw [Bys_length, Nat.mul_one], .inr ⟨w.heap.size, _, _, rfl, Nat.zero_le _, heap_alloc_new w.drew _, by rw [List.length_append, hy]; exact hge, hcm, ?_, ?_⟩⟩
      · simp only [Array.size_append, List.size_toArray, size_zeroCells, Bys_length, hy, Nat.mul_one]
        have : (Value.int .u8 0).cells.size = 1 := rfl
        rw [this]
        omega
      · simp only [Array.toList_append, Nat.mul_one]
        rw [show Bys (l ++ y) = Bys l ++ Bys y by simp [Bys]]
        exact List.take_left' (by simp)
  · obtain ⟨g', cap', w', hr, ho, hn, hk⟩ := app_run h2 ty a m c y hy hm hc (by omega)
    have hg' : B ≤ g' := by
      rcases hn with e | e
      · cases e; exact h3
      · omega
    have hS : ∀ x ∈ (Value.slice (some ⟨g, 0, none⟩) l.length cap).ownBlock.toList, B ≤ x := by
      intro x hx
      simp only [Value.ownBlock, Option.mem_toList, Option.some.injEq] at hx
      omega
    refine ⟨_, w', p, by rw [h1]; exact hr, hp.kept hk (fun hm => by have := hS _ hm; omega), ⟨p.litBuf, rfl⟩, .inr ⟨g', cap', by rw [List.length_append, hy], by rw [List.length_append, hy]; exact ho, hg'⟩, Kb.of hk (fun x hx => .inr (hS x hx))⟩
/-- The same, where the bytes lie in a block that has just been made. -/
theorem wpList_lit {w : World} {ops : Array Oper} {rest : List Oper} {o : Oper} {a : Act} {Q : Exit → Act → World → Prop} (hgd : o.guard = none) (s x : Operand)
    (ho : o.op = .call { callee := .builtin .append, args := #[s, x], argTypes := #[22, 22] })
    {B pb : Nat} {p : Pc} {l : List UInt8} (h : Lt w B pb p (some l)) (hp : PB w pb p) (hlt : pb < B) (hB : B ≤ w.heap.size) (hs : a.eval s = p.litBs) (cs : Array Value) (y : UInt8) (N : Nat) (hN : w.heap.size = N) (hx : a.eval x = .slice (some ⟨N, 0, none⟩) 1 1) (hcs : cs = #[.int .u8 y.toNat]) (hlim : l.length + 1 ≤ 100000000000)
    (hw : ∀ A n c w' p', PB w' pb p' → (∃ lb, p' = { p with litBuf := lb }) → Lt w' B pb { p' with litBs := .slice (some A) n c } (some (l ++ [y])) → Kb B pb w w' → wpList Tryf.prog ops Q rest (a.put o.dst (.slice (some A) n c)) w') : wpList Tryf.prog ops Q (o :: rest) a (w.alloc (.cells cs 5)) := by
  subst hN
  refine wpList_plain hgd fun K hK => ?_
  have hk : Kept [] w (w.alloc (.cells cs 5)) := (Kept.refl _ _).alloc _
  have hb := heap_alloc_new w (.cells cs 5)
  have hcs2 : cs = (Bys [y]).toArray := hcs
  rw [hcs2] at hb
  obtain ⟨v, w', p', hr, h1, h2, h3, h4⟩ := lit_run (h.kept hk (by simp) rfl rfl) (hp.kept hk (by simp)) hlt (Nat.le_trans hB hk.size) o.type ⟨w.heap.size, 0, none⟩ 1 1 [y] rfl (by omega) (fun j z hj => by
    rw [addr_add, Nat.zero_add, hcs2, row_cell hb]; unfold Bys; rw [List.getElem?_map, hj]; rfl) hlim
  unfold Oper.wp execOp
  simp only [ho, resolve, invoke, builtin, Sem.run_bind, Sem.run_pure, Result.andThen_ok, List.map_toArray, List.map_cons, List.map_nil, hs, hx, hr]
  obtain ⟨A, n, c, rfl⟩ : ∃ A n c, v = .slice (some A) n c := by
    rcases h3 with ⟨a1, _, _⟩ | ⟨g, cap, a1, _, _⟩
    · exact ⟨_, _, _, a1⟩
    · exact ⟨_, _, _, a1⟩
  exact hK _ _ (hw A n c w' p' h1 h2 h3 ((Kb.of hk (by simp)).trans h4))
end Go.Proofs.YtnjaeooblfihbaaFmt
