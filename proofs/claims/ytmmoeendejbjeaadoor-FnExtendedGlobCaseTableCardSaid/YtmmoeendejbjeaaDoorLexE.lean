/-
  peek, peekTwo: what they see, and that the unread bytes stay what they were.
-/
import Derived.Test.YtmmoeendejbjeaaDoorLexD
namespace Go.Proofs.YtmmoeendejbjeaaDoor
open Go.RowKit

/-- A parser before its first rune, in the middle of its input: 'stream' is what is still unread. -/
structure Mid (w : World) (B pb rb : Nat) (ea : Addr) (lang val : Value) (stream : List UInt8) (p : Pc) (win rest : List UInt8) (bsp : Nat) (r offs : Int) : Prop where
  lx : Lx w B pb rb ea p win rest bsp
  hr : p.r = .int .i32 r
  hr' : r ≠ 1114112
  hend : (p.readEOF = .bool false ∧ p.readErr = .nilIface) ∨ (p.readEOF = .bool true ∧ rest = [])
  hoffs : p.offs = .int .i64 offs
  ho1 : 0 ≤ offs
  ho2 : offs + win.length + rest.length < 100000000
  hb : bsp ≤ win.length
  hst : win.drop bsp ++ rest = stream
  hlang : p.lang = lang
  hval : p.val = val

def MidS (w : World) (B pb rb : Nat) (ea : Addr) (lang val : Value) (stream : List UInt8) : Prop := ∃ p win rest bsp r offs, Mid w B pb rb ea lang val stream p win rest bsp r offs

theorem Lx.kept {S : List Nat} {w w' : World} {B pb rb : Nat} {ea : Addr} {p : Pc} {win rest : List UInt8} {bsp : Nat} (h : Lx w B pb rb ea p win rest bsp) (k : Kept S w w') (hS : ∀ x ∈ S, B ≤ x) (hB : 0 < B) : Lx w' B pb rb ea p win rest bsp :=
  { h with hpb := h.hpb.kept k (fun hm => by have := hS _ hm; have := h.hlt; omega), hrd := h.hrd.kept k (fun x hx => .inr (hS x hx)) h.hne,
           heof := (k.cell (p := ⟨0, 0, none⟩) (block_lt_of_cell h.heof) (fun hm => by have h1 : B ≤ 0 := hS _ hm; omega)).trans h.heof }

theorem Mid.draws {w : World} {B pb rb : Nat} {ea : Addr} {lang val : Value} {stream : List UInt8} {p : Pc} {win rest : List UInt8} {bsp : Nat} {r offs : Int} (h : Mid w B pb rb ea lang val stream p win rest bsp r offs) (n : Nat) :
    Mid (w.drewN n) B pb rb ea lang val stream p win rest bsp r offs :=
  { h with lx := { h.lx with hpb := h.lx.hpb.drewN n, hrd := h.lx.hrd.kept (S := []) ((Kept.refl _ _).drewN n) (by simp) h.lx.hne, heof := h.lx.heof } }

/-- The window's bytes as cells. -/
theorem Lx.byte {w : World} {B pb rb : Nat} {ea : Addr} {p : Pc} {win rest : List UInt8} {bsp : Nat} (h : Lx w B pb rb ea p win rest bsp) (j : Nat) (c : UInt8) (hj : win[j]? = some c) : w.cell? ⟨pb, 39 + j, none⟩ = some (By c) := by
  have hlt : j < win.length := (List.getElem?_eq_some_iff.1 hj).1
  have hf := h.hfit
  rw [h.hpb.buf j (by omega)]
  have : p.readBuf[j]? = (p.readBuf.take win.length)[j]? := by rw [List.getElem?_take, if_pos hlt]
  rw [this, h.hbuf]
  simp [Bys, hj]

/-- fill, called when the window is used up (or nearly so). -/
theorem fill_mid {w : World} {B pb rb : Nat} {ea : Addr} {lang val : Value} {stream : List UInt8} {p : Pc} {win rest : List UInt8} {bsp : Nat} {r offs : Int} (h : Mid w B pb rb ea lang val stream p win rest bsp r offs) (hl : win.length - bsp < 1024) :
    Calls Tryd.prog 27 #[.pointer (some ⟨pb, 0, none⟩)] w fun e w' => (∃ n, e = .returned (.int .i64 n)) ∧ Kept [rb, pb] w w' ∧
      ∃ p' win' rest' bsp' offs', Mid w' B pb rb ea lang val stream p' win' rest' bsp' r offs' ∧ win'.length - bsp' = min 1024 stream.length := by
  have hlen : stream.length = win.length - bsp + rest.length := by rw [← h.hst]; simp
  have hfit := h.lx.hfit
  have ho2 := h.ho2
  have ho1 := h.ho1
  rcases h.hend with ⟨he, hre⟩ | ⟨he, hre⟩
  · by_cases hrest : rest = []
    · have core : Calls Tryd.prog 27 #[.pointer (some ⟨pb, 0, none⟩)] w (EofPost w B pb rb ea p win bsp offs false) := by
        by_cases h0 : win.length ≤ bsp
        · exact fill_eof_none w B pb rb ea p win rest bsp r offs h.lx h.hr h.hr' he hre h.hoffs h.ho1 (by omega) h.hb hl hrest h0
        · exact fill_eof_left w B pb rb ea p win rest bsp r offs h.lx h.hr h.hr' he hre h.hoffs h.ho1 (by omega) h.hb hl hrest (by omega)
      refine core.mono ?_
      rintro e w' ⟨rfl, ⟨b, hlx⟩, hk⟩
      have hb := h.hb
      refine ⟨⟨_, rfl⟩, hk, _, _, _, _, _, ⟨hlx, h.hr, h.hr', .inr ⟨rfl, rfl⟩, rfl, by omega, ?_, by simp, ?_, h.hlang, h.hval⟩, by rw [hrest] at hlen; simp at hlen ⊢; omega⟩
      · simp; omega
      · have := h.hst; rw [hrest] at this; simpa using this
    · refine (fill_go w B pb rb ea p win rest bsp r offs h.lx h.hr h.hr' he hre h.hoffs h.ho1 (by omega) h.hb hl hrest).mono ?_
      rintro e w' ⟨rfl, ⟨b, hlx⟩, hk⟩
      have hb := h.hb
      have hpos : 0 < rest.length := List.length_pos_iff.2 hrest
      refine ⟨⟨_, rfl⟩, hk, _, _, _, _, _, ⟨hlx, h.hr, h.hr', .inl ⟨he, rfl⟩, rfl, by omega, ?_, by simp, ?_, h.hlang, h.hval⟩, ?_⟩
      · simp; omega
      · have := h.hst; simpa [List.append_assoc] using this
      · simp; omega
  · refine (fill_off w pb p h.lx.hpb he).mono ?_
    rintro e w' ⟨rfl, rfl⟩
    exact ⟨⟨_, rfl⟩, Kept.refl _ _, p, win, rest, bsp, offs, h, by rw [hre] at hlen; simp at hlen; omega⟩

def hd2 : List UInt8 → UInt8 × UInt8
  | [] => (128, 128)
  | [a] => (a, 128)
  | a :: b :: _ => (a, b)

set_option maxRecDepth 100000 in
set_option maxHeartbeats 400000 in
/-- peek inside the window. -/
theorem peek_in {w : World} {B pb rb : Nat} {ea : Addr} {lang val : Value} {stream : List UInt8} {p : Pc} {win rest : List UInt8} {bsp : Nat} {r offs : Int} (h : Mid w B pb rb ea lang val stream p win rest bsp r offs) (hlt : bsp < win.length) :
    Calls Tryd.prog 24 #[.pointer (some ⟨pb, 0, none⟩)] w fun e w' => e = .returned (By (hd2 stream).1) ∧ Kept [rb, pb] w w' ∧ MidS w' B pb rb ea lang val stream := by
  have hfit := h.lx.hfit
  have c2 : w.cell? ⟨pb, 2, none⟩ = some (.int .u64 bsp) := by rw [h.lx.hpb.c_bsp, h.lx.hbsp]
  have c1 : w.cell? ⟨pb, 1, none⟩ = some (.slice (some ⟨pb, 39, none⟩) win.length 1024) := by
    rw [h.lx.hpb.c_bs]
    rcases h.lx.hbs with h1 | ⟨h1, h2⟩
    · rw [h1]; rfl
    · rw [h2] at hlt; simp at hlt
  obtain ⟨x, hx⟩ : ∃ x, win[bsp]? = some x := ⟨_, List.getElem?_eq_getElem hlt⟩
  have cx := h.lx.byte bsp x hx
  have hhd : (hd2 stream).1 = x := by
    rw [← h.hst, List.drop_eq_getElem_cons hlt]
    have : win[bsp] = x := (List.getElem?_eq_some_iff.1 hx).2
    rw [this]
    cases hq : (List.drop (bsp + 1) win ++ rest) <;> simp [hd2, hq]
  rw [hhd]
  unfold By at *
  have HH := Lib.hid h
  have hw1 : IntKind.i64.wrap (bsp : Int) = bsp := IntWalk.i64_in _ (by omega)
  have hnl : decide (win.length ≤ bsp) = false := by simp; omega
  clear h hhd hx
  go_enter Tryd.func24, Tryd.ntmps24
  go_wp2
  go_quiet (fail)
  go_wp2
  go_quiet (fail)
  go_wp2
  go_quiet (fail)
  go_wp2
  go_ret
  refine ⟨rfl, (((Kept.refl _ _).drewN _).drewN _).drewN _, _, _, _, _, _, _, ((HH.out.draws _).draws _).draws _⟩

theorem Mid.bs_in {w : World} {B pb rb : Nat} {ea : Addr} {lang val : Value} {stream : List UInt8} {p : Pc} {win rest : List UInt8} {bsp : Nat} {r offs : Int} (h : Mid w B pb rb ea lang val stream p win rest bsp r offs) :
    ∃ A c, w.cell? ⟨pb, 1, none⟩ = some (.slice A win.length c) ∧ (0 < win.length → A = some ⟨pb, 39, none⟩) := by
  rw [h.lx.hpb.c_bs]
  rcases h.lx.hbs with h1 | ⟨h1, h2⟩
  · rw [h1]; exact ⟨_, _, rfl, fun _ => rfl⟩
  · rw [h1, h2]; exact ⟨none, 0, rfl, fun h => absurd h (by simp)⟩
theorem Mid.c2 {w : World} {B pb rb : Nat} {ea : Addr} {lang val : Value} {stream : List UInt8} {p : Pc} {win rest : List UInt8} {bsp : Nat} {r offs : Int} (h : Mid w B pb rb ea lang val stream p win rest bsp r offs) :
    w.cell? ⟨pb, 2, none⟩ = some (.int .u64 bsp) := by rw [h.lx.hpb.c_bsp, h.lx.hbsp]
theorem Mid.at_ {w : World} {B pb rb : Nat} {ea : Addr} {lang val : Value} {stream : List UInt8} {p : Pc} {win rest : List UInt8} {bsp : Nat} {r offs : Int} (h : Mid w B pb rb ea lang val stream p win rest bsp r offs) (j : Nat) (hj : bsp + j < win.length) :
    ∃ x, stream[j]? = some x ∧ w.cell? ⟨pb, 39 + (bsp + j), none⟩ = some (.int .u8 x.toNat) := by
  refine ⟨win[bsp + j], ?_, h.lx.byte (bsp + j) _ (List.getElem?_eq_getElem hj)⟩
  rw [← h.hst, List.getElem?_append_left (by simp; omega), List.getElem?_drop, List.getElem?_eq_getElem hj]
theorem Mid.len {w : World} {B pb rb : Nat} {ea : Addr} {lang val : Value} {stream : List UInt8} {p : Pc} {win rest : List UInt8} {bsp : Nat} {r offs : Int} (h : Mid w B pb rb ea lang val stream p win rest bsp r offs) :
    stream.length = win.length - bsp + rest.length := by rw [← h.hst]; simp

theorem hd2_fst {l : List UInt8} {x : UInt8} (h : l[0]? = some x) : (hd2 l).1 = x := by
  match l, h with
  | [a], h => simpa [hd2] using h
  | a :: b :: l, h => simpa [hd2] using h
theorem hd2_snd {l : List UInt8} {x : UInt8} (h : l[1]? = some x) : (hd2 l).2 = x := by
  match l, h with
  | a :: b :: l, h => simpa [hd2] using h
theorem hd2_fst0 {l : List UInt8} (h : l.length = 0) : (hd2 l).1 = 128 := by
  obtain rfl := List.eq_nil_of_length_eq_zero h
  rfl
theorem hd2_snd0 {l : List UInt8} (h : l.length ≤ 1) : (hd2 l).2 = 128 := by
  match l, h with
  | [], h => rfl
  | [a], h => rfl

set_option maxRecDepth 100000 in
set_option maxHeartbeats 400000 in
/-- peek when the window is used up. -/
theorem peek_out {w : World} {B pb rb : Nat} {ea : Addr} {lang val : Value} {stream : List UInt8} {p : Pc} {win rest : List UInt8} {bsp : Nat} {r offs : Int} (h : Mid w B pb rb ea lang val stream p win rest bsp r offs) (hlt : win.length ≤ bsp) :
    Calls Tryd.prog 24 #[.pointer (some ⟨pb, 0, none⟩)] w fun e w' => e = .returned (By (hd2 stream).1) ∧ Kept [rb, pb] w w' ∧ MidS w' B pb rb ea lang val stream := by
  have hfit := h.lx.hfit
  have hb := h.hb
  obtain ⟨A, c, c1, _⟩ := h.bs_in
  have c2 := h.c2
  have HH := Lib.hid h
  have hw1 : IntKind.i64.wrap (bsp : Int) = bsp := IntWalk.i64_in _ (by omega)
  have hnl : decide (win.length ≤ bsp) = true := by simp; omega
  have HCON := Lib.hid fun n => fill_mid (h.draws n) (by omega)
  clear h
  go_enter Tryd.func24, Tryd.ntmps24
  go_wp2
  go_quiet (fail)
  go_wp2_with (go_at_call 27; refine (HCON.out _).mono ?_; rintro e w1 ⟨⟨n1, rfl⟩, hk1, p1, win1, rest1, bsp1, offs1, hm1, hgr1⟩; have HM1 := Lib.hid hm1; have HK1 := Lib.hid hk1; have HG1 := Lib.hid hgr1; clear hm1 hk1 hgr1 c1 c2 hnl hw1)
  obtain ⟨A1, ca1, d1, hA1⟩ := HM1.out.bs_in
  have d2 := HM1.out.c2
  have hfit1 := HM1.out.lx.hfit
  have hb1 := HM1.out.hb
  have hw1 : IntKind.i64.wrap (bsp1 : Int) = bsp1 := IntWalk.i64_in _ (by omega)
  by_cases h1 : bsp1 < win1.length
  · obtain ⟨x, hx, cx⟩ := HM1.out.at_ 0 (by omega)
    obtain rfl := hA1 (by omega)
    rw [Nat.add_zero] at cx
    have hnl : decide (win1.length ≤ bsp1) = false := by simp; omega
    have HX := Lib.hid (hd2_fst hx)
    clear hx hA1
    go_wp2
    go_quiet (fail)
    go_wp2
    go_quiet (fail)
    go_wp2
    go_ret
    refine ⟨?_, ((((Kept.refl _ _).drewN _).trans HK1.out).drewN _).drewN _, _, _, _, _, _, _, (HM1.out.draws _).draws _⟩
    rw [HX.out]; rfl
  · have hnl : decide (win1.length ≤ bsp1) = true := by simp; omega
    clear hA1
    go_wp2
    go_quiet (fail)
    go_wp2
    go_ret
    refine ⟨?_, (((Kept.refl _ _).drewN _).trans HK1.out).drewN _, _, _, _, _, _, _, HM1.out.draws _⟩
    rw [hd2_fst0 (by have := HG1.out; omega)]
    rfl

theorem peek_spec {w : World} {B pb rb : Nat} {ea : Addr} {lang val : Value} {stream : List UInt8} (h : MidS w B pb rb ea lang val stream) :
    Calls Tryd.prog 24 #[.pointer (some ⟨pb, 0, none⟩)] w fun e w' => e = .returned (By (hd2 stream).1) ∧ Kept [rb, pb] w w' ∧ MidS w' B pb rb ea lang val stream := by
  obtain ⟨p, win, rest, bsp, r, offs, h⟩ := h
  rcases Nat.lt_or_ge bsp win.length with h1 | h1
  · exact peek_in h h1
  · exact peek_out h h1

set_option maxRecDepth 100000 in
set_option maxHeartbeats 400000 in
/-- peekTwo inside the window. -/
theorem peek2_in {w : World} {B pb rb : Nat} {ea : Addr} {lang val : Value} {stream : List UInt8} {p : Pc} {win rest : List UInt8} {bsp : Nat} {r offs : Int} (h : Mid w B pb rb ea lang val stream p win rest bsp r offs) (hlt : bsp + 1 < win.length) :
    Calls Tryd.prog 25 #[.pointer (some ⟨pb, 0, none⟩)] w fun e w' => e = .returned (.tuple #[By (hd2 stream).1, By (hd2 stream).2]) ∧ Kept [rb, pb] w w' ∧ MidS w' B pb rb ea lang val stream := by
  have hfit := h.lx.hfit
  have hb := h.hb
  obtain ⟨A, c, c1, hA⟩ := h.bs_in
  obtain rfl := hA (by omega)
  have c2 := h.c2
  obtain ⟨x, hx, cx⟩ := h.at_ 0 (by omega)
  obtain ⟨y, hy, cy⟩ := h.at_ 1 (by omega)
  rw [Nat.add_zero] at cx
  rw [hd2_fst hx, hd2_snd hy]
  have HH := Lib.hid h
  have hw1 : IntKind.i64.wrap (bsp : Int) = bsp := IntWalk.i64_in _ (by omega)
  have hw2 : IntKind.u64.wrap ((bsp : Int) + 1) = bsp + 1 := IntWalk.u64_in _ (by omega)
  have hw3 : IntKind.i64.wrap ((bsp : Int) + 1) = bsp + 1 := IntWalk.i64_in _ (by omega)
  have hnl : decide (win.length ≤ bsp) = false := by simp; omega
  have hnl2 : decide ((win.length : Int) ≤ (bsp : Int) + 1) = false := by simp; omega
  have hlt0 : bsp < win.length := by omega
  have e1 : ((bsp : Int) + 1).toNat = bsp + 1 := by omega
  have e2 : ¬ (bsp : Int) + 1 < 0 := by omega
  have e3 : (bsp : Int) + 1 < win.length := by omega
  clear h hx hy hA
  go_enter Tryd.func25, Tryd.ntmps25
  go_wp2
  go_quiet (fail)
  go_wp2
  go_quiet (fail)
  go_wp2
  go_quiet (fail)
  go_wp2
  go_quiet (fail)
  go_wp2
  go_ret2
  refine ⟨rfl, ((((Kept.refl _ _).drewN _).drewN _).drewN _).drewN _, _, _, _, _, _, _, (((HH.out.draws _).draws _).draws _).draws _⟩

set_option maxRecDepth 100000 in
set_option maxHeartbeats 600000 in
/-- peekTwo when the window holds one byte or none. -/
theorem peek2_out {w : World} {B pb rb : Nat} {ea : Addr} {lang val : Value} {stream : List UInt8} {p : Pc} {win rest : List UInt8} {bsp : Nat} {r offs : Int} (h : Mid w B pb rb ea lang val stream p win rest bsp r offs) (hlt : win.length ≤ bsp + 1) :
    Calls Tryd.prog 25 #[.pointer (some ⟨pb, 0, none⟩)] w fun e w' => e = .returned (.tuple #[By (hd2 stream).1, By (hd2 stream).2]) ∧ Kept [rb, pb] w w' ∧ MidS w' B pb rb ea lang val stream := by
  have hfit := h.lx.hfit
  have hb := h.hb
  obtain ⟨A, c, c1, _⟩ := h.bs_in
  have c2 := h.c2
  have HH := Lib.hid h
  have hw2 : IntKind.u64.wrap ((bsp : Int) + 1) = bsp + 1 := IntWalk.u64_in _ (by omega)
  have hw3 : IntKind.i64.wrap ((bsp : Int) + 1) = bsp + 1 := IntWalk.i64_in _ (by omega)
  have hnl2 : decide ((win.length : Int) ≤ (bsp : Int) + 1) = true := by simp; omega
  have HCON := Lib.hid fun n => fill_mid (h.draws n) (by omega)
  clear h
  go_enter Tryd.func25, Tryd.ntmps25
  go_wp2
  go_quiet (fail)
  go_wp2_with (go_at_call 27; refine (HCON.out _).mono ?_; rintro e w1 ⟨⟨n1, rfl⟩, hk1, p1, win1, rest1, bsp1, offs1, hm1, hgr1⟩; have HM1 := Lib.hid hm1; have HK1 := Lib.hid hk1; have HG1 := Lib.hid hgr1; clear hm1 hk1 hgr1 c1 c2 hnl2 hw2 hw3)
  obtain ⟨A1, ca1, d1, hA1⟩ := HM1.out.bs_in
  have d2 := HM1.out.c2
  have hfit1 := HM1.out.lx.hfit
  have hb1 := HM1.out.hb
  have hw1 : IntKind.i64.wrap (bsp1 : Int) = bsp1 := IntWalk.i64_in _ (by omega)
  have hw2 : IntKind.u64.wrap ((bsp1 : Int) + 1) = bsp1 + 1 := IntWalk.u64_in _ (by omega)
  have hw3 : IntKind.i64.wrap ((bsp1 : Int) + 1) = bsp1 + 1 := IntWalk.i64_in _ (by omega)
  have e1 : ((bsp1 : Int) + 1).toNat = bsp1 + 1 := by omega
  have e2 : ¬ (bsp1 : Int) + 1 < 0 := by omega
  by_cases h1 : bsp1 < win1.length
  · obtain ⟨x, hx, cx⟩ := HM1.out.at_ 0 (by omega)
    obtain rfl := hA1 (by omega)
    rw [Nat.add_zero] at cx
    have hnl : decide (win1.length ≤ bsp1) = false := by simp; omega
    have HX := Lib.hid (hd2_fst hx)
    by_cases h2 : bsp1 + 1 < win1.length
    · obtain ⟨y, hy, cy⟩ := HM1.out.at_ 1 (by omega)
      have HY := Lib.hid (hd2_snd hy)
      have hnl2 : decide ((win1.length : Int) ≤ (bsp1 : Int) + 1) = false := by simp; omega
      have e3 : (bsp1 : Int) + 1 < win1.length := by omega
      clear hx hA1 hy
      go_wp2
      go_quiet (fail)
      go_wp2
      go_quiet (fail)
      go_wp2
      go_quiet (fail)
      go_wp2
      go_ret2
      refine ⟨?_, (((((Kept.refl _ _).drewN _).trans HK1.out).drewN _).drewN _).drewN _, _, _, _, _, _, _, ((HM1.out.draws _).draws _).draws _⟩
      rw [HX.out, HY.out]; rfl
    · have hnl2 : decide ((win1.length : Int) ≤ (bsp1 : Int) + 1) = true := by simp; omega
      clear hx hA1
      go_wp2
      go_quiet (fail)
      go_wp2
      go_quiet (fail)
      go_wp2
      go_quiet (fail)
      go_wp2
      go_ret2
      refine ⟨?_, (((((Kept.refl _ _).drewN _).trans HK1.out).drewN _).drewN _).drewN _, _, _, _, _, _, _, ((HM1.out.draws _).draws _).draws _⟩
      rw [HX.out, hd2_snd0 (by have := HG1.out; omega)]; rfl
  · have hnl : decide (win1.length ≤ bsp1) = true := by simp; omega
    clear hA1
    go_wp2
    go_quiet (fail)
    go_wp2
    go_ret2
    refine ⟨?_, (((Kept.refl _ _).drewN _).trans HK1.out).drewN _, _, _, _, _, _, _, HM1.out.draws _⟩
    rw [hd2_fst0 (by have := HG1.out; omega), hd2_snd0 (by have := HG1.out; omega)]
    rfl

theorem peek2_spec {w : World} {B pb rb : Nat} {ea : Addr} {lang val : Value} {stream : List UInt8} (h : MidS w B pb rb ea lang val stream) :
    Calls Tryd.prog 25 #[.pointer (some ⟨pb, 0, none⟩)] w fun e w' => e = .returned (.tuple #[By (hd2 stream).1, By (hd2 stream).2]) ∧ Kept [rb, pb] w w' ∧ MidS w' B pb rb ea lang val stream := by
  obtain ⟨p, win, rest, bsp, r, offs, h⟩ := h
  rcases Nat.lt_or_ge (bsp + 1) win.length with h1 | h1
  · exact peek2_in h h1
  · exact peek2_out h h1
end Go.Proofs.YtmmoeendejbjeaaDoor
