/-
  FnAdvanceLitReIgnoresTextAfterStop: every input; ZZlexRegexp (a fresh parser in the state of a regular expression), zzHasBslNL.
-/
import Derived.Test.YtnjaeooblfihbaaFmtVu
import Derived.Test.YtnjaeooblfihbaaFmtVn
import Derived.Handy
namespace Go.Proofs.YtnjaeooblfihbaaFmt
open Go.RowKit

theorem newreader (w : World) (A : Option Addr) (n c : Nat) :
    Calls Tryf.prog 21 #[.slice A n c] w fun e w' => e = .returned (.pointer (some ⟨w.heap.size, 0, none⟩)) ∧ w' = w.alloc (.cells #[.slice A n c, .int .i64 0, .int .i64 (-1)] 73) := by
  go_enter Tryf.func21, Tryf.ntmps21
  go_wp2
  go_ret
  exact ⟨rfl, rfl⟩

theorem Tabs.kept {w w' : World} {S : List Nat} (h : Tabs w) (k : Kept S w w') (hS : ∀ x ∈ S, w.heap.size ≤ x) : Tabs w' := by
  refine ⟨fun c hc => ?_, fun i hi => ⟨?_, ?_⟩⟩
  · have h1 := h.1 c hc
    have := block_lt_of_cell h1
    exact (k.cell this (fun hm => by have := hS _ hm; omega)).trans h1
  · have h1 := (h.2 i hi).1
    have := block_lt_of_cell h1
    exact (k.cell this (fun hm => by have := hS _ hm; omega)).trans h1
  · have h1 := (h.2 i hi).2
    have := block_lt_of_cell h1
    exact (k.cell this (fun hm => by have := hS _ hm; omega)).trans h1

/-- A fresh lexer. -/
theorem start_l {w w2 : World} {A : Option Addr} {n c : Nat} {l : List UInt8} {pb rb : Nat} {ea : Addr} {p : Pc} (hs : SrcB w A n l) (hn : n < 10000000) (hc : n ≤ c) (hg : w.cell? ⟨0, 0, none⟩ = some (EOFv ea)) (hT : Tabs w)
    (hp : PB w2 pb p) (h0 : p.src = .iface 38 (.pointer (some ⟨rb, 0, none⟩))) (h1 : p.bs = nilS) (h2 : p.bsp = .int .u64 0) (h3 : p.r = .int .i32 0) (h4 : p.w = .int .i64 0) (h5 : p.line = .int .i64 1) (h6 : p.col = .int .i64 0) (h7 : p.openBquotes = .int .i64 0) (h8 : p.readEOF = .bool false) (h9 : p.readErr = .nilIface) (h10 : p.offs = .int .i64 0) (h11 : p.litBs = nilS)
    (hr : w2.heap[rb]? = some (.cells #[.slice A n c, .int .i64 0, .int .i64 (-1)] 73 (0, 0))) (g1 : w.heap.size ≤ pb) (g2 : w.heap.size ≤ rb) (g3 : pb ≠ rb) (hk : Kept [] w w2) :
    LexL w2 w2.heap.size pb rb ea p 0 l none 0 := by
  have hgl : 0 < w.heap.size := block_lt_of_cell hg
  have hl1 := hs.1
  have hz := hk.size
  have hmd : Md w2 w2.heap.size pb rb ea p [] l 0 0 l := by
    refine ⟨{ hpb := hp, hsrc := h0, hbs := .inr ⟨h1, rfl⟩, hbuf := rfl, hfit := by simp, hbsp := h2, hrd := ?_, hne := g3, hlt := hp.lt, heof := (hk.cell (p := ⟨0, 0, none⟩) hgl (by simp)).trans hg, hg1 := by omega, hg2 := by omega }, .inl ⟨h8, h9⟩, h10, by omega, by simp; omega, by simp, by simp⟩
    refine ⟨A, n, c, 0, -1, l, hr, hl1, fun hq => ?_, by omega, hc, by omega, rfl, heap_lt hr, Nat.le_refl _⟩
    obtain ⟨g, o', rfl, hg1, hcc⟩ := hs.2 hq
    exact ⟨g, o', rfl, by omega, by omega, by omega, fun j x hj => (hk.cell (p := ⟨g, o' + j, none⟩) hg1 (by simp)).trans (hcc j x hj)⟩
  refine ⟨p, 0, 1, 0, rfl, h3, h4, h5, h6, h7, by omega, by omega, by omega, by omega, by omega, by omega, by omega, hp.lt, heap_lt hr, Nat.le_refl _, h11, (fun l hl => by cases hl), ?_, .inl ⟨by decide, [], l, 0, 0, hmd⟩⟩
  rintro w' ⟨S, kS, hS⟩
  exact hT.kept ((hk.weaken (S' := S) (by simp)).trans kS) (fun x hx => by rcases hS x hx with h | h | h <;> omega)

theorem SrcB.keep1 {w w' : World} {A : Option Addr} {n : Nat} {l : List UInt8} (h : SrcB w A n l) (k : Kept [] w w') : SrcB w' A n l := ⟨h.1, fun h0 => by
  obtain ⟨g, o, e, hg, hc⟩ := h.2 h0
  exact ⟨g, o, e, Nat.lt_of_lt_of_le hg k.size, fun j x hj => (k.cell (p := ⟨g, o + j, none⟩) hg (by simp)).trans (hc j x hj)⟩⟩

def Pc.rx (rb : Nat) : Pc := { Pc.zero with src := .iface 38 (.pointer (some ⟨rb, 0, none⟩)), line := .int .i64 1, quote := .int .u32 16384 }
set_option maxRecDepth 100000 in
theorem built_rx (rb : Nat) (d : Int) : Tryf.prog.built 59 [(0, .iface 38 (.pointer (some ⟨rb, 0, none⟩))), (13, .int .i64 1), (16, .int .u32 16384), (32, .int .i64 d)] = some ((Pc.rx rb).op d).list.toArray := by kernel_rfl
theorem wpList_parser_rx {w : World} {ops : Array Oper} {rest : List Oper} {o : Oper} {a : Act} {Q : Exit → Act → World → Prop} (hgd : o.guard = none) (x y : Operand)
    (ho : o.op = .build 59 #[(0, x), (13, .const (.int .i64 1)), (16, .const (.int .u32 16384)), (32, y)]) (rb : Nat) (d : Int) (hx : a.eval x = .iface 38 (.pointer (some ⟨rb, 0, none⟩))) (hy : a.eval y = .int .i64 d)
    (h : wpList Tryf.prog ops Q rest (a.put o.dst (.agg ((Pc.rx rb).op d).list.toArray)) w) : wpList Tryf.prog ops Q (o :: rest) a w := by
  refine wpList_plain hgd fun K hK => ?_
  have e : (Tryf.prog.built 59 ((#[(0, x), (13, .const (.int .i64 1)), (16, .const (.int .u32 16384)), (32, y)] : Array (Nat × Operand)).map fun (i, x) => (i, a.eval x)).toList) = some ((Pc.rx rb).op d).list.toArray := by
    have e2 : ((#[(0, x), (13, .const (.int .i64 1)), (16, .const (.int .u32 16384)), (32, y)] : Array (Nat × Operand)).map fun (i, x) => (i, a.eval x)).toList = [(0, .iface 38 (.pointer (some ⟨rb, 0, none⟩))), (13, .int .i64 1), (16, .int .u32 16384), (32, .int .i64 d)] := by
      simp [hx, hy]
      exact ⟨rfl, rfl⟩
    rw [e2]
    exact built_rx rb d
  refine wp_build _ _ ho (by rw [e]; rfl) (hK _ _ ?_)
  rw [e]
  exact h

theorem fresh_rx {w W : World} {A : Option Addr} {n c : Nat} {s : List UInt8} {ea : Addr} {d : Int} (hs : SrcB w A n s) (hn : n < 10000000) (hc : n ≤ c) (hg : w.cell? ⟨0, 0, none⟩ = some (EOFv ea)) (hT : Tabs w)
    (hW : W = (w.alloc (.cells #[.slice A n c, .int .i64 0, .int .i64 (-1)] 73)).alloc (.cells ((Pc.rx w.heap.size).op d).list.toArray 59)) :
    LexL W W.heap.size (w.heap.size + 1) w.heap.size ea ((Pc.rx w.heap.size).op d) 0 s none 0 ∧ Kept [] w W ∧ 0 < W.heap.size ∧ W.heap.size = w.heap.size + 2 := by
  have hk : Kept [] w W := by rw [hW]; exact ((Kept.refl _ _).alloc _).alloc _
  have hz : W.heap.size = w.heap.size + 2 := by rw [hW]; simp
  have hp : PB W (w.heap.size + 1) ((Pc.rx w.heap.size).op d) := by
    refine ⟨?_, (by unfold Pc.op Pc.rx Pc.zero; exact List.length_replicate), (by unfold Pc.op Pc.rx Pc.zero; exact List.length_replicate)⟩
    rw [hW]
    have := heap_alloc_new (w.alloc (.cells #[.slice A n c, .int .i64 0, .int .i64 (-1)] 73)) (.cells ((Pc.rx w.heap.size).op d).list.toArray 59)
    simpa using this
  have hr : W.heap[w.heap.size]? = some (.cells #[.slice A n c, .int .i64 0, .int .i64 (-1)] 73 (0, 0)) := by
    have k : Kept [] (w.alloc (.cells #[.slice A n c, .int .i64 0, .int .i64 (-1)] 73)) W := by rw [hW]; exact (Kept.refl _ _).alloc _
    exact (k.block _ (by simp) (by simp)).trans (heap_alloc_new w _)
  have hgl : 0 < w.heap.size := block_lt_of_cell hg
  exact ⟨start_l hs hn hc hg hT hp rfl rfl rfl rfl rfl rfl rfl rfl rfl rfl rfl rfl hr (by omega) (Nat.le_refl _) (by omega) hk, hk, by omega, hz⟩

theorem frame_rx {w W w3 w4 : World} {B pb rb : Nat} (k0 : Kept [] w W) (k3 : Kr B pb rb W w3) (k4 : Kr B pb rb w3 w4) (h : w.heap.size ≤ pb ∧ w.heap.size ≤ rb ∧ w.heap.size ≤ B) : Kept [] w w4 := by
  obtain ⟨S, kS, hS⟩ := k3.trans k4
  refine ((k0.weaken (S' := S) (by simp)).trans kS).weaken (fun x hx => .inr ?_)
  rcases hS x hx with e | e | e <;> omega

/-- What ZZlexRegexp answers. -/
def XPost (s : List UInt8) (R : Int × Nat × Int × Int) (w w' : World) (e : Ending) : Prop :=
  e = .returned (.tuple #[.int .u32 R.1, .string ⟨(s.take R.2.1).toArray⟩, .int .u32 R.2.2.1, .int .i64 R.2.2.2]) ∧ Kept [] w w'

set_option maxRecDepth 100000 in
set_option maxHeartbeats 3200000 in
theorem zz_re {w : World} {A : Option Addr} {n c : Nat} {s : List UInt8} {ea : Addr} {d : Int} (hs : SrcB w A n s) (hn : n < 10000000) (hc : n ≤ c) (hg : w.cell? ⟨0, 0, none⟩ = some (EOFv ea)) (hT : Tabs w) (hv : Vd s) (hnp : NoPair 13 10 s) (hnb : NoPair 92 10 s) (hd : 0 ≤ d) (hd2 : d ≤ 2000000000) :
    Calls Tryf.prog 16 #[.slice A n c, .int .i64 d] w fun e w' => XPost s (reL false s d 0) w w' e := by
  obtain ⟨R, hR⟩ : ∃ R, R = reL false s d 0 := ⟨_, rfl⟩
  rw [← hR]
  have HS := Lib.hid hs; have HG := Lib.hid hg; have HT := Lib.hid hT; have HV := Lib.hid hv; have HNP := Lib.hid hnp; have HNB := Lib.hid hnb; have HR := Lib.hid hR
  clear hs hg hT hv hnp hnb hR
  go_enter Tryf.func16, Tryf.ntmps16
  go_wp2_with (first
    | (go_at_call 21; refine (newreader _ _ _ _).mono ?_; rintro e w1 ⟨rfl, rfl⟩)
    | (refine wpList_parser_rx rfl _ _ rfl w.heap.size d rfl rfl ?_)
    | (go_at_call 22; (have hw := fresh_rx (d := d) HS.out hn hc HG.out HT.out rfl); (refine (next_l hw.1 hw.2.2.1 (by decide) HV.out HNP.out).mono ?_); rintro e w3 ⟨a, rfl, h3, k3⟩; have HSZ := Lib.hid (show w.heap.size ≤ w.heap.size + 1 ∧ w.heap.size ≤ w.heap.size ∧ w.heap.size ≤ _ from ⟨by omega, Nat.le_refl _, hw.2.1.size⟩); have H3 := Lib.hid h3; have K3 := Lib.hid k3; have KW := Lib.hid hw.2.1; have HE := Lib.hid hw.2.2.1; obtain ⟨_, _, _, hlx, _⟩ := h3.lex; obtain ⟨p3, _, _, _, _, _, hp3, _, hr3, _⟩ := hlx.upd hw.2.2.1; have c3 := hp3.c_r; rw [hr3] at c3; clear h3 k3 hw hlx hp3 hr3)
    | (go_at_call 25; (refine (adv_re H3.out HE.out rfl HNP.out HNB.out (by have := HS.out.1; omega) hd hd2).mono ?_); rintro e w4 ⟨rfl, hpost⟩; rw [← HR.out] at hpost; obtain ⟨k4, p4, hp4, t1, t2, t3, t4⟩ := hpost.out; have c10 := hp4.c_tok; rw [t1] at c10; have c11 := hp4.c_val; rw [t2] at c11; have c17 := hp4.c_quote; rw [t3] at c17; have c33 := hp4.c_rxOpenParens; rw [t4] at c33; have K4 := Lib.hid (frame_rx KW.out K3.out k4 HSZ.out); clear hpost k4 hp4 t1 t2 t3 t4 c3))
  go_quiet (fail)
  go_wp2_with fail
  go_returns
  exact ⟨rfl, by first | exact K4.out | exact K4.out.drewN _⟩

/-- It says yes or no; where no, p holds. -/
def SayZ (p : Prop) (w w' : World) (e : Ending) : Prop := ∃ b, e = .returned (.bool b) ∧ Kept [] w w' ∧ (b = false → p)
theorem SayZ.yes {p : Prop} {w w' : World} (k : Kept [] w w') : SayZ p w w' (.returned (.bool true)) := ⟨true, rfl, k, fun h => by cases h⟩
theorem SayZ.no {p : Prop} {w w' : World} (k : Kept [] w w') (h : p) : SayZ p w w' (.returned (.bool false)) := ⟨false, rfl, k, fun _ => h⟩

set_option maxRecDepth 100000 in
set_option maxHeartbeats 1600000 in
theorem zbsl {w : World} {A : Option Addr} {n c : Nat} {l : List UInt8} (h : SrcB w A n l) (hs : n ≤ 10000000) :
    Calls Tryf.prog 15 #[.slice A n c] w fun e w' => SayZ (NoPair 92 10 l) w w' e := by
  have H1 := Lib.hid h
  clear h
  go_enter Tryf.func15, Tryf.ntmps15
  go_wp2
  go_loopw [3] (fun i wr => ∃ k : Nat, k ≤ n ∧ i = .int .i64 k ∧ Hid (Kept [] w wr) ∧ Hid (∀ j, j < k → l[j]? = some 92 → l[j + 1]? ≠ some 10)) (fun i _ => n - (intOf i).toNat)
  case atStart => exact ⟨0, Nat.zero_le _, rfl, Lib.hid (Kept.refl _ _), Lib.hid (fun j hj => by omega)⟩
  case round =>
    obtain ⟨k, hk, rfl, HK, HJ⟩ := hrel
    by_cases hlt : k + 1 < n
    · have hlt2 : (k : Int) + 1 < n := by omega
      obtain ⟨g, o, rfl, hg, hc⟩ := H1.out.2 (by omega)
      obtain ⟨x, hx⟩ : ∃ x, l[k]? = some x := ⟨l[k]'(by rw [H1.out.1]; omega), List.getElem?_eq_getElem _⟩
      obtain ⟨y, hy⟩ : ∃ x, l[k + 1]? = some x := ⟨l[k + 1]'(by rw [H1.out.1]; omega), List.getElem?_eq_getElem _⟩
      have c1 := (HK.out.cell (p := ⟨g, o + k, none⟩) hg (by simp)).trans (hc k x hx)
      have c2 := (HK.out.cell (p := ⟨g, o + (k + 1), none⟩) hg (by simp)).trans (hc (k + 1) y hy)
      unfold By at c1 c2
      have c2' : wr.cell? ⟨g, o + k + 1, none⟩ = some (.int .u8 y.toNat) := by rw [Nat.add_assoc]; exact c2
      have hkn : k < n := by omega
      by_cases h92 : x = 92
      · subst h92
        have c1' : wr.cell? ⟨g, o + k, none⟩ = some (.int .u8 92) := c1
        by_cases h10 : y = 10
        · subst h10
          have c2'' : wr.cell? ⟨g, o + k + 1, none⟩ = some (.int .u8 10) := c2'
          have c2b : wr.cell? ⟨g, o + (k + 1), none⟩ = some (.int .u8 10) := c2
          clear c2 c2'
          clear hc hx hy c1
          go_wp2
          try (go_quiet (fail); go_wp2)
          go_returns
          exact SayZ.yes (by first | exact HK.out | exact HK.out.trans ((Kept.refl _ _).drewN _) | exact HK.out.drew)
        · have hne : ((y.toNat : Int) == 10) = false := by
            have : ¬ y.toNat = 10 := fun e => h10 (UInt8.toNat_inj.1 e)
            simp; omega
          have HJ2 := Lib.hid (show ∀ j, j < k + 1 → l[j]? = some 92 → l[j + 1]? ≠ some 10 from fun j b => by
            rcases Nat.lt_or_ge j k with q | q
            · exact HJ.out j q
            · obtain rfl : j = k := by omega
              intro _
              rw [hy]
              exact fun e => h10 (Option.some.inj e))
          obtain ⟨Y, hY⟩ : ∃ Y : Int, Y = y.toNat := ⟨_, rfl⟩
          rw [← hY] at c2 c2' hne
          clear hc hx hy c1 hY h10
          go_wp2
          try (go_quiet (fail); go_wp2)
          go_roundw
          case rel => exact ⟨k + 1, by omega, by go_num, by first | exact HK | exact Lib.hid (HK.out.trans ((Kept.refl _ _).drewN _)) | exact Lib.hid HK.out.drew, HJ2⟩
          case measure => simp [intOf]; omega
      · have hne : ((x.toNat : Int) == 92) = false := by
          have : ¬ x.toNat = 92 := fun e => h92 (UInt8.toNat_inj.1 e)
          simp; omega
        have HJ2 := Lib.hid (show ∀ j, j < k + 1 → l[j]? = some 92 → l[j + 1]? ≠ some 10 from fun j b => by
          rcases Nat.lt_or_ge j k with q | q
          · exact HJ.out j q
          · obtain rfl : j = k := by omega
            rw [hx]
            exact fun e => absurd (Option.some.inj e) h92)
        obtain ⟨X, hX⟩ : ∃ X : Int, X = x.toNat := ⟨_, rfl⟩
        rw [← hX] at c1 hne
        clear hc hx hy c2 c2' hX h92
        go_wp2
        try (go_quiet (fail); go_wp2)
        go_roundw
        case rel => exact ⟨k + 1, by omega, by go_num, by first | exact HK | exact Lib.hid (HK.out.trans ((Kept.refl _ _).drewN _)) | exact Lib.hid HK.out.drew, HJ2⟩
        case measure => simp [intOf]; omega
    · have hlt2 : ¬ (k : Int) + 1 < n := by omega
      have hlt3 : decide ((k : Int) + 1 < n) = false := decide_eq_false hlt2
      have HN := Lib.hid (show NoPair 92 10 l from fun j h1 h2 => by
        have e := (List.getElem?_eq_some_iff.1 h2).1
        rw [H1.out.1] at e
        exact HJ.out j (by omega) h1 h2)
      go_wp2
      go_returns
      exact SayZ.no HK.out HN.out

set_option maxRecDepth 100000 in
theorem zb_re (w : World) (A1 A2 : Option Addr) (n c m d : Nat) (op : Int) (hn : n ≤ 9223372036854775807) (hm : m ≤ 9223372036854775807) :
    Calls Tryf.prog 13 #[.slice A1 n c, .slice A2 m d, .int .i64 op] w fun e w' => SayP (n + m ≤ 1048576) w w' e := by
  by_cases h1 : (1048576 : Int) < n
  · go_enter Tryf.func13, Tryf.ntmps13
    go_wp2
    go_ret
    exact SayP.no (Kept.refl _ _)
  by_cases h2 : (1048576 : Int) < m
  · go_enter Tryf.func13, Tryf.ntmps13
    go_wp2
    go_ret
    exact SayP.no (Kept.refl _ _)
  by_cases h3 : (1048576 : Int) < n + m
  · go_enter Tryf.func13, Tryf.ntmps13
    go_wp2
    go_ret
    exact SayP.no (Kept.refl _ _)
  · have hs := Lib.hid (show n + m ≤ 1048576 by omega)
    go_enter Tryf.func13, Tryf.ntmps13
    go_wp2
    go_ret
    exact SayP.yes (Kept.refl _ _) hs.out

/-- make([]byte, 0, n). -/
theorem make_0 (n : Nat) (hn : n < 1000000000) (w : World) :
    (Instr.makeSlice 22 (.int .i64 0) (.int .i64 n)).run Tryf.prog w = .ok (.slice (some ⟨w.heap.size, 0, none⟩) 0 n) (w.alloc (.cells (zs n).toArray 5)) := by
  obtain ⟨i, h1, h2, h3, h4⟩ := u8_info
  rw [run_make w _ _ i _ u8_und h1 h2 .i64 .i64 0 n (by omega) (by omega) (by rw [h4]; omega) (by omega)]
  simp [h3, made_u8]
/-- append of bytes where there is room. -/
theorem app_fit {w : World} {A : Option Addr} {g m c N r : Nat} {l p : List UInt8} (ty : TypeId) (hg : w.heap[g]? = some (.cells (Bys l ++ zs r).toArray 5 (0, 0))) (hN : N = l.length + r) (hs : SrcB w A m p) (hm : m ≤ r) :
    ∃ W, (Builtin.append_ #[22, 22] ty #[.slice (some ⟨g, 0, none⟩) l.length N, .slice A m c]).run Tryf.prog w = .ok (.slice (some ⟨g, 0, none⟩) (l.length + m) N) W ∧ W.heap[g]? = some (.cells (Bys (l ++ p) ++ zs (r - m)).toArray 5 (0, 0)) ∧ Kept [g] w W := by
  obtain ⟨i, hi, hz, h1, hby⟩ := u8_info
  by_cases h0 : m = 0
  · subst h0
    obtain rfl : p = [] := List.eq_nil_of_length_eq_zero hs.1
    refine ⟨w, ?_, by simpa using hg, Kept.refl _ _⟩
    have hle : l.length ≤ N := by omega
    cases A <;> simp [Builtin.append_, run_underlying u8_und, sizeOf, typeInfo, hi, Builtin.lenOf, Builtin.firstCells, hle, storeCells, loadCells, loadCellsFrom]
  · obtain ⟨b, o, rfl, hb, hc⟩ := hs.2 (by omega)
    have hp := hs.1
    have hnl : (Bys p).length = m * i.size := by rw [h1, Bys_length, hp, Nat.mul_one]
    have hr := run_append_room (P := Tryf.prog) w 22 ty 5 i u8_und hi g l.length N _ hg ⟨b, o, none⟩ m c (Bys p) hnl (fun j u hu => by
      simp only [Bys, List.getElem?_map, Option.map_eq_some_iff] at hu
      obtain ⟨x, hx, rfl⟩ := hu
      rw [addr_add]
      exact hc j x hx) (Bys_one _) (by omega) (by rw [h1, Bys_length, hp]; simp [Bys_length, zs]; omega)
    refine ⟨_, hr, ?_, (Kept.refl _ _).setRow (by simp) _⟩
    have e : (Bys l ++ zs r).toArray.toList.take (l.length * i.size) ++ Bys p ++ (Bys l ++ zs r).toArray.toList.drop (l.length * i.size + (Bys p).length) = Bys (l ++ p) ++ zs (r - m) := by
      rw [h1, Nat.mul_one, Bys_length, hp]
      rw [show ((Bys l ++ zs r).toArray.toList) = Bys l ++ zs r from rfl, List.take_left' (Bys_length l), List.drop_append, List.drop_of_length_le (by rw [Bys_length]; omega), Bys_length, show l.length + m - l.length = m by omega, List.nil_append]
      simp [Bys, zs]
    rw [setRow_heap w g _ _ _ _ hg, e]

theorem wpList_app_run {w w' : World} {ops : Array Oper} {rest : List Oper} {o : Oper} {a : Act} {Q : Exit → Act → World → Prop} (hgd : o.guard = none) (s x : Operand)
    (ho : o.op = .call { callee := .builtin .append, args := #[s, x], argTypes := #[22, 22] }) (v u r : Value) (hs : a.eval s = v) (hx : a.eval x = u)
    (hr : (Builtin.append_ #[22, 22] o.type #[v, u]).run Tryf.prog w = .ok r w') (h : wpList Tryf.prog ops Q rest (a.put o.dst r) w') : wpList Tryf.prog ops Q (o :: rest) a w := by
  refine wpList_plain hgd fun K hK => ?_
  unfold Oper.wp execOp
  simp only [ho, resolve, invoke, builtin, Sem.run_bind, Sem.run_pure, Result.andThen_ok, List.map_toArray, List.map_cons, List.map_nil, hs, hx, hr]
  exact hK _ _ h

set_option maxRecDepth 100000 in
set_option maxHeartbeats 1600000 in
theorem zconcat {w : World} {A1 A2 : Option Addr} {n m c d : Nat} {l1 l2 : List UInt8} (h1 : SrcB w A1 n l1) (h2 : SrcB w A2 m l2) (hn : n ≤ 10000000) (hm : m ≤ 10000000) :
    Calls Tryf.prog 14 #[.slice A1 n c, .slice A2 m d] w fun e w' => e = .returned (.slice (some ⟨w.heap.size, 0, none⟩) (n + m) (n + m)) ∧ w'.heap[w.heap.size]? = some (.cells (Bys (l1 ++ l2)).toArray 5 (0, 0)) ∧ Kept [] w w' := by
  have q1 := fun w => make_0 (n + m) (by omega) w
  have kA : Kept [] w (w.alloc (.cells (zs (n + m)).toArray 5)) := (Kept.refl _ _).alloc _
  obtain ⟨W1, q2, hW1, k1⟩ := app_fit (l := []) (N := n + m) (r := n + m) (c := c) 22 (heap_alloc_new w (.cells (zs (n + m)).toArray 5)) (by simp) (h1.keep1 kA) (by omega)
  have kB : Kept [] w W1 := ((kA.weaken (by simp)).trans k1).weaken (fun x hx => .inr (by simp at hx; omega))
  obtain ⟨W2, q3, hW2, k2⟩ := app_fit (N := n + m) (c := d) 22 hW1 (by have := h1.1; simp; omega) (h2.keep1 kB) (by omega)
  have kC : Kept [] w W2 := ((kB.weaken (by simp)).trans k2).weaken (fun x hx => .inr (by simp at hx; omega))
  have hl : ([] ++ l1).length = n := by simpa using h1.1
  rw [hl] at q3
  rw [show n + m - n - m = 0 by omega] at hW2
  have HW := Lib.hid hW2; have HK := Lib.hid kC
  simp only [List.length_nil, Nat.zero_add] at q2
  have HA1 := Lib.hid q2; have HA2 := Lib.hid q3
  clear q2 q3
  clear h1 h2 hW1 hW2 k1 k2 kA kB kC hl
  have q1' : ∀ w : World, (Instr.makeSlice 22 (.int .i64 0) (.int .i64 ((n : Int) + m))).run Tryf.prog w = .ok (.slice (some ⟨w.heap.size, 0, none⟩) 0 (n + m)) (w.alloc (.cells (zs (n + m)).toArray 5)) := fun w => by rw [← q1 w]; norm_cast
  go_enter Tryf.func14, Tryf.ntmps14
  go_wp2_with (first
    | (refine wpList_app_run rfl _ _ rfl _ _ _ rfl rfl HA1.out ?_)
    | (refine wpList_app_run rfl _ _ rfl _ _ _ rfl rfl HA2.out ?_))
  go_ret
  exact ⟨rfl, by simpa [zs] using HW.out, HK.out⟩


set_option maxRecDepth 100000 in
set_option maxHeartbeats 6400000 in
theorem law_FnAdvanceLitReIgnoresTextAfterStop {w : World} {A1 A2 : Option Addr} {n c m d : Nat} {s t : List UInt8} {op : Int} {ea : Addr} (h1 : SrcB w A1 n s) (h2 : SrcB w A2 m t) (hA1 : A1 = none → n = 0 ∧ c = 0) (hA2 : A2 = none → m = 0 ∧ d = 0) (hn : n ≤ 9223372036854775807) (hm : m ≤ 9223372036854775807) (hg : w.cell? ⟨0, 0, none⟩ = some (EOFv ea)) (hT : Tabs w) :
    Calls Tryf.prog 4 #[.slice A1 n c, .slice A2 m d, .int .i64 op] w fun e w' => e = .returned (.bool true) ∧ Kept [] w w' := by
  have HZ := Lib.hid (zb_re w A1 A2 n c m d op hn hm)
  have H1 := Lib.hid h1; have H2 := Lib.hid h2; have HA1 := Lib.hid hA1; have HA2 := Lib.hid hA2; have HG := Lib.hid hg; have HT := Lib.hid hT
  clear h1 h2 hA1 hA2 hg hT hn hm
  by_cases hnm : n + m ≤ 1048576
  · by_cases ho1 : op < 0
    · go_enter Tryf.func4, Tryf.ntmps4
      go_wp2_with (first
        | (go_at_call 13; refine HZ.out.mono ?_; rintro e w1 ⟨b, rfl, k1, hb⟩; have K1 := Lib.hid k1; clear k1 hb; cases b)
        | fail)
      all_goals (go_ret; exact ⟨rfl, K1.out⟩)
    by_cases ho2 : 1073741824 < op
    · go_enter Tryf.func4, Tryf.ntmps4
      go_wp2_with (first
        | (go_at_call 13; refine HZ.out.mono ?_; rintro e w1 ⟨b, rfl, k1, hb⟩; have K1 := Lib.hid k1; clear k1 hb; cases b)
        | fail)
      all_goals (go_ret; exact ⟨rfl, K1.out⟩)
    go_enter Tryf.func4, Tryf.ntmps4
    have HC1 := H1; have HC2 := H2
    go_wp2_with (first
      | (go_at_call 13; refine HZ.out.mono ?_; rintro e w1 ⟨b, rfl, k1, hb⟩; have K1 := Lib.hid k1; clear k1 hb; cases b)
      | (go_at_call 9; refine (zclone (HC1.out.keep1 K1.out) (by omega) HA1.out).mono ?_; clear HC1; rintro e w2 ⟨A5, rfl, s2, k2⟩; have S2 := Lib.hid s2; have K2 := Lib.hid (K1.out.trans k2); clear s2 k2)
      | (go_at_call 9; refine (zclone (HC2.out.keep1 K2.out) (by omega) HA2.out).mono ?_; clear HC2; rintro e w3 ⟨A6, rfl, s3, k3⟩; have S3 := Lib.hid s3; have T3 := Lib.hid (S2.out.keep1 k3); have K3 := Lib.hid (K2.out.trans k3); clear s3 k3)
      | (go_at_call 14; refine (zconcat T3.out S3.out (by omega) (by omega)).mono ?_; rintro e w4 ⟨rfl, r4, k4⟩; have S4 := Lib.hid (SrcB.row r4 (show (s ++ t).length = n + m by rw [List.length_append, H1.out.1, H2.out.1])); have T4 := Lib.hid (T3.out.keep1 k4); have TL := T4; have K4 := Lib.hid (K3.out.trans k4); clear r4 k4)
      | (go_at_call 7; refine (zlexable TL.out (by omega)).mono ?_; clear TL; rintro e w5 ⟨b, rfl, k5, hb⟩; have K5 := Lib.hid (K4.out.trans k5); have Q5 := Lib.hid k5; have QB := Q5; have HX1 := Lib.hid hb; clear k5 hb; cases b)
      | (go_at_call 15; refine (zbsl (T4.out.keep1 QB.out) (by omega)).mono ?_; clear QB; rintro e w6 ⟨b, rfl, k6, hb⟩; have K6 := Lib.hid (K5.out.trans k6); have Q6 := Lib.hid (Q5.out.trans k6); have HB1 := Lib.hid hb; clear k6 hb; cases b; rotate_left)
      | (go_at_call 7; refine (zlexable (S4.out.keep1 Q6.out) (by omega)).mono ?_; rintro e w7 ⟨b, rfl, k7, hb⟩; have K7 := Lib.hid (K6.out.trans k7); have Q7 := Lib.hid (Q6.out.trans k7); have HX2 := Lib.hid hb; clear k7 hb; cases b)
      | (go_at_call 15; refine (zbsl (S4.out.keep1 Q7.out) (by omega)).mono ?_; rintro e w8 ⟨b, rfl, k8, hb⟩; have K8 := Lib.hid (K7.out.trans k8); have Q8 := Lib.hid (Q7.out.trans k8); have HB2 := Lib.hid hb; clear k8 hb; cases b; rotate_left)
      | fail)
    all_goals first
      | (go_ret; exact ⟨rfl, by first | exact K8.out | exact K7.out | exact K6.out | exact K5.out | exact K1.out⟩)
      | skip
    have hx1 := HX1.out (by simp)
    have hx2 := HX2.out (by simp)
    have hgl : 0 < w.heap.size := block_lt_of_cell HG.out
    have HQ1 := Lib.hid (zz_re (d := op) (T4.out.keep1 Q8.out) (by omega) (Nat.le_refl _) ((K8.out.cell (p := ⟨0, 0, none⟩) hgl (by simp)).trans HG.out) (HT.out.kept K8.out (by simp)) hx1.1 hx1.2 (HB1.out (by simp)) (by omega) (by omega))
    obtain ⟨R, hR⟩ : ∃ R, R = reL false s op 0 := ⟨_, rfl⟩
    rw [← hR] at HQ1
    obtain ⟨r1, r2, r3, r4⟩ := R
    obtain ⟨V, hV⟩ : ∃ V : ByteArray, V = ⟨(s.take r2).toArray⟩ := ⟨_, rfl⟩
    have HQ1b : Hid (Calls Tryf.prog 16 #[.slice A5 n n, .int .i64 op] w8 fun e w' => e = .returned (.tuple #[.int .u32 r1, .string V, .int .u32 r3, .int .i64 r4]) ∧ Kept [] w8 w') := Lib.hid (by rw [hV]; exact HQ1.out)
    clear HQ1
    by_cases hq : r3 = 1
    · subst hq
      clear hx1 hx2 hR hV HB1 HB2 HX1 HX2
      go_wp2_with (go_at_call 16; refine HQ1b.out.mono ?_; rintro e w9 ⟨rfl, k9⟩; have K9 := Lib.hid (K8.out.trans k9); clear k9)
      go_ret
      exact ⟨rfl, K9.out⟩
    · have hqb : (r3 == 1) = false := by simpa using hq
      have hext := reL_ext t s false op 0 (by rw [← hR]; exact hq)
      have hle := (reL_le s false op 0).2
      rw [← hR] at hle
      have hle2 : r2 ≤ s.length := by simpa using hle
      have hV2 : V = ⟨((s ++ t).take r2).toArray⟩ := by rw [hV, List.take_append_of_le_length hle2]
      have HQ2 := Lib.hid (fun (W : World) (kW : Kept [] w8 W) => zz_re (d := op) (S4.out.keep1 (Q8.out.trans kW)) (by omega) (Nat.le_refl _) (((K8.out.trans kW).cell (p := ⟨0, 0, none⟩) hgl (by simp)).trans HG.out) (HT.out.kept (K8.out.trans kW) (by simp)) hx2.1 hx2.2 (HB2.out (by simp)) (by omega) (by omega))
      rw [hext, ← hR] at HQ2
      have HQ2b : Hid (∀ W, Kept [] w8 W → Calls Tryf.prog 16 #[.slice (some ⟨w3.heap.size, 0, none⟩) (n + m) (n + m), .int .i64 op] W fun e w' => e = .returned (.tuple #[.int .u32 r1, .string V, .int .u32 r3, .int .i64 r4]) ∧ Kept [] W w') := Lib.hid (fun W kW => by rw [hV2]; exact HQ2.out W kW)
      clear hx1 hx2 hR hV hV2 hext hle hle2 HQ2 HB1 HB2 HX1 HX2
      go_wp2_with (first
        | (go_at_call 16; refine HQ1b.out.mono ?_; clear HQ1b; rintro e w9 ⟨rfl, k9⟩; have K9 := Lib.hid (K8.out.trans k9); have Q9 := Lib.hid k9; clear k9)
        | (go_at_call 16; refine (HQ2b.out _ Q9.out).mono ?_; rintro e wa ⟨rfl, ka⟩; have KA := Lib.hid (K9.out.trans ka); clear ka)
        | fail)
      go_ret
      exact ⟨rfl, KA.out⟩
  · go_enter Tryf.func4, Tryf.ntmps4
    go_wp2_with (go_at_call 13; refine HZ.out.mono ?_; rintro e w1 ⟨b, rfl, k1, hb⟩; have K1 := Lib.hid k1; have hbf : b = false := (by cases b; rfl; exact absurd (hb rfl) hnm); subst hbf; clear k1 hb)
    go_ret
    exact ⟨rfl, K1.out⟩
end Go.Proofs.YtnjaeooblfihbaaFmt
