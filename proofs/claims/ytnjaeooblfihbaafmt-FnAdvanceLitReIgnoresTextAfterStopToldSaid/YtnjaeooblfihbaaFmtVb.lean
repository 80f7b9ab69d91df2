/-
  newLit on a rune of more than one byte: the literal begins with its bytes.
-/
import Derived.Test.YtnjaeooblfihbaaFmtVa
import Derived.Deep.RegionHeldLaw
namespace Go.Proofs.YtnjaeooblfihbaaFmt
open Go.RowKit

theorem lit_run0 {w : World} {pb : Nat} {p : Pc} (hp : PB w pb p) (ty : TypeId) (a : Addr) (m c : Nat) (y : List UInt8) (hy : y.length = m) (hm : m ≤ 1024) (hc : ∀ j x, y[j]? = some x → w.cell? (a.add j) = some (By x)) :
    ∃ w' lb, (Builtin.append_ #[22, 22] ty #[.slice (some ⟨pb, 1063, none⟩) 0 1024, .slice (some a) m c]).run Tryf.prog w = .ok (.slice (some ⟨pb, 1063, none⟩) m 1024) w' ∧ PB w' pb { p with litBuf := lb } ∧ lb.take m = Bys y ∧ Kept [pb] w w' := by
  obtain ⟨i, hi, hz, hs, hby⟩ := u8_info
  have hnl : (Bys y).length = m * i.size := by rw [hs, Bys_length, hy, Nat.mul_one]
  have hnews : ∀ j u, (Bys y)[j]? = some u → w.cell? (a.add j) = some u := by
    intro j u hu
    simp only [Bys, List.getElem?_map, Option.map_eq_some_iff] at hu
    obtain ⟨x, hx, rfl⟩ := hu
    exact hc j x hx
  have hst := run_storeCells_at Tryf.prog pb (1063 + 0) 59 (Bys y) 0 p.list.toArray w hp.heap (by
    have q1 := hp.rb; have q2 := hp.lb; have q3 : p.head.length = 39 := rfl
    rw [Bys_length]; simp [Pc.list]; omega) (Bys_one _)
  have hf := run_firstCells_some (P := Tryf.prog) w i.size m a m c (Bys y) hnl hnews
  simp only [Nat.add_zero] at hst
  have hsp := hp.spliceL 0 (Bys y) (by rw [Bys_length, hy]; omega)
  refine ⟨_, _, ?_, hsp, ?_, (Kept.refl _ _).setRow (by simp) _⟩
  · have hadd : (⟨pb, 1063, none⟩ : Addr).add 0 = ⟨pb, 1063, none⟩ := by rw [addr_add]
    simp [Builtin.append_, run_underlying u8_und, sizeOf, typeInfo, hi, Builtin.lenOf, hm, hf, hadd, hst]
  · rw [List.take_zero, List.nil_append]
    exact List.take_left' (by rw [Bys_length, hy])

theorem step_lit0 {w : World} {ops : Array Oper} {o : Oper} {a : Act} {K : Act → World → Prop} {Q : Exit → Act → World → Prop} {E : Prop} (hgd : o.guard = none) (s x : Operand)
    (ho : o.op = .call { callee := .builtin .append, args := #[s, x], argTypes := #[22, 22] })
    {pb : Nat} {p : Pc} {y : List UInt8} {A : Addr} {m c : Nat} (hp : PB w pb p) (hs : a.eval s = .slice (some ⟨pb, 1063, none⟩) 0 1024) (hx : a.eval x = .slice (some A) m c) (hy : y.length = m) (hm : m ≤ 1024) (hc : ∀ j z, y[j]? = some z → w.cell? (A.add j) = some (By z))
    (hw : ∀ w' lb, PB w' pb { p with litBuf := lb } → lb.take m = Bys y → Kept [pb] w w' → K (a.put o.dst (.slice (some ⟨pb, 1063, none⟩) m 1024)) w') : if Region.wanted o (yielded ops a.tmps) = true then Oper.wp Tryf.prog o a w K Q else E := by
  have hq : Region.wanted o (yielded ops a.tmps) = true := by simp [Region.wanted, hgd]
  rw [if_pos hq]
  obtain ⟨w', lb, hr, h1, h2, h3⟩ := lit_run0 hp o.type A m c y hy hm hc
  unfold Oper.wp execOp
  simp only [ho, resolve, invoke, builtin, Sem.run_bind, Sem.run_pure, Result.andThen_ok, List.map_toArray, List.map_cons, List.map_nil, hs, hx, hr]
  exact hw w' lb h1 h2 h3

set_option maxRecDepth 100000 in
set_option maxHeartbeats 1600000 in
theorem newlit_mb {w : World} {pb : Nat} {p : Pc} (hp : PB w pb p) {bs : List UInt8} {a : Nat} (hm : MB bs a) (m n M0 L : Nat) (c2 : w.cell? ⟨pb, 2, none⟩ = some (.int .u64 m)) (c1 : w.cell? ⟨pb, 1, none⟩ = some (.slice (some ⟨pb, 39, none⟩) n 1024)) (hL : bs.length = L) (h1 : M0 + L = m) (h2 : m ≤ n) (h3 : n ≤ 1024) (hc : ∀ j x, bs[j]? = some x → w.cell? ⟨pb, 39 + M0 + j, none⟩ = some (By x)) :
    Calls Tryf.prog 34 #[.pointer (some ⟨pb, 0, none⟩), .int .i32 a] w fun e w' => e = .returned (.tuple #[]) ∧ ∃ lb, PB w' pb { p with litBs := .slice (some ⟨pb, 1063, none⟩) L 1024, litBuf := lb } ∧ lb.take L = Bys bs ∧ Kept [pb] w w' := by
  obtain ⟨m1, m2, m3, m4, m5, m6⟩ := mb_facts hm
  have hL2 := hm.1
  have HRL := Lib.hid (fun w => runelen_mb hm w)
  rw [hL] at HRL m3 hL2
  obtain ⟨a', ha'⟩ : ∃ a' : Int, a' = a := ⟨_, rfl⟩
  rw [← ha'] at HRL ⊢
  have ga : ¬ a' < 128 := by omega
  have ga2 : (a' == 1114112) = false := by simp; omega
  have ga3 : (a' == 1114113) = false := by simp; omega
  have hw1 : IntKind.u64.wrap (L : Int) = L := IntWalk.u64_in _ (by omega)
  have hw2 : IntKind.u64.wrap ((m : Int) - L) = M0 := by rw [show (m : Int) - L = M0 by omega]; exact IntWalk.u64_in _ (by omega)
  have hb1 : (M0 : Int) ≤ m := by omega
  have hb2 : (m : Int) ≤ 1024 := by omega
  have hb3 : ¬ 1024 = M0 := by omega
  have hb4 : ¬ (m : Int) < M0 := by omega
  have hb5 : ¬ M0 = 1024 := by omega
  have fz := hp.frozen
  have cl := hp.c_litBs
  have q1 := fun w => arr60_h pb .i64 0 (by omega) w
  have e1 : p.bs = .slice (some ⟨pb, 39, none⟩) n 1024 := by have := hp.c_bs; rw [c1] at this; exact (Option.some.inj this).symm
  have e2 : p.bsp = .int .u64 m := by have := hp.c_bsp; rw [c2] at this; exact (Option.some.inj this).symm
  have HE1 := Lib.hid e1; have HE2 := Lib.hid e2; have HP := Lib.hid hp; have HC := Lib.hid hc; have HL := Lib.hid hL; have HM := Lib.hid h1
  have hgp : pb < w.heap.size := hp.lt
  clear e1 e2 hp hc hL hm ha' m1 m2 m4 m5 m6 h1
  go_enter Tryf.func34, Tryf.ntmps34
  go_wp2_with (go_at_call 45; refine (HRL.out _).mono ?_; rintro e w' ⟨rfl, rfl⟩)
  have KQ := Lib.hid (Kept.refl [] w)
  go_region_held_law (fun w' => w'.cell? ⟨pb, 1, none⟩ = some (.slice (some ⟨pb, 39, none⟩) n 1024) ∧ w'.cell? ⟨pb, 2, none⟩ = some (.int .u64 m)) (first | assumption | (exact ⟨S41.out _, S42.out _⟩) | go_keep) (first | (refine step_lit0 rfl _ _ rfl (y := bs) (HP.out.kept (S := []) (by exact KQ.out.drew) (by simp)) rfl rfl (by have := HL.out; have := HM.out; omega) (by omega) (fun j z hj => by rw [addr_add]; have c0 := HC.out j z hj; exact (Kept.cell (S := []) (by exact KQ.out.drew) (p := ⟨pb, 39 + M0 + j, none⟩) hgp (by simp)).trans c0) ?_; intro w3 lb hp4 hlb hk4; have S41 := Lib.hid (show ∀ v, (w3.setCell ⟨pb, 2087, none⟩ v).cell? ⟨pb, 1, none⟩ = some (.slice (some ⟨pb, 39, none⟩) n 1024) from fun v => (hp4.s_litBs v).c_bs.trans (congrArg some HE1.out)); have S42 := Lib.hid (show ∀ v, (w3.setCell ⟨pb, 2087, none⟩ v).cell? ⟨pb, 2, none⟩ = some (.int .u64 m) from fun v => (hp4.s_litBs v).c_bsp.trans (congrArg some HE2.out)); have c41 := hp4.c_bs.trans (congrArg some HE1.out); have c42 := hp4.c_bsp.trans (congrArg some HE2.out); have cl4 := hp4.c_litBs; have fz4 := hp4.frozen; have HP4 := Lib.hid hp4; have HLB := Lib.hid hlb; have HK4 := Lib.hid hk4; clear hp4 hlb hk4))
  go_wp2_with fail
  go_end0
  have hmL : m - M0 = L := by have := HM.out; omega
  rw [hmL]
  have hlb := HLB.out
  rw [hmL] at hlb
  exact ⟨rfl, lb, HP4.out.s_litBs _, hlb, (((KQ.out.drew).weaken (by simp)).trans HK4.out).setCell (by simp) _⟩

theorem newlit_lmb {w : World} {B pb rb : Nat} {ea : Addr} {q : Pc} {bs u : List UInt8} {a : Nat} {lit : Option (List UInt8)} {k : Nat} (h : LexL w B pb rb ea q a u lit k) (hB : 0 < B) (hm : MB bs a) (hu : u.length ≤ 100000000)
    (hw : ∃ m n : Nat, w.cell? ⟨pb, 2, none⟩ = some (.int .u64 m) ∧ w.cell? ⟨pb, 1, none⟩ = some (.slice (some ⟨pb, 39, none⟩) n 1024) ∧ bs.length ≤ m ∧ m ≤ n ∧ n ≤ 1024 ∧ ∀ j x, bs[j]? = some x → w.cell? ⟨pb, 39 + (m - bs.length) + j, none⟩ = some (By x)) :
    Calls Tryf.prog 34 #[.pointer (some ⟨pb, 0, none⟩), .int .i32 a] w fun e w' => e = .returned (.tuple #[]) ∧ LexL w' B pb rb ea q a u (some bs) k ∧ Kept [pb] w w' ∧ (∃ n, w'.cell? ⟨pb, 2087, none⟩ = some (.slice (some ⟨pb, 1063, none⟩) n 1024)) := by
  obtain ⟨p, _, _, _, _, _, hp, hb, _, _, hl, _, _, b1, _, _, hll, hup⟩ := h.upd hB
  obtain ⟨m, n, c2, c1, h1, h2, h3, hc⟩ := hw
  have hb4 := (mb_facts hm).2.2.1
  refine (newlit_mb hp hm m n (m - bs.length) bs.length c2 c1 rfl (by omega) h2 h3 hc).mono ?_
  rintro e w' ⟨rfl, lb, hp', hlb, hk'⟩
  exact ⟨rfl, hup w' q _ (some bs) hp' (Kb.of hk' (by simp)) hb ⟨rfl, rfl, rfl, rfl, rfl, rfl, rfl, rfl, rfl, rfl, rfl, rfl⟩ (.inl ⟨rfl, by omega, hlb⟩) (fun l hl => by simp at hl; subst hl; omega), hk', _, hp'.c_litBs⟩
end Go.Proofs.YtnjaeooblfihbaaFmt
