/-
  fill at the end of the source, and fill when it may not read.
-/
import Derived.Test.YtnjaeooblfihbaaFmtLexC
namespace Go.Proofs.YtnjaeooblfihbaaFmt
open Go.RowKit

theorem eof_info : ∃ i, Tryf.prog.info? 107 = some i ∧ i.comparable = true := by
  have h : (Tryf.prog.info? 107).map (·.comparable) = some true := by kernel_rfl
  cases hq : Tryf.prog.info? 107 with
  | none => rw [hq] at h; cases h
  | some i => rw [hq] at h; exact ⟨i, rfl, by simpa using h⟩
theorem eof_info2 : ∃ j, Tryf.prog.info? 157 = some j := by
  have h : (Tryf.prog.info? 157).isSome = true := by kernel_rfl
  exact Option.isSome_iff_exists.1 h
theorem eof_eof (ea : Addr) (w : World) : (binOp .eql 47 (EOFv ea) (EOFv ea)).run Tryf.prog w = .ok (.bool true) w := by
  obtain ⟨i, h1, h2⟩ := eof_info
  obtain ⟨j, h3⟩ := eof_info2
  exact run_eql_iface_ptr_same w ea err_und ptr_und h1 h2 h3
theorem eof_ne_eof (ea : Addr) (w : World) : (binOp .neq 47 (EOFv ea) (EOFv ea)).run Tryf.prog w = .ok (.bool false) w := by
  obtain ⟨i, h1, h2⟩ := eof_info
  obtain ⟨j, h3⟩ := eof_info2
  simp only [binOp]
  simp [Op.equal, Op.maxDepth, run_equalIn_iface_ptr_same w 9998 ea err_und ptr_und h1 h2 h3]

theorem fill_off (w : World) (pb : Nat) (p : Pc) (h : PB w pb p) (heof : p.readEOF = .bool true) :
    Calls Tryf.prog 26 #[.pointer (some ⟨pb, 0, none⟩)] w fun e w' => e = .returned (.int .i64 0) ∧ w = w' := by
  have c9 : w.cell? ⟨pb, 9, none⟩ = some (.bool true) := by rw [h.c_readEOF, heof]
  clear h heof
  go_enter Tryf.func26, Tryf.ntmps26
  go_wp2
  go_step3
  go_wp2
  try rw [Exit.noGoto_ret]
  go_ret
  exact ⟨rfl, rfl⟩

theorem fill_past (w : World) (pb : Nat) (p : Pc) (h : PB w pb p) (heof : p.readEOF = .bool false) (hr : p.r = .int .i32 1114112) :
    Calls Tryf.prog 26 #[.pointer (some ⟨pb, 0, none⟩)] w fun e w' => e = .returned (.int .i64 0) ∧ w = w' := by
  have c9 : w.cell? ⟨pb, 9, none⟩ = some (.bool false) := by rw [h.c_readEOF, heof]
  have c3 : w.cell? ⟨pb, 3, none⟩ = some (.int .i32 1114112) := by rw [h.c_r, hr]
  clear h heof hr
  go_enter Tryf.func26, Tryf.ntmps26
  go_wp2
  go_step3
  go_wp2
  try rw [Exit.noGoto_ret]
  go_ret
  exact ⟨rfl, rfl⟩

/-- What p.bs is behind a fill that read nothing. -/
def bsE (pb n : Nat) : Value := if 0 < n then bsV pb n else nilS

def EofPost (w : World) (B pb rb : Nat) (ea : Addr) (p : Pc) (win : List UInt8) (bsp : Nat) (offs : Int) (re : Bool) (e : Ending) (w' : World) : Prop :=
  e = .returned (.int .i64 0) ∧ (∃ b, Lx w' B pb rb ea { p with bs := bsE pb (win.length - bsp), bsp := .int .u64 0, readErr := EOFv ea, readEOF := .bool (!re), offs := .int .i64 (offs + bsp), readBuf := b } (win.drop bsp) [] 0) ∧ Kept [rb, pb] w w'

theorem eof_end {w w2 w' : World} {B pb rb : Nat} {ea : Addr} {p : Pc} {win : List UInt8} {bsp left : Nat} {offs : Int} {re : Bool} (HH : Lx w B pb rb ea p win [] bsp) (hL : win.length - bsp = left)
    (HP2 : PB w2 pb { p with offs := .int .i64 (offs + bsp), readBuf := Bys (win.drop bsp) ++ p.readBuf.drop left }) (HK2 : Kept [rb, pb] w w2) (HR2 : Rd w2 B rb pb []) (hk : Kept [pb] w2 w')
    (hp : ∀ q : Pc, PB w2 pb q → PB w' pb { q with readErr := EOFv ea, readEOF := .bool (!re), bs := bsE pb left, bsp := .int .u64 0 }) : EofPost w B pb rb ea p win bsp offs re (.returned (.int .i64 0)) w' := by
  refine ⟨rfl, ⟨Bys (win.drop bsp) ++ p.readBuf.drop left, ?_⟩, HK2.trans (hk.weaken (by simp))⟩
  have hw : (win.drop bsp).length = left := by rw [List.length_drop]; exact hL
  rw [hL]
  have dg : w2.cell? ⟨0, 0, none⟩ = some (EOFv ea) := by
    rw [HK2.cell (p := ⟨0, 0, none⟩) (block_lt_of_cell HH.heof) (by have := HH.hg1; have := HH.hg2; simp; omega)]
    exact HH.heof
  refine { hpb := hp _ HP2, hsrc := HH.hsrc, hbs := ?_, hbuf := ?_, hfit := by have := HH.hfit; omega, hbsp := rfl, hrd := HR2.kept hk (by simp) HH.hne, hne := HH.hne, hlt := HH.hlt, heof := ?_, hg1 := HH.hg1, hg2 := HH.hg2 }
  · rw [hw]
    show bsE pb left = _ ∨ bsE pb left = _ ∧ _
    unfold bsE
    by_cases h0 : 0 < left
    · exact .inl (if_pos h0)
    · exact .inr ⟨if_neg h0, List.eq_nil_of_length_eq_zero (by omega)⟩
  · rw [hw]
    exact List.take_left' (by rw [Bys_length, hw])
  · have := hk.cell (p := ⟨0, 0, none⟩) (block_lt_of_cell dg) (by have := HH.hg1; simp; omega)
    exact this.trans dg

set_option maxRecDepth 100000 in
set_option maxHeartbeats 400000 in
theorem fill_eof_left (w : World) (B pb rb : Nat) (ea : Addr) (p : Pc) (win rest : List UInt8) (bsp : Nat) (r offs : Int) (h : Lx w B pb rb ea p win rest bsp) (hr : p.r = .int .i32 r) (hr' : r ≠ 1114112)
    (heof : p.readEOF = .bool false) (hre : p.readErr = .nilIface) (hoffs : p.offs = .int .i64 offs) (ho1 : 0 ≤ offs) (ho2 : offs < 1000000000) (hb : bsp ≤ win.length) (hl : win.length - bsp < 1024) (hrest : rest = []) (hll : 0 < win.length - bsp) :
    Calls Tryf.prog 26 #[.pointer (some ⟨pb, 0, none⟩)] w (EofPost w B pb rb ea p win bsp offs false) := by
  subst hrest
  have HLL := Lib.hid hll; clear hll
  have c9 : w.cell? ⟨pb, 9, none⟩ = some (.bool false) := by rw [h.hpb.c_readEOF, heof]
  have c3 : w.cell? ⟨pb, 3, none⟩ = some (.int .i32 r) := by rw [h.hpb.c_r, hr]
  have c12 : w.cell? ⟨pb, 12, none⟩ = some (.int .i64 offs) := by rw [h.hpb.c_offs, hoffs]
  have f12 := h.hpb.frozen 12
  have hr2 : (r == 1114112) = false := by simpa using hr'
  have c2 : w.cell? ⟨pb, 2, none⟩ = some (.int .u64 bsp) := by rw [h.hpb.c_bsp, h.hbsp]
  obtain ⟨bA, bc, hbs⟩ : ∃ A c, p.bs = .slice A win.length c := by
    rcases h.hbs with h1 | ⟨h1, h2⟩
    · exact ⟨_, _, h1⟩
    · exact ⟨none, 0, by rw [h1, h2]; rfl⟩
  have c1 : w.cell? ⟨pb, 1, none⟩ = some (.slice bA win.length bc) := by rw [h.hpb.c_bs, hbs]
  have HH := Lib.hid h
  have hfit := h.hfit
  have hw1 : IntKind.i64.wrap (bsp : Int) = bsp := IntWalk.i64_in _ (by omega)
  have hw2 : IntKind.i64.wrap (offs + (bsp : Int)) = offs + bsp := IntWalk.i64_in _ (by omega)
  have hw3 : IntKind.i64.wrap ((win.length : Int) - (bsp : Int)) = ((win.length - bsp : Nat) : Int) := (IntWalk.i64_in _ (by omega)).trans (by omega)
  have HRE := Lib.hid hre
  clear h hr heof hre hoffs hbs
  go_enter Tryf.func26, Tryf.ntmps26
  go_wp2
  go_step3
  go_wp2
  refine wp_region_tail 12 (by kernel_rfl) (by kernel_rfl) ?_
  simp only [List.take_succ_cons, List.take_zero, List.drop_succ_cons, List.drop_zero]
  repeat still_step
  refine wpStill_nil ?_
  go_wp2
  go_quiet (fail)
  go_wp2
  generalize hleft : win.length - bsp = left at *
  have HLE := Lib.hid hleft; clear hleft hw1 hw2 hw3
  refine wp_region_tail 13 (by kernel_rfl) (by kernel_rfl) ?_
  simp only [List.take_succ_cons, List.take_zero, List.drop_succ_cons, List.drop_zero]
  have hb1 : bsp ≤ 1024 := by omega
  have hb2 : left ≤ 1024 := by omega
  have hb3 : ¬ 1024 = left := by omega
  have q1 := slice_arr_h pb 39 .i64 left (by omega)
  have q2 := slice_arr_l pb 39 .u64 bsp (by omega)
  repeat still_step
  refine wpStill_nil ?_
  generalize hsp : (if 1024 = bsp then (⟨pb, 39, none⟩ : Addr) else ⟨pb, 39 + bsp, none⟩) = sp
  have HSP := Lib.hid hsp
  clear hsp q1 q2
  have HH1 : PB ((w.setCell ⟨pb, 12, none⟩ (.int .i64 (offs + bsp))).drew.drewN nq).drew pb { p with offs := .int .i64 (offs + bsp) } := ((((HH.out).hpb.s_offs _).drew).drewN _).drew
  have HK1 : Kept [pb] w ((w.setCell ⟨pb, 12, none⟩ (.int .i64 (offs + bsp))).drew.drewN nq).drew := ((((Kept.refl _ _).setCell (by simp) _).drew).drewN _).drew
  have hcl : (Bys (win.drop bsp)).length = left := by rw [Bys_length, List.length_drop]; exact HLE.out
  refine wpList_copy_buf rfl (.tmp 43) (.tmp 51) rfl pb 0 left 1024 (1024 - bsp) (1024 - bsp) (some sp) rfl rfl _ HH1 (Bys (win.drop bsp)) ?c1 ?c2 ?c3 (Bys_one _) ?_
  case c1 => rw [hcl]; have := HLE.out; show left = min (1024 - bsp) left; omega
  case c2 =>
    intro h0
    have hle := HLE.out
    refine ⟨pb, 39 + bsp, ?_, fun j v hj => ?_⟩
    · rw [← HSP.out, if_neg (by omega)]
    · have hj2 : j < left := by rw [← hcl]; exact (List.getElem?_eq_some_iff.1 hj).1
      rw [Nat.add_assoc, HH1.buf (bsp + j) (by omega)]
      have hb4 : p.readBuf[bsp + j]? = (p.readBuf.take win.length)[bsp + j]? := by rw [List.getElem?_take, if_pos (by omega)]
      show p.readBuf[bsp + j]? = _
      rw [hb4, HH.out.hbuf, ← hj]
      simp [Bys]
  case c3 => rw [hcl]; omega
  intro w2 hp2 hk2
  rw [hcl, List.take_zero, List.nil_append, Nat.zero_add] at hp2
  have HP2 := Lib.hid hp2
  have HK2 := Lib.hid (HK1.trans hk2)
  have HRD := Lib.hid (HH.out.hrd.kept HK2.out (by simp) HH.out.hne)
  have c0 : w2.cell? ⟨pb, 0, none⟩ = some (.iface 38 (.pointer (some ⟨rb, 0, none⟩))) := by rw [hp2.c_src]; exact congrArg some HH.out.hsrc
  have c8 : w2.cell? ⟨pb, 8, none⟩ = some .nilIface := by rw [hp2.c_readErr]; exact congrArg some HRE.out
  have f8 := hp2.frozen 8
  clear hp2 hk2 HH1 HK1 HSP c9 c3 c12 f12 c2 c1 hr2 hr'
  have HCL := Lib.hid hcl; clear hcl
  go_wp2
  go_step3
  go_wp2
  go_quiet (fail)
  go_wp2
  have q2 : ∀ w, (Instr.sliceAt 57 (.pointer (some ⟨pb, 39, none⟩)) (some (.int .i64 left)) none none).run Tryf.prog w = .ok (.slice (some ⟨pb, 39 + left, none⟩) (1024 - left) (1024 - left)) w := fun w => by
    rw [slice_arr_l pb 39 .i64 left (by omega), if_neg hb3]
  have q3 := fun k w => nil_ahead k ⟨rb, 0, none⟩ w
  have q4 := fun k w => method_read k ⟨rb, 0, none⟩ w
  have hcon : ∀ k, Hid (Calls Tryf.prog 63 #[.pointer (some ⟨rb, 0, none⟩), .slice (some ⟨pb, 39 + left, none⟩) (1024 - left) (1024 - left)] (w2.drewN k) fun e w' => 
      e = .returned (.tuple #[.int .i64 0, EOFv ea]) ∧ Hid (Kept [] w2 w')) := fun k => by
    have hk2 : Kept [pb] w2 (w2.drewN k) := (Kept.refl _ _).drewN k
    have hk0 : Kept [] w2 (w2.drewN k) := (Kept.refl _ _).drewN k
    have dg : w2.cell? ⟨0, 0, none⟩ = some (EOFv ea) := by
      rw [HK2.out.cell (p := ⟨0, 0, none⟩) (block_lt_of_cell HH.out.heof) (by have := HH.out.hg1; have := HH.out.hg2; simp; omega)]
      exact HH.out.heof
    refine (rd_eof (w2.drewN k) B rb pb _ (EOFv ea) (HRD.out.kept hk2 (by simp) HH.out.hne) dg).mono ?_
    rintro e w' ⟨h1, h2⟩
    exact ⟨h1, hk0.trans h2⟩
  have HCON := Lib.hid hcon; clear hcon
  go_region_with (go_at_call 63; refine ((HCON.out _).out).mono ?_; rintro e w3 ⟨rfl, h3⟩)
  have hp3 := HP2.out.kept h3.out (by simp)
  have HK3 := Lib.hid ((HK2.out.weaken (S' := [rb, pb]) (by simp)).trans (h3.out.weaken (by simp)))
  have HR3 := Lib.hid (HRD.out.kept h3.out (by simp) HH.out.hne)
  have d1 := hp3.c_bs
  have d2 := hp3.c_bsp
  have d8 := hp3.c_readErr
  have d9 := hp3.c_readEOF
  have f1 := hp3.frozen 1
  have f2 := hp3.frozen 2
  have f8 := hp3.frozen 8
  have f9 := hp3.frozen 9
  have dg : w3.cell? ⟨0, 0, none⟩ = some (EOFv ea) := by
    rw [HK3.out.cell (p := ⟨0, 0, none⟩) (block_lt_of_cell HH.out.heof) (by have := HH.out.hg1; have := HH.out.hg2; simp; omega)]
    exact HH.out.heof
  have hgp : 0 ≠ pb := fun e => HH.out.hg1 e.symm
  simp only at d8 d1 d2 d9
  have q5 := fun w => eof_eof ea w
  have q6 := fun w => eof_ne_eof ea w
  have q7 := fun w => slice_arr_h pb 39 .i64 left hb2 w
  have HP3 := Lib.hid hp3
  clear h3 hp3 c0 c8 HCON q2 q3 q4
  have hl0 : 0 < left := by have := HLL.out; have := HLE.out; omega
  go_wp2
  try rw [Exit.noGoto_ret]
  go_ret
  have hbse : bsE pb left = bsV pb left := by unfold bsE; exact if_pos hl0
  refine eof_end HH.out HLE.out HP3.out HK3.out HR3.out ((((((Kept.refl _ _).setCell (by simp) _).setCell (by simp) _).setCell (by simp) _)).setCell (by simp) _) (fun q hq => ?_)
  rw [hbse]
  exact (((hq.s_readErr (EOFv ea)).s_readEOF (.bool true)).s_bs _).s_bsp _

set_option maxRecDepth 100000 in
set_option maxHeartbeats 400000 in
theorem fill_eof_none (w : World) (B pb rb : Nat) (ea : Addr) (p : Pc) (win rest : List UInt8) (bsp : Nat) (r offs : Int) (h : Lx w B pb rb ea p win rest bsp) (hr : p.r = .int .i32 r) (hr' : r ≠ 1114112)
    (heof : p.readEOF = .bool false) (hre : p.readErr = .nilIface) (hoffs : p.offs = .int .i64 offs) (ho1 : 0 ≤ offs) (ho2 : offs < 1000000000) (hb : bsp ≤ win.length) (hl : win.length - bsp < 1024) (hrest : rest = []) (hll : win.length ≤ bsp) :
    Calls Tryf.prog 26 #[.pointer (some ⟨pb, 0, none⟩)] w (EofPost w B pb rb ea p win bsp offs false) := by
  subst hrest
  have HLL := Lib.hid hll; clear hll
  have c9 : w.cell? ⟨pb, 9, none⟩ = some (.bool false) := by rw [h.hpb.c_readEOF, heof]
  have c3 : w.cell? ⟨pb, 3, none⟩ = some (.int .i32 r) := by rw [h.hpb.c_r, hr]
  have c12 : w.cell? ⟨pb, 12, none⟩ = some (.int .i64 offs) := by rw [h.hpb.c_offs, hoffs]
  have f12 := h.hpb.frozen 12
  have hr2 : (r == 1114112) = false := by simpa using hr'
  have c2 : w.cell? ⟨pb, 2, none⟩ = some (.int .u64 bsp) := by rw [h.hpb.c_bsp, h.hbsp]
  obtain ⟨bA, bc, hbs⟩ : ∃ A c, p.bs = .slice A win.length c := by
    rcases h.hbs with h1 | ⟨h1, h2⟩
    · exact ⟨_, _, h1⟩
    · exact ⟨none, 0, by rw [h1, h2]; rfl⟩
  have c1 : w.cell? ⟨pb, 1, none⟩ = some (.slice bA win.length bc) := by rw [h.hpb.c_bs, hbs]
  have HH := Lib.hid h
  have hfit := h.hfit
  have hw1 : IntKind.i64.wrap (bsp : Int) = bsp := IntWalk.i64_in _ (by omega)
  have hw2 : IntKind.i64.wrap (offs + (bsp : Int)) = offs + bsp := IntWalk.i64_in _ (by omega)
  have hw3 : IntKind.i64.wrap ((win.length : Int) - (bsp : Int)) = ((win.length - bsp : Nat) : Int) := (IntWalk.i64_in _ (by omega)).trans (by omega)
  have HRE := Lib.hid hre
  clear h hr heof hre hoffs hbs
  go_enter Tryf.func26, Tryf.ntmps26
  go_wp2
  go_step3
  go_wp2
  refine wp_region_tail 12 (by kernel_rfl) (by kernel_rfl) ?_
  simp only [List.take_succ_cons, List.take_zero, List.drop_succ_cons, List.drop_zero]
  repeat still_step
  refine wpStill_nil ?_
  go_wp2
  go_quiet (fail)
  go_wp2
  generalize hleft : win.length - bsp = left at *
  have HLE := Lib.hid hleft; clear hleft hw1 hw2 hw3
  refine wp_region_tail 13 (by kernel_rfl) (by kernel_rfl) ?_
  simp only [List.take_succ_cons, List.take_zero, List.drop_succ_cons, List.drop_zero]
  have hb1 : bsp ≤ 1024 := by omega
  have hb2 : left ≤ 1024 := by omega
  have hb3 : ¬ 1024 = left := by omega
  have q1 := slice_arr_h pb 39 .i64 left (by omega)
  have q2 := slice_arr_l pb 39 .u64 bsp (by omega)
  repeat still_step
  refine wpStill_nil ?_
  generalize hsp : (if 1024 = bsp then (⟨pb, 39, none⟩ : Addr) else ⟨pb, 39 + bsp, none⟩) = sp
  have HSP := Lib.hid hsp
  clear hsp q1 q2
  have HH1 : PB ((w.setCell ⟨pb, 12, none⟩ (.int .i64 (offs + bsp))).drew.drewN nq).drew pb { p with offs := .int .i64 (offs + bsp) } := ((((HH.out).hpb.s_offs _).drew).drewN _).drew
  have HK1 : Kept [pb] w ((w.setCell ⟨pb, 12, none⟩ (.int .i64 (offs + bsp))).drew.drewN nq).drew := ((((Kept.refl _ _).setCell (by simp) _).drew).drewN _).drew
  have hcl : (Bys (win.drop bsp)).length = left := by rw [Bys_length, List.length_drop]; exact HLE.out
  refine wpList_copy_buf rfl (.tmp 43) (.tmp 51) rfl pb 0 left 1024 (1024 - bsp) (1024 - bsp) (some sp) rfl rfl _ HH1 (Bys (win.drop bsp)) ?c1 ?c2 ?c3 (Bys_one _) ?_
  case c1 => rw [hcl]; have := HLE.out; show left = min (1024 - bsp) left; omega
  case c2 =>
    intro h0
    have hle := HLE.out
    refine ⟨pb, 39 + bsp, ?_, fun j v hj => ?_⟩
    · rw [← HSP.out, if_neg (by omega)]
    · have hj2 : j < left := by rw [← hcl]; exact (List.getElem?_eq_some_iff.1 hj).1
      rw [Nat.add_assoc, HH1.buf (bsp + j) (by omega)]
      have hb4 : p.readBuf[bsp + j]? = (p.readBuf.take win.length)[bsp + j]? := by rw [List.getElem?_take, if_pos (by omega)]
      show p.readBuf[bsp + j]? = _
      rw [hb4, HH.out.hbuf, ← hj]
      simp [Bys]
  case c3 => rw [hcl]; omega
  intro w2 hp2 hk2
  rw [hcl, List.take_zero, List.nil_append, Nat.zero_add] at hp2
  have HP2 := Lib.hid hp2
  have HK2 := Lib.hid (HK1.trans hk2)
  have HRD := Lib.hid (HH.out.hrd.kept HK2.out (by simp) HH.out.hne)
  have c0 : w2.cell? ⟨pb, 0, none⟩ = some (.iface 38 (.pointer (some ⟨rb, 0, none⟩))) := by rw [hp2.c_src]; exact congrArg some HH.out.hsrc
  have c8 : w2.cell? ⟨pb, 8, none⟩ = some .nilIface := by rw [hp2.c_readErr]; exact congrArg some HRE.out
  have f8 := hp2.frozen 8
  clear hp2 hk2 HH1 HK1 HSP c9 c3 c12 f12 c2 c1 hr2 hr'
  have HCL := Lib.hid hcl; clear hcl
  go_wp2
  go_step3
  go_wp2
  go_quiet (fail)
  go_wp2
  have q2 : ∀ w, (Instr.sliceAt 57 (.pointer (some ⟨pb, 39, none⟩)) (some (.int .i64 left)) none none).run Tryf.prog w = .ok (.slice (some ⟨pb, 39 + left, none⟩) (1024 - left) (1024 - left)) w := fun w => by
    rw [slice_arr_l pb 39 .i64 left (by omega), if_neg hb3]
  have q3 := fun k w => nil_ahead k ⟨rb, 0, none⟩ w
  have q4 := fun k w => method_read k ⟨rb, 0, none⟩ w
  have hcon : ∀ k, Hid (Calls Tryf.prog 63 #[.pointer (some ⟨rb, 0, none⟩), .slice (some ⟨pb, 39 + left, none⟩) (1024 - left) (1024 - left)] (w2.drewN k) fun e w' => 
      e = .returned (.tuple #[.int .i64 0, EOFv ea]) ∧ Hid (Kept [] w2 w')) := fun k => by
    have hk2 : Kept [pb] w2 (w2.drewN k) := (Kept.refl _ _).drewN k
    have hk0 : Kept [] w2 (w2.drewN k) := (Kept.refl _ _).drewN k
    have dg : w2.cell? ⟨0, 0, none⟩ = some (EOFv ea) := by
      rw [HK2.out.cell (p := ⟨0, 0, none⟩) (block_lt_of_cell HH.out.heof) (by have := HH.out.hg1; have := HH.out.hg2; simp; omega)]
      exact HH.out.heof
    refine (rd_eof (w2.drewN k) B rb pb _ (EOFv ea) (HRD.out.kept hk2 (by simp) HH.out.hne) dg).mono ?_
    rintro e w' ⟨h1, h2⟩
    exact ⟨h1, hk0.trans h2⟩
  have HCON := Lib.hid hcon; clear hcon
  go_region_with (go_at_call 63; refine ((HCON.out _).out).mono ?_; rintro e w3 ⟨rfl, h3⟩)
  have hp3 := HP2.out.kept h3.out (by simp)
  have HK3 := Lib.hid ((HK2.out.weaken (S' := [rb, pb]) (by simp)).trans (h3.out.weaken (by simp)))
  have HR3 := Lib.hid (HRD.out.kept h3.out (by simp) HH.out.hne)
  have d1 := hp3.c_bs
  have d2 := hp3.c_bsp
  have d8 := hp3.c_readErr
  have d9 := hp3.c_readEOF
  have f1 := hp3.frozen 1
  have f2 := hp3.frozen 2
  have f8 := hp3.frozen 8
  have f9 := hp3.frozen 9
  have dg : w3.cell? ⟨0, 0, none⟩ = some (EOFv ea) := by
    rw [HK3.out.cell (p := ⟨0, 0, none⟩) (block_lt_of_cell HH.out.heof) (by have := HH.out.hg1; have := HH.out.hg2; simp; omega)]
    exact HH.out.heof
  have hgp : 0 ≠ pb := fun e => HH.out.hg1 e.symm
  simp only at d8 d1 d2 d9
  have q5 := fun w => eof_eof ea w
  have q6 := fun w => eof_ne_eof ea w
  have q7 := fun w => slice_arr_h pb 39 .i64 left hb2 w
  have HP3 := Lib.hid hp3
  clear h3 hp3 c0 c8 HCON q2 q3 q4
  have hl0 : ¬ 0 < left := by have := HLL.out; have := HLE.out; omega
  go_wp2
  try rw [Exit.noGoto_ret]
  go_ret
  have hbse : bsE pb left = nilS := by unfold bsE; exact if_neg hl0
  refine eof_end HH.out HLE.out HP3.out HK3.out HR3.out ((((((Kept.refl _ _).setCell (by simp) _).setCell (by simp) _).setCell (by simp) _)).setCell (by simp) _) (fun q hq => ?_)
  rw [hbse]
  exact (((hq.s_readErr (EOFv ea)).s_readEOF (.bool true)).s_bs _).s_bsp _

end Go.Proofs.YtnjaeooblfihbaaFmt
