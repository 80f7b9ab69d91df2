/-
  The lexer's state in memory, and what fill does to it.
-/
import Derived.Test.YtnjaeooblfihbaaFmtLexB
import Derived.Deep.RegionWith
import Derived.WalkMore
import Derived.LaidEql
namespace Go.Proofs.YtnjaeooblfihbaaFmt
open Go.RowKit

abbrev EOFv (ea : Addr) : Value := .iface 107 (.pointer (some ea))
def bsV (pb n : Nat) : Value := .slice (some ⟨pb, 39, none⟩) n 1024

/-- The parser at block pb: its window 'win', of which bsp bytes are used up; its reader at block rb holds 'rest'; io.EOF is the error at ea. -/
structure Lx (w : World) (B pb rb : Nat) (ea : Addr) (p : Pc) (win rest : List UInt8) (bsp : Nat) : Prop where
  hpb : PB w pb p
  hsrc : p.src = .iface 38 (.pointer (some ⟨rb, 0, none⟩))
  hbs : p.bs = bsV pb win.length ∨ (p.bs = nilS ∧ win = [])
  hbuf : p.readBuf.take win.length = Bys win
  hfit : win.length ≤ 1024
  hbsp : p.bsp = .int .u64 bsp
  hrd : Rd w B rb pb rest
  hne : pb ≠ rb
  hlt : pb < B
  heof : w.cell? ⟨0, 0, none⟩ = some (EOFv ea)
  hg1 : pb ≠ 0
  hg2 : rb ≠ 0

theorem err_und : Tryf.prog.underlying 47 = some (.interface (Tryf.prog.methodsAt 47)) := by kernel_rfl
theorem nil_eof (ea : Addr) (w : World) : (binOp .eql 47 .nilIface (EOFv ea)).run Tryf.prog w = .ok (.bool false) w := run_eql_iface_nil_left w _ _ err_und
theorem ptr_und : Tryf.prog.underlying 107 = some (.pointer 157) := by kernel_rfl
theorem method_read (k : Nat) (a : Addr) (w : World) : (method (k + 1) 38 (.pointer (some a)) "Read").run Tryf.prog w = .ok (63, .pointer (some a)) w := by kernel_rfl
theorem nil_ahead (k : Nat) (a : Addr) (w : World) : (nilAhead (k + 1) 38 (.pointer (some a)) "Read").run Tryf.prog w = .ok (some false) w := by kernel_rfl

theorem fill_end {w w3 : World} {B pb rb : Nat} {ea : Addr} {p : Pc} {win rest : List UInt8} {bsp left : Nat} {ov : Value} (HH : Lx w B pb rb ea p win rest bsp)
    (HP3 : PB w3 pb { p with offs := ov, readBuf := (Bys (win.drop bsp) ++ p.readBuf.drop left).take left ++ Bys (rest.take (1024 - left)) ++ (Bys (win.drop bsp) ++ p.readBuf.drop left).drop (left + min (1024 - left) rest.length) })
    (HR3 : Rd w3 B rb pb (rest.drop (1024 - left))) (HK3 : Kept [rb, pb] w w3) (dg : w3.cell? ⟨0, 0, none⟩ = some (EOFv ea)) (hL : win.length - bsp = left) (hb : bsp ≤ win.length) :
    (∃ b, Lx (((w3.setCell ⟨pb, 8, none⟩ .nilIface).setCell ⟨pb, 1, none⟩ (.slice (some ⟨pb, 39, none⟩) (left + min (1024 - left) rest.length) 1024)).setCell ⟨pb, 2, none⟩ (.int .u64 0)) B pb rb ea
      { p with bs := bsV pb (win.drop bsp ++ rest.take (1024 - left)).length, bsp := .int .u64 0, readErr := .nilIface, offs := ov, readBuf := b } (win.drop bsp ++ rest.take (1024 - left)) (rest.drop (1024 - left)) 0) ∧
    Kept [rb, pb] w (((w3.setCell ⟨pb, 8, none⟩ .nilIface).setCell ⟨pb, 1, none⟩ (.slice (some ⟨pb, 39, none⟩) (left + min (1024 - left) rest.length) 1024)).setCell ⟨pb, 2, none⟩ (.int .u64 0)) := by
  have hfit := HH.hfit
  have hlw : (win.drop bsp ++ rest.take (1024 - left)).length = left + min (1024 - left) rest.length := by simp; omega
  have hc : (Bys (win.drop bsp)).length = left := by rw [Bys_length, List.length_drop]; exact hL
  have hp4 := ((HP3.s_readErr .nilIface).s_bs (bsV pb (left + min (1024 - left) rest.length))).s_bsp (.int .u64 0)
  have hk : Kept [pb] w3 (((w3.setCell ⟨pb, 8, none⟩ .nilIface).setCell ⟨pb, 1, none⟩ (bsV pb (left + min (1024 - left) rest.length))).setCell ⟨pb, 2, none⟩ (.int .u64 0)) := ((((Kept.refl _ _).setCell (by simp) _).setCell (by simp) _).setCell (by simp) _)
  rw [hlw]
  refine ⟨⟨(Bys (win.drop bsp) ++ p.readBuf.drop left).take left ++ Bys (rest.take (1024 - left)) ++ (Bys (win.drop bsp) ++ p.readBuf.drop left).drop (left + min (1024 - left) rest.length), ?_⟩, HK3.trans (hk.weaken (by simp))⟩
  refine { hpb := hp4, hsrc := HH.hsrc, hbs := .inl (by rw [hlw]), hbuf := ?_, hfit := by omega, hbsp := rfl, hrd := HR3.kept hk (by simp) HH.hne, hne := HH.hne, hlt := HH.hlt, heof := ?_, hg1 := HH.hg1, hg2 := HH.hg2 }
  · rw [hlw]
    show List.take _ (List.take left (Bys (win.drop bsp) ++ p.readBuf.drop left) ++ Bys (rest.take (1024 - left)) ++ _) = _
    rw [List.take_left' hc]
    have h2 : (Bys (win.drop bsp) ++ Bys (rest.take (1024 - left))).length = left + min (1024 - left) rest.length := by rw [List.length_append, hc, Bys_length, List.length_take]
    rw [List.take_left' h2]
    simp [Bys]
  · have := hk.cell (p := ⟨0, 0, none⟩) (block_lt_of_cell dg) (by have := HH.hg1; simp; omega)
    exact this.trans dg

set_option maxRecDepth 100000 in
set_option maxHeartbeats 400000 in
theorem fill_go (w : World) (B pb rb : Nat) (ea : Addr) (p : Pc) (win rest : List UInt8) (bsp : Nat) (r offs : Int) (h : Lx w B pb rb ea p win rest bsp) (hr : p.r = .int .i32 r) (hr' : r ≠ 1114112)
    (heof : p.readEOF = .bool false) (hre : p.readErr = .nilIface) (hoffs : p.offs = .int .i64 offs) (ho1 : 0 ≤ offs) (ho2 : offs < 1000000000) (hb : bsp ≤ win.length) (hl : win.length - bsp < 1024) (hrest : rest ≠ []) :
    Calls Tryf.prog 26 #[.pointer (some ⟨pb, 0, none⟩)] w fun e w' => e = .returned (.int .i64 (min (1024 - (win.length - bsp)) rest.length : Nat)) ∧
      (∃ b, Lx w' B pb rb ea { p with bs := bsV pb (win.drop bsp ++ rest.take (1024 - (win.length - bsp))).length, bsp := .int .u64 0, readErr := .nilIface, offs := .int .i64 (offs + bsp), readBuf := b } (win.drop bsp ++ rest.take (1024 - (win.length - bsp))) (rest.drop (1024 - (win.length - bsp))) 0) ∧ Kept [rb, pb] w w' := by
  have c9 : w.cell? ⟨pb, 9, none⟩ = some (.bool false) := by rw [h.hpb.c_readEOF, heof]
  have c3 : w.cell? ⟨pb, 3, none⟩ = some (.int .i32 r) := by rw [h.hpb.c_r, hr]
  have c12 : w.cell? ⟨pb, 12, none⟩ = some (.int .i64 offs) := by rw [h.hpb.c_offs, hoffs]
  have f12 := h.hpb.frozen 12
  have hr2 : (r == 1114112) = false := by simpa using hr'
  have c2 : w.cell? ⟨pb, 2, none⟩ = some (.int .u64 bsp) := by rw [h.hpb.c_bsp, h.hbsp]
  obtain ⟨bA, bc, hbs⟩ : ∃ A c, p.bs = .slice A win.length c := by
    rcases h.hbs with h1 | ⟨h1, h2⟩
    · exact ⟨_, _, h1⟩
    · exact ⟨none, 0, by rw [h1, h2]; rfl⟩
  have c1 : w.cell? ⟨pb, 1, none⟩ = some (.slice bA win.length bc) := by rw [h.hpb.c_bs, hbs]
  have HH := Lib.hid h
  have hfit := h.hfit
  have hw1 : IntKind.i64.wrap (bsp : Int) = bsp := IntWalk.i64_in _ (by omega)
  have hw2 : IntKind.i64.wrap (offs + (bsp : Int)) = offs + bsp := IntWalk.i64_in _ (by omega)
  have hw3 : IntKind.i64.wrap ((win.length : Int) - (bsp : Int)) = ((win.length - bsp : Nat) : Int) := (IntWalk.i64_in _ (by omega)).trans (by omega)
  have HRE := Lib.hid hre
  clear h hr heof hre hoffs hbs
  go_enter Tryf.func26, Tryf.ntmps26
  go_wp2
  go_step3
  go_wp2
  refine wp_region_tail 12 (by kernel_rfl) (by kernel_rfl) ?_
  simp only [List.take_succ_cons, List.take_zero, List.drop_succ_cons, List.drop_zero]
  repeat still_step
  refine wpStill_nil ?_
  go_wp2
  go_quiet (fail)
  go_wp2
  generalize hleft : win.length - bsp = left at *
  have HLE := Lib.hid hleft; clear hleft hw1 hw2 hw3
  refine wp_region_tail 13 (by kernel_rfl) (by kernel_rfl) ?_
  simp only [List.take_succ_cons, List.take_zero, List.drop_succ_cons, List.drop_zero]
  have hb1 : bsp ≤ 1024 := by omega
  have hb2 : left ≤ 1024 := by omega
  have hb3 : ¬ 1024 = left := by omega
  have q1 := slice_arr_h pb 39 .i64 left (by omega)
  have q2 := slice_arr_l pb 39 .u64 bsp (by omega)
  repeat still_step
  refine wpStill_nil ?_
  generalize hsp : (if 1024 = bsp then (⟨pb, 39, none⟩ : Addr) else ⟨pb, 39 + bsp, none⟩) = sp
  have HSP := Lib.hid hsp
  clear hsp q1 q2
  have HH1 : PB ((w.setCell ⟨pb, 12, none⟩ (.int .i64 (offs + bsp))).drew.drewN nq).drew pb { p with offs := .int .i64 (offs + bsp) } := ((((HH.out).hpb.s_offs _).drew).drewN _).drew
  have HK1 : Kept [pb] w ((w.setCell ⟨pb, 12, none⟩ (.int .i64 (offs + bsp))).drew.drewN nq).drew := ((((Kept.refl _ _).setCell (by simp) _).drew).drewN _).drew
  have hcl : (Bys (win.drop bsp)).length = left := by rw [Bys_length, List.length_drop]; exact HLE.out
  refine wpList_copy_buf rfl (.tmp 43) (.tmp 51) rfl pb 0 left 1024 (1024 - bsp) (1024 - bsp) (some sp) rfl rfl _ HH1 (Bys (win.drop bsp)) ?c1 ?c2 ?c3 (Bys_one _) ?_
  case c1 => rw [hcl]; have := HLE.out; show left = min (1024 - bsp) left; omega
  case c2 =>
    intro h0
    have hle := HLE.out
    refine ⟨pb, 39 + bsp, ?_, fun j v hj => ?_⟩
    · rw [← HSP.out, if_neg (by omega)]
    · have hj2 : j < left := by rw [← hcl]; exact (List.getElem?_eq_some_iff.1 hj).1
      rw [Nat.add_assoc, HH1.buf (bsp + j) (by omega)]
      have hb4 : p.readBuf[bsp + j]? = (p.readBuf.take win.length)[bsp + j]? := by rw [List.getElem?_take, if_pos (by omega)]
      show p.readBuf[bsp + j]? = _
      rw [hb4, HH.out.hbuf, ← hj]
      simp [Bys]
  case c3 => rw [hcl]; omega
  intro w2 hp2 hk2
  rw [hcl, List.take_zero, List.nil_append, Nat.zero_add] at hp2
  have HP2 := Lib.hid hp2
  have HK2 := Lib.hid (HK1.trans hk2)
  have HRD := Lib.hid (HH.out.hrd.kept HK2.out (by simp) HH.out.hne)
  have c0 : w2.cell? ⟨pb, 0, none⟩ = some (.iface 38 (.pointer (some ⟨rb, 0, none⟩))) := by rw [hp2.c_src]; exact congrArg some HH.out.hsrc
  have c8 : w2.cell? ⟨pb, 8, none⟩ = some .nilIface := by rw [hp2.c_readErr]; exact congrArg some HRE.out
  have f8 := hp2.frozen 8
  clear hp2 hk2 HH1 HK1 HSP c9 c3 c12 f12 c2 c1 hr2 hr'
  have HCL := Lib.hid hcl; clear hcl
  go_wp2
  go_step3
  go_wp2
  go_quiet (fail)
  go_wp2
  have q2 : ∀ w, (Instr.sliceAt 57 (.pointer (some ⟨pb, 39, none⟩)) (some (.int .i64 left)) none none).run Tryf.prog w = .ok (.slice (some ⟨pb, 39 + left, none⟩) (1024 - left) (1024 - left)) w := fun w => by
    rw [slice_arr_l pb 39 .i64 left (by omega), if_neg hb3]
  have q3 := fun k w => nil_ahead k ⟨rb, 0, none⟩ w
  have q4 := fun k w => method_read k ⟨rb, 0, none⟩ w
  have hcon : ∀ k, Hid (Calls Tryf.prog 63 #[.pointer (some ⟨rb, 0, none⟩), .slice (some ⟨pb, 39 + left, none⟩) (1024 - left) (1024 - left)] (w2.drewN k) fun e w' => 
      e = .returned (.tuple #[.int .i64 (min (1024 - left) rest.length : Nat), .nilIface]) ∧ Hid (PB w' pb { p with offs := .int .i64 (offs + bsp), readBuf := (Bys (win.drop bsp) ++ p.readBuf.drop left).take left ++ Bys (rest.take (1024 - left)) ++ (Bys (win.drop bsp) ++ p.readBuf.drop left).drop (left + min (1024 - left) rest.length) } ∧ Rd w' B rb pb (rest.drop (1024 - left)) ∧ Kept [rb, pb] w2 w')) := fun k => by
    have hk2 : Kept [pb] w2 (w2.drewN k) := (Kept.refl _ _).drewN k
    refine (rd_more (w2.drewN k) B rb pb rest { p with offs := .int .i64 (offs + bsp), readBuf := Bys (win.drop bsp) ++ p.readBuf.drop left } left (HRD.out.kept hk2 (by simp) HH.out.hne) (HP2.out.drewN k) HH.out.hne hl hrest).mono ?_
    rintro e w' ⟨h1, h2, h3, h4⟩
    exact ⟨h1, h2, h3, (hk2.weaken (by simp)).trans h4⟩
  have HCON := Lib.hid hcon; clear hcon
  go_region_with (go_at_call 63; refine ((HCON.out _).out).mono ?_; rintro e w3 ⟨rfl, h3⟩)
  have HP3 := Lib.hid h3.out.1
  have HR3 := Lib.hid h3.out.2.1
  have HK3 := Lib.hid ((HK2.out.weaken (S' := [rb, pb]) (by simp)).trans h3.out.2.2)
  have d8 := HP3.out.c_readErr
  have d1 := HP3.out.c_bs
  have d2 := HP3.out.c_bsp
  have f8 := HP3.out.frozen 8
  have f1 := HP3.out.frozen 1
  have f2 := HP3.out.frozen 2
  have dg : w3.cell? ⟨0, 0, none⟩ = some (EOFv ea) := by
    rw [HK3.out.cell (p := ⟨0, 0, none⟩) (block_lt_of_cell HH.out.heof) (by have := HH.out.hg1; have := HH.out.hg2; simp; omega)]
    exact HH.out.heof
  simp only at d8 d1 d2
  have q5 := fun w => nil_eof ea w
  have HDE := Lib.hid hrest
  have hrl : 0 < rest.length := List.length_pos_iff.2 hrest
  generalize hm : min (1024 - left) rest.length = m
  have hm1 : ((m : Int) == 0) = false := beq_eq_false_iff_ne.2 (by omega)
  have hm2 : left + m ≤ 1024 := by omega
  have q6 := fun w => slice_arr_h pb 39 .i64 (left + m) hm2 w
  rw [Int.natCast_add] at q6
  have HM := Lib.hid hm
  clear hm h3 hrest HCON q2 q3 q4 hrl
  go_wp2
  try rw [Exit.noGoto_ret]
  go_ret
  have hM := HM.out
  subst hM
  have hL := HLE.out
  refine ⟨by rw [hL]; rfl, ?_⟩
  rw [hL]
  exact fill_end HH.out HP3.out HR3.out HK3.out dg HLE.out hb
end Go.Proofs.YtnjaeooblfihbaaFmt
