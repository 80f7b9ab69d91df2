/-
  n010_117's ZZquotedHdoc: a fresh parser over a byte slice; its answer.
-/
import Derived.Test.YtnjaeooblfihbaaFmtVl
import Derived.Handy

namespace Go.Proofs.YtnjaeooblfihbaaFmt
open Go.RowKit

theorem newreader (w : World) (A : Option Addr) (n c : Nat) :
    Calls Tryf.prog 21 #[.slice A n c] w fun e w' => e = .returned (.pointer (some ⟨w.heap.size, 0, none⟩)) ∧ w' = w.alloc (.cells #[.slice A n c, .int .i64 0, .int .i64 (-1)] 73) := by
  go_enter Tryf.func21, Tryf.ntmps21
  go_wp2
  go_ret
  exact ⟨rfl, rfl⟩

def Pc.qh (rb hb : Nat) : Pc := { Pc.zero with src := .iface 38 (.pointer (some ⟨rb, 0, none⟩)), line := .int .i64 1, quote := .int .u32 256, hdocStops := .slice (some ⟨hb, 0, none⟩) 1 1 }
set_option maxRecDepth 100000 in
theorem built_qh (rb hb : Nat) : Tryf.prog.built 59 [(0, .iface 38 (.pointer (some ⟨rb, 0, none⟩))), (13, .int .i64 1), (16, .int .u32 256), (26, .slice (some ⟨hb, 0, none⟩) 1 1)] = some (Pc.qh rb hb).list.toArray := by kernel_rfl
theorem wpList_parser_qh {w : World} {ops : Array Oper} {rest : List Oper} {o : Oper} {a : Act} {Q : Exit → Act → World → Prop} (hgd : o.guard = none) (x y : Operand)
    (ho : o.op = .build 59 #[(0, x), (13, .const (.int .i64 1)), (16, .const (.int .u32 256)), (26, y)]) (rb hb : Nat) (hx : a.eval x = .iface 38 (.pointer (some ⟨rb, 0, none⟩))) (hy : a.eval y = .slice (some ⟨hb, 0, none⟩) 1 1)
    (h : wpList Tryf.prog ops Q rest (a.put o.dst (.agg (Pc.qh rb hb).list.toArray)) w) : wpList Tryf.prog ops Q (o :: rest) a w := by
  refine wpList_plain hgd fun K hK => ?_
  have e : (Tryf.prog.built 59 ((#[(0, x), (13, .const (.int .i64 1)), (16, .const (.int .u32 256)), (26, y)] : Array (Nat × Operand)).map fun (i, x) => (i, a.eval x)).toList) = some (Pc.qh rb hb).list.toArray := by
    have e2 : ((#[(0, x), (13, .const (.int .i64 1)), (16, .const (.int .u32 256)), (26, y)] : Array (Nat × Operand)).map fun (i, x) => (i, a.eval x)).toList = [(0, .iface 38 (.pointer (some ⟨rb, 0, none⟩))), (13, .int .i64 1), (16, .int .u32 256), (26, .slice (some ⟨hb, 0, none⟩) 1 1)] := by
      simp [hx, hy]
      exact ⟨rfl, rfl⟩
    rw [e2]
    exact built_qh rb hb
  refine wp_build _ _ ho (by rw [e]; rfl) (hK _ _ ?_)
  rw [e]
  exact h

theorem Tabs.kept {w w' : World} {S : List Nat} (h : Tabs w) (k : Kept S w w') (hS : ∀ x ∈ S, w.heap.size ≤ x) : Tabs w' := by
  refine ⟨fun c hc => ?_, fun i hi => ⟨?_, ?_⟩⟩
  · have h1 := h.1 c hc
    have := block_lt_of_cell h1
    exact (k.cell this (fun hm => by have := hS _ hm; omega)).trans h1
  · have h1 := (h.2 i hi).1
    have := block_lt_of_cell h1
    exact (k.cell this (fun hm => by have := hS _ hm; omega)).trans h1
  · have h1 := (h.2 i hi).2
    have := block_lt_of_cell h1
    exact (k.cell this (fun hm => by have := hS _ hm; omega)).trans h1

/-- A fresh lexer. -/
theorem start_l {w w2 : World} {A : Option Addr} {n c : Nat} {l : List UInt8} {pb rb : Nat} {ea : Addr} {p : Pc} (hs : SrcB w A n l) (hn : n < 10000000) (hc : n ≤ c) (hg : w.cell? ⟨0, 0, none⟩ = some (EOFv ea)) (hT : Tabs w)
    (hp : PB w2 pb p) (h0 : p.src = .iface 38 (.pointer (some ⟨rb, 0, none⟩))) (h1 : p.bs = nilS) (h2 : p.bsp = .int .u64 0) (h3 : p.r = .int .i32 0) (h4 : p.w = .int .i64 0) (h5 : p.line = .int .i64 1) (h6 : p.col = .int .i64 0) (h7 : p.openBquotes = .int .i64 0) (h8 : p.readEOF = .bool false) (h9 : p.readErr = .nilIface) (h10 : p.offs = .int .i64 0) (h11 : p.litBs = nilS)
    (hr : w2.heap[rb]? = some (.cells #[.slice A n c, .int .i64 0, .int .i64 (-1)] 73 (0, 0))) (g1 : w.heap.size ≤ pb) (g2 : w.heap.size ≤ rb) (g3 : pb ≠ rb) (hk : Kept [] w w2) :
    LexL w2 w2.heap.size pb rb ea p 0 l none 0 := by
  have hgl : 0 < w.heap.size := block_lt_of_cell hg
  have hl1 := hs.1
  have hz := hk.size
  have hmd : Md w2 w2.heap.size pb rb ea p [] l 0 0 l := by
    refine ⟨{ hpb := hp, hsrc := h0, hbs := .inr ⟨h1, rfl⟩, hbuf := rfl, hfit := by simp, hbsp := h2, hrd := ?_, hne := g3, hlt := hp.lt, heof := (hk.cell (p := ⟨0, 0, none⟩) hgl (by simp)).trans hg, hg1 := by omega, hg2 := by omega }, .inl ⟨h8, h9⟩, h10, by omega, by simp; omega, by simp, by simp⟩
    refine ⟨A, n, c, 0, -1, l, hr, hl1, fun hq => ?_, by omega, hc, by omega, rfl, heap_lt hr, Nat.le_refl _⟩
    obtain ⟨g, o', rfl, hg1, hcc⟩ := hs.2 hq
    exact ⟨g, o', rfl, by omega, by omega, by omega, fun j x hj => (hk.cell (p := ⟨g, o' + j, none⟩) hg1 (by simp)).trans (hcc j x hj)⟩
  refine ⟨p, 0, 1, 0, rfl, h3, h4, h5, h6, h7, by omega, by omega, by omega, by omega, by omega, by omega, by omega, hp.lt, heap_lt hr, Nat.le_refl _, h11, (fun l hl => by cases hl), ?_, .inl ⟨by decide, [], l, 0, 0, hmd⟩⟩
  rintro w' ⟨S, kS, hS⟩
  exact hT.kept ((hk.weaken (S' := S) (by simp)).trans kS) (fun x hx => by rcases hS x hx with h | h | h <;> omega)

theorem fresh_qh {w W : World} {A : Option Addr} {n c sb d M : Nat} {s stop : List UInt8} {ea : Addr} (hs : SrcB w A n s) (hn : n < 10000000) (hc : n ≤ c) (hb : ∀ j x, stop[j]? = some x → w.cell? ⟨sb, j, none⟩ = some (By x)) (hsb : sb < w.heap.size) (hg : w.cell? ⟨0, 0, none⟩ = some (EOFv ea)) (hT : Tabs w) (hM : M = stop.length)
    (hW : W = ((w.alloc (.cells #[.slice A n c, .int .i64 0, .int .i64 (-1)] 73)).alloc (.cells #[.slice (some ⟨sb, 0, none⟩) M d] 22)).alloc (.cells (Pc.qh w.heap.size (w.heap.size + 1)).list.toArray 59)) :
    LexL W W.heap.size (w.heap.size + 1 + 1) w.heap.size ea (Pc.qh w.heap.size (w.heap.size + 1)) 0 s none 0 ∧ HsAt W W.heap.size (w.heap.size + 1 + 1) w.heap.size (w.heap.size + 1) sb d stop ∧ Kept [] w W ∧ 0 < W.heap.size := by
  subst hM
  have hk : Kept [] w W := by rw [hW]; exact (((Kept.refl _ _).alloc _).alloc _).alloc _
  have hz : W.heap.size = w.heap.size + 3 := by rw [hW]; simp
  have hp : PB W (w.heap.size + 1 + 1) (Pc.qh w.heap.size (w.heap.size + 1)) := by
    refine ⟨?_, (by unfold Pc.qh Pc.zero; exact List.length_replicate), (by unfold Pc.qh Pc.zero; exact List.length_replicate)⟩
    rw [hW]
    have := heap_alloc_new ((w.alloc (.cells #[.slice A n c, .int .i64 0, .int .i64 (-1)] 73)).alloc (.cells #[.slice (some ⟨sb, 0, none⟩) stop.length d] 22)) (.cells (Pc.qh w.heap.size (w.heap.size + 1)).list.toArray 59)
    simpa using this
  have hr : W.heap[w.heap.size]? = some (.cells #[.slice A n c, .int .i64 0, .int .i64 (-1)] 73 (0, 0)) := by
    have k : Kept [] (w.alloc (.cells #[.slice A n c, .int .i64 0, .int .i64 (-1)] 73)) W := by rw [hW]; exact ((Kept.refl _ _).alloc _).alloc _
    exact (k.block _ (by simp) (by simp)).trans (heap_alloc_new w _)
  have hh : W.heap[w.heap.size + 1]? = some (.cells #[.slice (some ⟨sb, 0, none⟩) stop.length d] 22 (0, 0)) := by
    have k : Kept [] ((w.alloc (.cells #[.slice A n c, .int .i64 0, .int .i64 (-1)] 73)).alloc (.cells #[.slice (some ⟨sb, 0, none⟩) stop.length d] 22)) W := by rw [hW]; exact (Kept.refl _ _).alloc _
    have := heap_alloc_new (w.alloc (.cells #[.slice A n c, .int .i64 0, .int .i64 (-1)] 73)) (.cells #[.slice (some ⟨sb, 0, none⟩) stop.length d] 22)
    exact (k.block _ (by simp) (by simp)).trans (by simpa using this)
  have hgl : 0 < w.heap.size := block_lt_of_cell hg
  exact ⟨start_l hs hn hc hg hT hp rfl rfl rfl rfl rfl rfl rfl rfl rfl rfl rfl rfl hr (by omega) (Nat.le_refl _) (by omega) hk,
    ⟨hh, fun j x hj => (hk.cell (p := ⟨sb, j, none⟩) hsb (by simp)).trans (hb j x hj), ⟨by omega, by omega, by omega⟩, ⟨by omega, by omega, by omega⟩, Nat.le_refl _⟩, hk, by omega⟩

theorem frame_qh {w W w3 w4 : World} {B pb rb hb : Nat} (k0 : Kept [] w W) (k3 : Kr B pb rb W w3) (k4 : ∃ S, Kept S w3 w4 ∧ ∀ x ∈ S, x = pb ∨ x = rb ∨ x = hb ∨ B ≤ x) (h : w.heap.size ≤ pb ∧ w.heap.size ≤ rb ∧ w.heap.size ≤ hb ∧ w.heap.size ≤ B) : Kept [] w w4 := by
  obtain ⟨S3, k3, h3⟩ := k3
  obtain ⟨S, kS, hS⟩ := k4
  refine ((k0.weaken (S' := S3 ++ S) (by simp)).trans ((k3.weaken (fun x hx => .inl (List.mem_append.2 (.inl hx)))).trans (kS.weaken (fun x hx => .inl (List.mem_append.2 (.inr hx)))))).weaken (fun x hx => .inr ?_)
  rcases List.mem_append.1 hx with q | q
  · rcases h3 x q with e | e | e <;> omega
  · rcases hS x q with e | e | e | e <;> omega

/-- What ZZquotedHdoc answers. -/
def ZPost (s stop : List UInt8) (w w' : World) (e : Ending) : Prop :=
  Kept [] w w' ∧ ((∃ b : Nat, First s stop b ∧ e = .returned (.tuple #[.bool (decide (0 < b)), .string ⟨(if 0 < b then s.take b else []).toArray⟩, .bool true])) ∨ ((∀ b, ¬ Hit s stop b) ∧ e = .returned (.tuple #[.bool false, .string ⟨#[]⟩, .bool false])))
theorem tassert (lg : Nat) (w : World) : (Instr.typeAssert (.iface 65 (.pointer (some ⟨lg, 0, none⟩))) 67 65 false).run Tryf.prog w = .ok (.pointer (some ⟨lg, 0, none⟩)) w := by kernel_rfl

set_option maxRecDepth 100000 in
set_option maxHeartbeats 3200000 in
theorem zz_qh {w : World} {A : Option Addr} {n c sb d : Nat} {s stop : List UInt8} {ea : Addr} (hs : SrcB w A n s) (hn : n < 10000000) (hc : n ≤ c) (hb : ∀ j x, stop[j]? = some x → w.cell? ⟨sb, j, none⟩ = some (By x)) (hsb : sb < w.heap.size) (hg : w.cell? ⟨0, 0, none⟩ = some (EOFv ea)) (hT : Tabs w) (hv : Vd s) (hnp : NoPair 13 10 s) (hst : StOk stop) :
    Calls Tryf.prog 11 #[.slice A n c, .slice (some ⟨sb, 0, none⟩) stop.length d] w fun e w' => ZPost s stop w w' e := by
  have HS := Lib.hid hs; have HB := Lib.hid hb; have HG := Lib.hid hg; have HT := Lib.hid hT; have HV := Lib.hid hv; have HNP := Lib.hid hnp; have HST := Lib.hid hst
  obtain ⟨M, hM⟩ : ∃ M, M = stop.length := ⟨_, rfl⟩
  rw [← hM]
  have HM := Lib.hid hM
  clear hs hb hg hT hv hnp hst hM
  have q1 : ∀ (w : World) (a : Option Addr) (n c n' c' : Nat), (binOp .eql 22 (.slice a n c) (.slice none n' c')).run Tryf.prog w = .ok (.bool a.isNone) w := fun w a n c n' c' => Lib.run_eql_slice_nil w _ _ a n c n' c' u8_und
  go_enter Tryf.func11, Tryf.ntmps11
  go_wp2_with (first
    | (go_at_call 21; refine (newreader _ _ _ _).mono ?_; rintro e w1 ⟨rfl, rfl⟩)
    | (refine wpList_parser_qh rfl _ _ rfl w.heap.size (w.heap.size + 1) rfl rfl ?_)
    | (go_at_call 22; (have hw := fresh_qh (d := d) HS.out hn hc HB.out hsb HG.out HT.out HM.out rfl); (refine (next_l hw.1 hw.2.2.2 (by decide) HV.out HNP.out).mono ?_); rintro e w3 ⟨a, rfl, h3, k3⟩; have H3 := Lib.hid h3; have K3 := Lib.hid k3; have KW := Lib.hid hw.2.2.1; have HSZ := Lib.hid (show w.heap.size ≤ w.heap.size + 1 + 1 ∧ w.heap.size ≤ w.heap.size ∧ w.heap.size ≤ w.heap.size + 1 ∧ w.heap.size ≤ _ from ⟨by omega, Nat.le_refl _, by omega, hw.2.2.1.size⟩); have HS3 := Lib.hid (hw.2.1.kept k3); have HE := Lib.hid hw.2.2.2; clear h3 k3 hw)
    | (go_at_call 23; (refine (qh_any H3.out HE.out HS3.out rfl rfl rfl rfl HNP.out HST.out (by have := HS.out.1; omega)).mono ?_); rintro e w4 ⟨kk, h27, ⟨b, hf, hh, ⟨hb0, rfl⟩ | ⟨hb0, wg, lg, rfl, c0, c1, c4⟩⟩ | ⟨hno, rfl, hh⟩⟩))
  · subst hb0
    have HF := Lib.hid hf
    have HKK := Lib.hid (frame_qh KW.out K3.out kk HSZ.out)
    clear kk hf
    go_returns
    exact ⟨HKK.out, .inl ⟨0, HF.out, rfl⟩⟩
  · have HF := Lib.hid hf
    have HKK := Lib.hid (frame_qh KW.out K3.out kk HSZ.out)
    have hdb : decide (0 < b) = true := by simpa using hb0
    have HIF := Lib.hid (if_pos hb0 : (if 0 < b then s.take b else []) = s.take b)
    have q2 := tassert lg
    clear kk hf
    go_quiet (fail)
    go_wp2_with fail
    go_returns
    exact ⟨HKK.out.drewN _, .inl ⟨b, HF.out, by rw [hdb, HIF.out]; rfl⟩⟩
  · have HNO := Lib.hid hno
    have HKK := Lib.hid (frame_qh KW.out K3.out kk HSZ.out)
    clear kk hno
    go_returns
    exact ⟨HKK.out, .inr ⟨HNO.out, rfl⟩⟩
end Go.Proofs.YtnjaeooblfihbaaFmt
