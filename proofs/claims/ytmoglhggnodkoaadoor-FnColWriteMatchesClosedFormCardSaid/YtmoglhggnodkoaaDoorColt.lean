/-
  n010_113: Reset; a sink whose bytes are all held back; two sinks; the concatenation.
-/
import Derived.Test.YtmoglhggnodkoaaDoorColk
namespace Go.Proofs.YtmoglhggnodkoaaDoor
open Go.RowKit

set_option maxRecDepth 100000 in
theorem bw_reset {w : World} {wb rb T b q : Nat} {R : Nat → Option Value} {row : Option Nat} {bs pend : List UInt8} (h : St w wb rb T b q R row bs pend) :
    Calls Tryd.prog 37 #[.pointer (some ⟨wb, 0, none⟩), bufV b q] w fun e w' => e = .returned (.tuple #[]) ∧ St w' wb rb T b q R row bs [] ∧ Kept [wb] w w' := by
  have c1 := h.wr.c1; have c0 := h.wr.c0; have c2 := h.wr.c2; have c3 := h.wr.c3
  have f0 := h.wr.free 0; have f2 := h.wr.free 2; have f3 := h.wr.free 3
  have q1 : ∀ w, (binOp .eql 62 (.iface 40 (.pointer (some ⟨wb, 0, none⟩))) (.iface 50 (.pointer (some ⟨b, q, none⟩)))).run Tryd.prog w = .ok (.bool false) w := fun _ => by kernel_rfl
  have q2 : ∀ (w : World), (binOp .eql 28 (.slice (some ⟨rb, 0, none⟩) 4096 4096) (.slice none 0 0)).run Tryd.prog w = .ok (.bool false) w := fun w => Lib.run_eql_slice_some_nil w _ _ _ u8_und
  have H := Lib.hid h; clear h
  go_enter Tryd.func37, Tryd.ntmps37
  go_wp2_with fail
  go_end0
  have h1 := H.out.wr.setErr
  have h2 := h1.setN [] 0 rfl (by obtain ⟨L, h1, h2, _⟩ := h1.row; exact ⟨L, h1, h2, by simp [Bys]⟩) (by simp)
  have hk : Kept [wb] w ((((w.setCell ⟨wb, 0, none⟩ .nilIface).setCell ⟨wb, 2, none⟩ (.int .i64 0)).setCell ⟨wb, 3, none⟩ (bufV b q))) := (((Kept.refl _ _).setCell (p := ⟨wb, 0, none⟩) (by simp) _).setCell (p := ⟨wb, 2, none⟩) (by simp) _).setCell (p := ⟨wb, 3, none⟩) (by simp) _
  refine ⟨rfl, ⟨⟨?_, ?_, by simp, h2.ne⟩, H.out.bf.kept hk (by simp; exact Ne.symm H.out.d1) (fun g hg => by simp; exact (H.out.d3 g hg).1), H.out.d1, H.out.d2, H.out.d3⟩, hk⟩
  · rw [row_set h2.blk]; rfl
  · obtain ⟨L, h3, h4⟩ := h2.row
    exact ⟨L, by rw [Below.heap_setCell _ _ _ _ h2.ne]; exact h3, h4⟩

set_option maxRecDepth 100000 in
theorem colreset {w : World} {wb rb b : Nat} {col : Int} {ls : Bool} {row : Option Nat} {bs pend : List UInt8} (h : Sk w wb rb b col ls row bs pend) :
    Calls Tryd.prog 32 #[.pointer (some ⟨b, 0, none⟩), bufV b 3] w fun e w' => e = .returned (.tuple #[]) ∧ Sk w' wb rb b 1 true row bs [] ∧ Kept [wb, b] w w' := by
  have c1 := sk_c1 h; have c2 := sk_c2 h
  have f1 := h.bf.free 1; have f2 := h.bf.free 2
  have h2 := sk_ls (sk_col h 1) true
  have c0 := sk_c0 h2
  have HC := Lib.hid (bw_reset h2)
  clear h h2
  go_enter Tryd.func32, Tryd.ntmps32
  go_wp2_with fail
  refine HC.out.mono ?_
  rintro e w' ⟨rfl, h3, hk⟩
  have H3 := Lib.hid h3; have HK := Lib.hid hk; clear h3 hk
  go_wp2_with fail
  go_end0
  exact ⟨rfl, H3.out, (((Kept.refl _ _).setCell (p := ⟨b, 1, none⟩) (by simp) _).setCell (p := ⟨b, 2, none⟩) (by simp) _).trans (HK.out.weaken (by simp))⟩

set_option maxRecDepth 100000 in
theorem zreset {w : World} {wb rb b : Nat} {col : Int} {ls : Bool} {row : Option Nat} {bs pend : List UInt8} (h : Sk w wb rb b col ls row bs pend) :
    Calls Tryd.prog 21 #[.pointer (some ⟨b, 0, none⟩)] w fun e w' => e = .returned (.tuple #[]) ∧ Sk w' wb rb b 1 true row bs [] ∧ Kept [wb, b] w w' := by
  have HC := Lib.hid (colreset h.drew)
  clear h
  go_enter Tryd.func21, Tryd.ntmps21
  go_wp2_with fail
  go_region_with (go_at_call 32; refine HC.out.mono ?_; rintro e w' ⟨rfl, h3, hk⟩; have H3 := Lib.hid h3; have HK := Lib.hid hk; clear h3 hk)
  all_goals (
    go_wp2_with fail
    go_end0
    exact ⟨rfl, H3.out, ((Kept.refl _ _).drew).trans HK.out⟩)

/-- A sink all of whose bytes are held back. -/
structure Fr (w0 : World) (s : Snk) (w : World) : Prop where
  sk : Sk w s.wb s.rb s.b s.col s.ls none [] s.out
  kept : Kept [] w0 w
  new : ∀ x ∈ s.bl none, w0.heap.size ≤ x
def Snk.fresh (s : Snk) : Snk := { s with col := 1, ls := true, out := [] }
section
variable {w0 w : World} {s : Snk}
theorem Fr.one (h : Fr w0 s w) : One w0 s w := ⟨none, ⟨[], s.out, h.sk, rfl⟩, h.kept, h.new⟩
theorem fr_new (w : World) (col : Int) (ls : Bool) :
    Calls Tryd.prog 10 #[.int .i64 col, .bool ls] w fun e w' => e = .returned (.pointer (some ⟨w.heap.size, 0, none⟩)) ∧ Fr w ⟨w.heap.size + 2, w.heap.size + 1, w.heap.size, col, ls, []⟩ w' := by
  refine (newsink w col ls).mono ?_
  rintro e w' ⟨rfl, h, hk⟩
  exact ⟨rfl, h, hk, by simp [Snk.bl]⟩
theorem fr_reset (h : Fr w0 s w) : Calls Tryd.prog 21 #[.pointer (some ⟨s.b, 0, none⟩)] w fun e w' => e = .returned (.tuple #[]) ∧ Fr w0 s.fresh w' := by
  refine (zreset h.sk).mono ?_
  rintro e w' ⟨rfl, h3, hk⟩
  refine ⟨rfl, h3, h.kept.trans2 hk fun x hx => .inr ?_, h.new⟩
  simp only [List.mem_cons, List.not_mem_nil, or_false] at hx
  rcases hx with rfl | rfl
  · exact h.new _ (by simp [Snk.bl])
  · exact h.new _ (by simp [Snk.bl])
theorem Fr.turn {w' : World} {s' : Snk} (h : Fr w0 s w) (e1 : s'.wb = s.wb) (e2 : s'.rb = s.rb) (e3 : s'.b = s.b) (hs : Sk w' s.wb s.rb s.b s'.col s'.ls none [] s'.out) (hm : Mv s.wb s.rb s.b none none w w') : Fr w0 s' w' :=
  ⟨by rw [e1, e2, e3]; exact hs, h.kept.trans2 hm.2 fun x hx => .inr (h.new x hx), by unfold Snk.bl; rw [e1, e2, e3]; exact h.new⟩

set_option maxRecDepth 100000 in
theorem fr_write (h : Fr w0 s w) (A : Option Addr) (n c : Nat) (p : List UInt8) (hp : Low w0 A n c p) (hl : s.out.length + n ≤ 4096) (hc1 : 0 ≤ s.col) (hc2 : s.col ≤ 100000000000) :
    Calls Tryd.prog 18 #[.pointer (some ⟨s.b, 0, none⟩), .slice A n c] w fun e w' => e = .returned (.tuple #[.int .i64 n, .bool true]) ∧ Fr w0 (s.put p) w' := by
  rcases hp.2.1 with ⟨rfl, rfl, rfl⟩ | ⟨g, o, rfl, hg⟩
  · obtain rfl : p = [] := List.eq_nil_of_length_eq_zero hp.1.1
    refine (zwrite_nil h.sk).mono ?_
    rintro e w' ⟨rfl, h1, hm⟩
    exact ⟨rfl, h.turn rfl rfl rfl (by simpa [Snk.put, foldC] using h1) hm⟩
  · have hpl := hp.1.1
    have hsg : g < w.heap.size := Nat.lt_of_lt_of_le hg h.kept.size
    have hgn : ∀ x ∈ s.bl none, g ≠ x := fun x hx e => by have := h.new x hx; omega
    have hcc : ∀ j x, p[j]? = some x → w.cell? ⟨g, o + j, none⟩ = some (By x) := by
      intro j x hj
      have hj2 : j < p.length := (List.getElem?_eq_some_iff.1 hj).1
      obtain ⟨g', o', e, _, hcc⟩ := (hp.1.kept h.kept (by simp)).2 (by omega)
      cases e
      exact hcc j x hj
    have hcon : Calls Tryd.prog 31 #[.pointer (some ⟨s.b, 0, none⟩), .slice (some ⟨g, o, none⟩) n c] w fun e w' => e = .returned (.tuple #[.int .i64 n, .nilIface]) ∧ Fr w0 (s.put p) w' := by
      refine colwrite_gen h.sk g o n c p hpl (fun _ => hsg) hcc (fun hm => hgn g hm rfl) hp.2.2.1 (by omega) hc1 hc2 _ ?_
      intro w1 h1 hk1
      refine (bw_write_small h1 g o n c p hpl (fun j x hj => (hk1.cell (p := ⟨g, o + j, none⟩) hsg (by simp; exact hgn s.b (by simp [Snk.bl]))).trans (hcc j x hj)) hl).mono ?_
      rintro e w' ⟨rfl, h2, hm⟩
      exact ⟨rfl, h.turn (s' := s.put p) rfl rfl rfl h2 ((Mv.of (hk1.weaken (by simp))).trans hm)⟩
    have HC := Lib.hid hcon
    clear hcon hp hcc hgn h
    go_enter Tryd.func18, Tryd.ntmps18
    go_wp2_with fail
    refine HC.out.mono ?_
    rintro e w' ⟨rfl, h2⟩
    have H2 := Lib.hid h2; clear h2 HC
    go_wp2_with fail
    go_quiet (fail)
    go_wp2_with fail
    go_ret2
    exact ⟨rfl, H2.out.turn rfl rfl rfl (H2.out.sk.drewN _) (Mv.of ((Kept.refl _ _).drewN _))⟩

set_option maxRecDepth 100000 in
theorem fr_writeString (h : Fr w0 s w) (str : ByteArray) (n : Nat) (p : List UInt8) (hps : p = str.data.toList) (hpl : p.length = n) (hl : s.out.length + n ≤ 4096) (hc1 : 0 ≤ s.col) (hc2 : s.col ≤ 100000000000) :
    Calls Tryd.prog 11 #[.pointer (some ⟨s.b, 0, none⟩), .string str] w fun e w' => e = .returned (.tuple #[.int .i64 n, .bool true]) ∧ Fr w0 (s.put p) w' := by
  have hcon : Calls Tryd.prog 26 #[.pointer (some ⟨s.b, 0, none⟩), .string str] w fun e w' => e = .returned (.tuple #[.int .i64 n, .nilIface]) ∧ Fr w0 (s.put p) w' := by
    refine colwriteString_gen h.sk str n p hps hpl (by omega) hc1 hc2 _ ?_
    intro w1 h1 hk1
    refine (bw_writeString_small h1 str n p hps hpl hl).mono ?_
    rintro e w' ⟨rfl, h2, hm⟩
    exact ⟨rfl, h.turn (s' := s.put p) rfl rfl rfl h2 ((Mv.of (hk1.weaken (by simp))).trans hm)⟩
  have HC := Lib.hid hcon
  clear hcon hps hpl h
  go_enter Tryd.func11, Tryd.ntmps11
  go_wp2_with fail
  refine HC.out.mono ?_
  rintro e w' ⟨rfl, h2⟩
  have H2 := Lib.hid h2; clear h2 HC
  go_wp2_with fail
  go_quiet (fail)
  go_wp2_with fail
  go_ret2
  exact ⟨rfl, H2.out.turn rfl rfl rfl (H2.out.sk.drewN _) (Mv.of ((Kept.refl _ _).drewN _))⟩
end

/-- Two sinks. -/
def Two (w0 : World) (s t : Snk) (w : World) : Prop := ∃ r1 r2, Sn w0 s r1 w ∧ Sn w0 t r2 w ∧ ∀ x ∈ s.bl r1, x ∉ t.bl r2
section
variable {w0 w5 w w' : World} {s t : Snk}
theorem One.away (h : One w0 s w) (k : Kept [] w w') : One w0 s w' := by obtain ⟨row, h⟩ := h; exact ⟨row, h.away k (by simp) (by simp)⟩
theorem Two.of (h1 : One w0 s w5) (h2 : One w5 t w) : Two w0 s t w := by
  obtain ⟨r1, h1⟩ := h1
  obtain ⟨r2, h2⟩ := h2
  have hz := h1.kept.size
  refine ⟨r1, r2, h1.away h2.kept (by simp) (by simp), ⟨h2.sk, h1.kept.trans h2.kept, fun x hx => by have := h2.new x hx; omega⟩, fun x hx hx2 => ?_⟩
  have := h1.lt x hx
  have := h2.new x hx2
  omega
theorem Two.symm (h : Two w0 s t w) : Two w0 t s w := by
  obtain ⟨r1, r2, h1, h2, hd⟩ := h
  exact ⟨r2, r1, h2, h1, fun x hx hx2 => hd x hx2 hx⟩
theorem Two.kept (h : Two w0 s t w) : Kept [] w0 w := by obtain ⟨r1, r2, h1, h2, hd⟩ := h; exact h1.kept
theorem Two.drew (h : Two w0 s t w) : Two w0 s t w.drew := by obtain ⟨r1, r2, h1, h2, hd⟩ := h; exact ⟨r1, r2, h1.drew, h2.drew, hd⟩
theorem two_col1 (h : Two w0 s t w) {C : Int} (hC : s.col = C) : Calls Tryd.prog 13 #[.pointer (some ⟨s.b, 0, none⟩)] w fun e w' => e = .returned (.int .i64 C) ∧ w = w' := by
  obtain ⟨r1, r2, h1, h2, hd⟩ := h
  subst hC
  exact sn_col h1
theorem two_col2 (h : Two w0 s t w) {C : Int} (hC : t.col = C) : Calls Tryd.prog 13 #[.pointer (some ⟨t.b, 0, none⟩)] w fun e w' => e = .returned (.int .i64 C) ∧ w = w' := two_col1 h.symm hC
theorem two_ls1 (h : Two w0 s t w) {C : Bool} (hC : s.ls = C) : Calls Tryd.prog 14 #[.pointer (some ⟨s.b, 0, none⟩)] w fun e w' => e = .returned (.bool C) ∧ w = w' := by
  obtain ⟨r1, r2, h1, h2, hd⟩ := h
  subst hC
  exact sn_ls h1
theorem two_ls2 (h : Two w0 s t w) {C : Bool} (hC : t.ls = C) : Calls Tryd.prog 14 #[.pointer (some ⟨t.b, 0, none⟩)] w fun e w' => e = .returned (.bool C) ∧ w = w' := two_ls1 h.symm hC
theorem two_out1 (h : Two w0 s t w) {O : List UInt8} (hO : s.out = O) (hl : O.length ≤ 100000000000) : Calls Tryd.prog 15 #[.pointer (some ⟨s.b, 0, none⟩)] w fun e w' => e = .returned (.string ⟨O.toArray⟩) ∧ Two w0 s t w' := by
  obtain ⟨r1, r2, h1, h2, hd⟩ := h
  subst hO
  refine (sn_out h1 hl).mono ?_
  rintro e w' ⟨rfl, r1', h3, hm⟩
  refine ⟨rfl, r1', r2, h3, h2.away hm.2 (fun x hx hx2 => hd x hx2 hx) (fun x hx => h1.new x hx), fun x hx hx2 => ?_⟩
  simp only [Snk.bl, List.mem_cons, Option.mem_toList] at hx
  rcases hx with hx | hx | hx | hx
  · exact hd x (by simp [Snk.bl, hx]) hx2
  · exact hd x (by simp [Snk.bl, hx]) hx2
  · exact hd x (by simp [Snk.bl, hx]) hx2
  · rcases hm.1 x hx with e | e
    · subst e; exact hd x (by simp only [Snk.bl, List.mem_cons, Option.mem_toList]; exact .inr (.inr (.inr hx))) hx2
    · have := h2.lt x hx2; omega
theorem two_out2 (h : Two w0 s t w) {O : List UInt8} (hO : t.out = O) (hl : O.length ≤ 100000000000) : Calls Tryd.prog 15 #[.pointer (some ⟨t.b, 0, none⟩)] w fun e w' => e = .returned (.string ⟨O.toArray⟩) ∧ Two w0 s t w' :=
  (two_out1 h.symm hO hl).mono fun _ _ ⟨he, h2⟩ => ⟨he, h2.symm⟩
/-- A write out of a block that was made behind the sink. -/
theorem one_write_new {w1 : World} (h : One w0 s w) (k : Kept [] w w1) (n c : Nat) (p : List UInt8) (hp : SrcB w1 (some ⟨w.heap.size, 0, none⟩) n p) (hz : w.heap.size < w1.heap.size) (hnc : n ≤ c) (hc : c ≤ 9223372036854775807) (hl : s.out.length + n ≤ 100000000000) (hc1 : 0 ≤ s.col) (hc2 : s.col ≤ 100000000000) :
    Calls Tryd.prog 18 #[.pointer (some ⟨s.b, 0, none⟩), .slice (some ⟨w.heap.size, 0, none⟩) n c] w1 fun e w' => e = .returned (.tuple #[.int .i64 n, .bool true]) ∧ One w0 (s.put p) w' := by
  obtain ⟨row, h⟩ := h
  refine (sn_write (h.away k (by simp) (by simp)) _ n c p hp (.inr ⟨_, _, rfl, hz, fun hm => by have := h.lt _ hm; omega⟩) hnc hc hl hc1 hc2).mono ?_
  rintro e w' ⟨rfl, row', h, _⟩
  exact ⟨rfl, row', h⟩
end

/-- '[]byte(s)': the new row is the last block. -/
theorem wpList_bytesM {w : World} {ops : Array Oper} {rest : List Oper} {o : Oper} {a : Act} {Q : Exit → Act → World → Prop} (hgd : o.guard = none) (x : Operand) (ho : o.op = .convert 9 28 x) (s : ByteArray) (hx : a.eval x = .string s) (hm : s.size ≤ 9223372036854775807)
    (h : ∀ cap w', SrcB w' (some ⟨w.heap.size, 0, none⟩) s.size s.data.toList → s.size ≤ cap → cap ≤ 9223372036854775807 → Kept [] w w' → w'.heap.size = w.heap.size + 1 → wpList Tryd.prog ops Q rest (a.put o.dst (.slice (some ⟨w.heap.size, 0, none⟩) s.size cap)) w') : wpList Tryd.prog ops Q (o :: rest) a w := by
  refine wpList_plain hgd fun K hK => ?_
  have hrun := Lib.run_convert_string_bytes (P := Tryd.prog) w 9 28 5 s (u := .string) (by kernel_rfl) u8_und (by kernel_rfl)
  have hs : SrcB (Lib.bytesWorld w 5 s) (some ⟨w.heap.size, 0, none⟩) s.size s.data.toList := by
    refine ⟨rfl, fun _ => ⟨w.heap.size, 0, rfl, by rw [Lib.bytesWorld_size]; omega, fun j c hj => ?_⟩⟩
    have hlt : j < s.size := (List.getElem?_eq_some_iff.1 hj).1
    rw [Nat.zero_add, Lib.bytesWorld_cell w _ s j hlt]
    simp only [List.getD_eq_getElem?_getD, hj]
    rfl
  have hcap : s.size ≤ grownCap w s.size 0 5 := by unfold grownCap Question.cut; simp
  have hcap2 : grownCap w s.size 0 5 ≤ 9223372036854775807 := grownCap_le_maxLen w s.size 0 5 hm
  unfold Oper.wp
  simp only [execOp, ho, hx, Sem.run_bind, hrun, Result.andThen_ok]
  exact hK _ _ (h _ _ hs hcap hcap2 (kept_bytesWorld w _ s) (Lib.bytesWorld_size ..))

set_option maxRecDepth 100000 in
set_option maxHeartbeats 800000 in
theorem concat (w : World) (A B : Option Addr) (n c m d : Nat) (l l2 : List UInt8) (h1 : SrcB w A n l) (h2 : SrcB w B m l2) (hnm : n + m < 1000000000) :
    Calls Tryd.prog 23 #[.slice A n c, .slice B m d] w fun e w' => e = .returned (.slice (some ⟨w.heap.size, 0, none⟩) (n + m) (n + m)) ∧ w'.heap[w.heap.size]? = some (.cells (Bys (l ++ l2)).toArray 5 (0, 0)) ∧ Kept [] w w' := by
  have q2 : ∀ w : World, (Instr.makeSlice 28 (.int .i64 ((n : Int) + m)) (.int .i64 ((n : Int) + m))).run Tryd.prog w = .ok (.slice (some ⟨w.heap.size, 0, none⟩) (n + m) (n + m)) (w.alloc (.cells (zs (n + m)).toArray 5)) := fun w => by
    have h := make_u8 (n + m) hnm w
    simpa using h
  obtain ⟨L, hL⟩ : ∃ L, L = l ++ l2 := ⟨_, rfl⟩
  have hLl : L.length = n + m := by rw [hL, List.length_append, h1.1, h2.1]
  have hL1 : ∀ k, k < n → L[k]? = l[k]? := fun k hk => by rw [hL, List.getElem?_append_left (by rw [h1.1]; exact hk)]
  have hL2 : ∀ k, L[n + k]? = l2[k]? := fun k => by rw [hL, List.getElem?_append_right (by rw [h1.1]; omega), h1.1]; congr 1; omega
  have H1 := Lib.hid h1; have H2 := Lib.hid h2; have HL := Lib.hid hLl; have HL1 := Lib.hid hL1; have HL2 := Lib.hid hL2
  have HE := Lib.hid hL
  clear hLl hL1 hL2 h1 h2 hL
  go_enter Tryd.func23, Tryd.ntmps23
  go_wp2
  clear q2
  have hst : (w.alloc (.cells (zs (n + m)).toArray 5)).heap[w.heap.size]? = some (.cells (Bys (L.take 0) ++ zs (n + m - 0)).toArray 5 (0, 0)) := by
    rw [heap_alloc_new]; simp [Bys]
  have hst2 : Kept [] w (w.alloc (.cells (zs (n + m)).toArray 5)) := (Kept.refl _ _).alloc _
  have HS1 := Lib.hid hst
  have HS2 := Lib.hid hst2
  clear hst hst2
  go_loopw [6] (fun i wr => ∃ k : Nat, k ≤ n ∧ i = .int .i64 k ∧ Hid (wr.heap[w.heap.size]? = some (.cells (Bys (L.take k) ++ zs (n + m - k)).toArray 5 (0, 0))) ∧ Hid (Kept [] w wr)) (fun i _ => n - (intOf i).toNat)
  case atStart => exact ⟨0, Nat.zero_le _, rfl, HS1, HS2⟩
  case round =>
    obtain ⟨k, hk, rfl, hb, hkp⟩ := hrel
    clear HS1 HS2
    by_cases hlt : k < n
    · obtain ⟨x, hx⟩ : ∃ x, l[k]? = some x := ⟨l[k]'(by have := H1.out.1; omega), List.getElem?_eq_getElem _⟩
      obtain ⟨g, o, hA, hg, hcc⟩ := H1.out.2 (by omega)
      subst hA
      have hcs : wr.cell? ⟨g, o + k, none⟩ = some (.int .u8 x.toNat) := (hkp.out.cell (p := ⟨g, o + k, none⟩) hg (by simp)).trans (hcc k x hx)
      have hco : ∃ v, wr.cell? ⟨w.heap.size, k, none⟩ = some v := by
        rw [row_cell hb.out]
        have : k < (Bys (L.take k) ++ zs (n + m - k)).length := by have := HL.out; simp [zs]; omega
        exact ⟨_, List.getElem?_eq_getElem this⟩
      obtain ⟨v0, hco⟩ := hco
      have hfo := row_free hb.out k
      have HX := Lib.hid hx; have HCC := Lib.hid hcc; clear hx hcc
      have hknm : (k : Int) < (n : Int) + m := by omega
      go_wp2
      go_roundw
      case rel =>
        refine ⟨k + 1, by omega, by go_num, ?_, ?_⟩
        · have h1 := row_set hb.out k (By x)
          rw [set_step L (n + m) k x HL.out ((HL1.out k hlt).trans HX.out)] at h1
          exact h1
        · have : Kept [w.heap.size] wr (wr.setCell ⟨w.heap.size, k, none⟩ (By x)) := (Kept.refl _ _).setCell (by simp) _
          exact (hkp.out.weaken (S' := [w.heap.size]) (by simp)).trans this |>.weaken (by simp)
      case measure => simp [intOf]; omega
    · have hkn : k = n := by omega
      subst hkn
      obtain ⟨wo, rfl⟩ : ∃ wo : World, wo = wr := ⟨_, rfl⟩
      go_wp2
      go_loopw [7] (fun i wr => ∃ j : Nat, j ≤ m ∧ i = .int .i64 j ∧ Hid (wr.heap[w.heap.size]? = some (.cells (Bys (L.take (k + j)) ++ zs (k + m - (k + j))).toArray 5 (0, 0))) ∧ Hid (Kept [] w wr)) (fun i _ => m - (intOf i).toNat)
      case atStart => exact ⟨0, Nat.zero_le _, rfl, hb, hkp⟩
      case round =>
        clear hb hkp
        obtain ⟨j, hj, rfl, hb, hkp⟩ := hrel
        by_cases hlt2 : j < m
        · obtain ⟨x, hx⟩ : ∃ x, l2[j]? = some x := ⟨l2[j]'(by have := H2.out.1; omega), List.getElem?_eq_getElem _⟩
          obtain ⟨g, o, hA, hg, hcc⟩ := H2.out.2 (by omega)
          subst hA
          have hcs : wr.cell? ⟨g, o + j, none⟩ = some (.int .u8 x.toNat) := (hkp.out.cell (p := ⟨g, o + j, none⟩) hg (by simp)).trans (hcc j x hx)
          have hco : ∃ v, wr.cell? ⟨w.heap.size, k + j, none⟩ = some v := by
            rw [row_cell hb.out]
            have : k + j < (Bys (L.take (k + j)) ++ zs (k + m - (k + j))).length := by have := HL.out; simp [zs]; omega
            exact ⟨_, List.getElem?_eq_getElem this⟩
          obtain ⟨v0, hco⟩ := hco
          have hfo := row_free hb.out (k + j)
          have HX := Lib.hid hx; have HCC := Lib.hid hcc; clear hx hcc
          have e1 : ((k : Int) + j).toNat = k + j := by omega
          go_wp2
          go_roundw
          case rel =>
            refine ⟨j + 1, by omega, by go_num, ?_, ?_⟩
            · have h1 := row_set hb.out (k + j) (By x)
              rw [set_step L (k + m) (k + j) x HL.out ((HL2.out j).trans HX.out)] at h1
              exact h1
            · have : Kept [w.heap.size] wr (wr.setCell ⟨w.heap.size, k + j, none⟩ (By x)) := (Kept.refl _ _).setCell (by simp) _
              exact (hkp.out.weaken (S' := [w.heap.size]) (by simp)).trans this |>.weaken (by simp)
          case measure => simp [intOf]; omega
        · go_wp2
          go_ret
          have hkn : j = m := by omega
          subst hkn
          refine ⟨rfl, ?_, hkp.out⟩
          have h1 := hb.out
          rw [List.take_of_length_le (by have := HL.out; omega), Nat.sub_self] at h1
          rw [← HE.out]
          simpa [zs] using h1

section
variable {w0 w : World} {s : Snk}
theorem one_colC (h : One w0 s w) {C : Int} (hC : s.col = C) : Calls Tryd.prog 13 #[.pointer (some ⟨s.b, 0, none⟩)] w fun e w' => e = .returned (.int .i64 C) ∧ w = w' := by subst hC; exact one_col h
theorem one_lsC (h : One w0 s w) {C : Bool} (hC : s.ls = C) : Calls Tryd.prog 14 #[.pointer (some ⟨s.b, 0, none⟩)] w fun e w' => e = .returned (.bool C) ∧ w = w' := by subst hC; exact one_ls h
end
end Go.Proofs.YtmoglhggnodkoaaDoor
