/-
  n010_113's sink and its byte helpers, walked.
-/
import Derived.Test.YtmoglhggnodkoaaDoorColm
namespace Go.Proofs.YtmoglhggnodkoaaDoor
open Go.RowKit

set_option maxRecDepth 100000 in
set_option maxHeartbeats 400000 in
theorem clone_some (w : World) (g o n c : Nat) (l : List UInt8) (hn : n < 1000000000) (hl : l.length = n) (hg : 0 < n → g < w.heap.size) (hc : ∀ j x, l[j]? = some x → w.cell? ⟨g, o + j, none⟩ = some (By x)) :
    Calls Tryd.prog 17 #[.slice (some ⟨g, o, none⟩) n c] w fun e w' => e = .returned (.slice (some ⟨w.heap.size, 0, none⟩) n n) ∧ w'.heap[w.heap.size]? = some (.cells (Bys l).toArray 5 (0, 0)) ∧ Kept [] w w' := by
  have q1 : ∀ (w : World) (a : Option Addr) (n c n' c' : Nat), (binOp .eql 28 (.slice a n c) (.slice none n' c')).run Tryd.prog w = .ok (.bool a.isNone) w := fun w a n c n' c' => Lib.run_eql_slice_nil w _ _ a n c n' c' u8_und
  have q2 := fun w => make_u8 n hn w
  have HL := Lib.hid hl
  have HC := Lib.hid hc
  have HG := Lib.hid hg
  clear hl hc hg
  go_enter Tryd.func17, Tryd.ntmps17
  go_wp2
  clear q1 q2
  have hst : (w.alloc (.cells (zs n).toArray 5)).heap[w.heap.size]? = some (.cells (Bys (l.take 0) ++ zs (n - 0)).toArray 5 (0, 0)) := by
    rw [heap_alloc_new]; simp [Bys]
  have hst2 : Kept [] w (w.alloc (.cells (zs n).toArray 5)) := (Kept.refl _ _).alloc _
  have HS1 := Lib.hid hst
  have HS2 := Lib.hid hst2
  clear hst hst2
  go_loopw [4] (fun i wr => ∃ k : Nat, k ≤ n ∧ i = .int .i64 k ∧ Hid (wr.heap[w.heap.size]? = some (.cells (Bys (l.take k) ++ zs (n - k)).toArray 5 (0, 0))) ∧ Hid (Kept [] w wr)) (fun i _ => n - (intOf i).toNat)
  case atStart => exact ⟨0, Nat.zero_le _, rfl, HS1, HS2⟩
  case round =>
    obtain ⟨k, hk, rfl, hb, hkp⟩ := hrel
    by_cases hlt : k < n
    · obtain ⟨x, hx⟩ : ∃ x, l[k]? = some x := ⟨l[k]'(by have := HL.out; omega), List.getElem?_eq_getElem _⟩
      have hcs : wr.cell? ⟨g, o + k, none⟩ = some (By x) := by
        rw [hkp.out.cell (p := ⟨g, o + k, none⟩) (HG.out (by omega)) (by simp)]; exact HC.out k x hx
      have hco : ∃ v, wr.cell? ⟨w.heap.size, k, none⟩ = some v := by
        rw [row_cell hb.out]
        have : k < (Bys (l.take k) ++ zs (n - k)).length := by have := HL.out; simp [zs]; omega
        exact ⟨_, List.getElem?_eq_getElem this⟩
      obtain ⟨v0, hco⟩ := hco
      have hfo := row_free hb.out k
      have HX := Lib.hid hx; clear hx
      unfold By at hcs
      go_wp2
      go_roundw
      case rel =>
        refine ⟨k + 1, by omega, by go_num, ?_, ?_⟩
        · have h1 := row_set hb.out k (By x)
          rw [set_step l n k x HL.out HX.out] at h1
          exact h1
        · have : Kept [w.heap.size] wr (wr.setCell ⟨w.heap.size, k, none⟩ (By x)) := (Kept.refl _ _).setCell (by simp) _
          exact (hkp.out.weaken (S' := [w.heap.size]) (by simp)).trans this |>.weaken (by simp)
      case measure => simp [intOf]; omega
    · go_wp2
      go_ret
      have hkn : k = n := by omega
      subst hkn
      refine ⟨rfl, ?_, hkp.out⟩
      have h1 := hb.out
      rw [List.take_of_length_le (by have := HL.out; omega), Nat.sub_self] at h1
      simpa [zs] using h1

theorem clone_nil (w : World) (n c : Nat) :
    Calls Tryd.prog 17 #[.slice none n c] w fun e w' => e = .returned (.slice none 0 0) ∧ w = w' := by
  have q1 : ∀ (w : World) (a : Option Addr) (n c n' c' : Nat), (binOp .eql 28 (.slice a n c) (.slice none n' c')).run Tryd.prog w = .ok (.bool a.isNone) w := fun w a n c n' c' => Lib.run_eql_slice_nil w _ _ a n c n' c' u8_und
  go_enter Tryd.func17, Tryd.ntmps17
  go_wp2
  go_ret
  exact ⟨rfl, rfl⟩

set_option maxRecDepth 100000 in
theorem clone_zero (w : World) (ad : Addr) (c : Nat) :
    Calls Tryd.prog 17 #[.slice (some ad) 0 c] w fun e w' => e = .returned (.slice (some ⟨w.heap.size, 0, none⟩) 0 0) ∧ Kept [] w w' := by
  have q1 : ∀ (w : World) (a : Option Addr) (n c n' c' : Nat), (binOp .eql 28 (.slice a n c) (.slice none n' c')).run Tryd.prog w = .ok (.bool a.isNone) w := fun w a n c n' c' => Lib.run_eql_slice_nil w _ _ a n c n' c' u8_und
  have q2 : ∀ w, (Instr.makeSlice 28 (.int .i64 0) (.int .i64 0)).run Tryd.prog w = .ok (.slice (some ⟨w.heap.size, 0, none⟩) 0 0) (w.alloc (.cells (zs 0).toArray 5)) := fun w => make_u8 0 (by omega) w
  go_enter Tryd.func17, Tryd.ntmps17
  go_wp2
  refine wp_loop_once ?_
  go_wp2
  go_ret
  exact ⟨rfl, (Kept.refl _ _).alloc _⟩

set_option maxRecDepth 100000 in
theorem clone_zero2 (w : World) (ad : Addr) (c : Nat) :
    Calls Tryd.prog 17 #[.slice (some ad) 0 c] w fun e w' => e = .returned (.slice (some ⟨w.heap.size, 0, none⟩) 0 0) ∧ Kept [] w w' ∧ w.heap.size < w'.heap.size := by
  have q1 : ∀ (w : World) (a : Option Addr) (n c n' c' : Nat), (binOp .eql 28 (.slice a n c) (.slice none n' c')).run Tryd.prog w = .ok (.bool a.isNone) w := fun w a n c n' c' => Lib.run_eql_slice_nil w _ _ a n c n' c' u8_und
  have q2 : ∀ w, (Instr.makeSlice 28 (.int .i64 0) (.int .i64 0)).run Tryd.prog w = .ok (.slice (some ⟨w.heap.size, 0, none⟩) 0 0) (w.alloc (.cells (zs 0).toArray 5)) := fun w => make_u8 0 (by omega) w
  go_enter Tryd.func17, Tryd.ntmps17
  go_wp2
  refine wp_loop_once ?_
  go_wp2
  go_ret
  exact ⟨rfl, (Kept.refl _ _).alloc _, by simp⟩

/-- The clone reads as what it was made of. -/
theorem clone_spec (w : World) (A : Option Addr) (n c : Nat) (l : List UInt8) (hn : n < 1000000000) (hA : A = none → n = 0 ∧ c = 0) (h : SrcB w A n l) :
    Calls Tryd.prog 17 #[.slice A n c] w fun e w' => ∃ A', e = .returned (.slice A' n n) ∧ SrcB w' A' n l ∧ Kept [] w w' := by
  cases A with
  | none =>
    obtain ⟨rfl, rfl⟩ := hA rfl
    refine (clone_nil w 0 0).mono ?_
    rintro e w' ⟨rfl, rfl⟩
    exact ⟨none, rfl, h, Kept.refl _ _⟩
  | some a =>
    by_cases h0 : 0 < n
    · obtain ⟨g, o, e, hg, hc⟩ := h.2 h0
      obtain rfl : a = ⟨g, o, none⟩ := Option.some.inj e
      refine (clone_some w g o n c l hn h.1 (fun _ => hg) hc).mono ?_
      rintro e w' ⟨rfl, hb, hk⟩
      exact ⟨_, rfl, SrcB.row hb h.1, hk⟩
    · obtain rfl : n = 0 := by omega
      refine (clone_zero w a c).mono ?_
      rintro e w' ⟨rfl, hk⟩
      exact ⟨_, rfl, ⟨h.1, fun h => absurd h (by omega)⟩, hk⟩

theorem sink_built : Tryd.prog.built TS [] = some #[.pointer none, .int .i64 0, .bool false, .slice none 0 0, .int .i64 0, .int .i8 0] := by kernel_rfl

theorem sink_end {w w2 : World} {col : Int} {ls : Bool} (hwb : Wb w2 (w.heap.size + 2) (w.heap.size + 1) (bufV w.heap.size 3) []) (hb : w2.heap[w.heap.size]? = some (.cells #[.pointer none, .int .i64 0, .bool false, .slice none 0 0, .int .i64 0, .int .i8 0] TS (0, 0))) (hk : Kept [] w w2) :
    Sk (((w2.setCell ⟨w.heap.size, 0, none⟩ (.pointer (some ⟨w.heap.size + 2, 0, none⟩))).setCell ⟨w.heap.size, 1, none⟩ (.int .i64 col)).setCell ⟨w.heap.size, 2, none⟩ (.bool ls)) (w.heap.size + 2) (w.heap.size + 1) w.heap.size col ls none [] [] ∧
    Kept [] w (((w2.setCell ⟨w.heap.size, 0, none⟩ (.pointer (some ⟨w.heap.size + 2, 0, none⟩))).setCell ⟨w.heap.size, 1, none⟩ (.int .i64 col)).setCell ⟨w.heap.size, 2, none⟩ (.bool ls)) := by
  have hk2 : Kept [w.heap.size] w2 (((w2.setCell ⟨w.heap.size, 0, none⟩ (.pointer (some ⟨w.heap.size + 2, 0, none⟩))).setCell ⟨w.heap.size, 1, none⟩ (.int .i64 col)).setCell ⟨w.heap.size, 2, none⟩ (.bool ls)) := (((Kept.refl _ _).setCell (p := ⟨w.heap.size, 0, none⟩) (by simp) _).setCell (p := ⟨w.heap.size, 1, none⟩) (by simp) _).setCell (p := ⟨w.heap.size, 2, none⟩) (by simp) _
  refine ⟨⟨hwb.kept hk2 (by simp) (by simp), ⟨0, .inl ⟨rfl, rfl, ?_⟩⟩, by omega, by omega, by simp⟩, ((hk.weaken (S' := [w.heap.size]) (by simp)).trans hk2).weaken (by simp)⟩
  have h1 := row_set (L := [.pointer none, .int .i64 0, .bool false, .slice none 0 0, .int .i64 0, .int .i8 0]) hb 0 (.pointer (some ⟨w.heap.size + 2, 0, none⟩))
  have h2 := row_set h1 1 (.int .i64 col)
  have h3 := row_set h2 2 (.bool ls)
  refine ⟨_, h3, rfl, rfl, rfl, fun i hi => ?_⟩
  match i with
  | 0 => rfl
  | 1 => rfl
  | 2 => rfl
  | (j + 3) =>
    have : 3 ≤ j := by omega
    show (#[_, _, _, _, _, _] : Array Value)[j + 3]? = none
    exact Array.getElem?_eq_none (by simp; omega)

set_option maxRecDepth 100000 in
theorem newsink (w : World) (col : Int) (ls : Bool) :
    Calls Tryd.prog 10 #[.int .i64 col, .bool ls] w fun e w' => e = .returned (.pointer (some ⟨w.heap.size, 0, none⟩)) ∧ Sk w' (w.heap.size + 2) (w.heap.size + 1) w.heap.size col ls none [] [] ∧ Kept [] w w' := by
  have q0 := sink_built
  go_enter Tryd.func10, Tryd.ntmps10
  go_wp2_with fail
  refine (newwriter _ w.heap.size 3).mono ?_
  rintro e w2 ⟨rfl, hwb, hk2, hz2⟩
  have hsz : (w.alloc (.cells #[.pointer none, .int .i64 0, .bool false, .slice none 0 0, .int .i64 0, .int .i8 0] TS)).heap.size = w.heap.size + 1 := by simp
  rw [hsz] at hwb hz2
  rw [hsz]
  have hb : w2.heap[w.heap.size]? = some (.cells #[.pointer none, .int .i64 0, .bool false, .slice none 0 0, .int .i64 0, .int .i8 0] TS (0, 0)) := (hk2.block _ (by rw [hsz]; omega) (by simp)).trans (heap_alloc_new _ _)
  have c0 : w2.cell? ⟨w.heap.size, 0, none⟩ = some (.pointer none) := row_cell (L := [.pointer none, .int .i64 0, .bool false, .slice none 0 0, .int .i64 0, .int .i8 0]) hb 0
  have c1 : w2.cell? ⟨w.heap.size, 1, none⟩ = some (.int .i64 0) := row_cell (L := [.pointer none, .int .i64 0, .bool false, .slice none 0 0, .int .i64 0, .int .i8 0]) hb 1
  have c2 : w2.cell? ⟨w.heap.size, 2, none⟩ = some (.bool false) := row_cell (L := [.pointer none, .int .i64 0, .bool false, .slice none 0 0, .int .i64 0, .int .i8 0]) hb 2
  have f0 : ∀ i, w2.frozen? ⟨w.heap.size, i, none⟩ = false := row_free (L := [.pointer none, .int .i64 0, .bool false, .slice none 0 0, .int .i64 0, .int .i8 0]) hb
  have HR := Lib.hid (sink_end (col := col) (ls := ls) hwb hb (((Kept.refl _ _).alloc _).trans hk2))
  have HB := Lib.hid hb
  clear hwb hk2 hz2 hsz hb q0
  go_wp2_with fail
  go_ret
  exact ⟨rfl, HR.out⟩

set_option maxRecDepth 100000 in
theorem zwrite {w : World} {wb rb b : Nat} {col : Int} {ls : Bool} {row : Option Nat} {bs pend : List UInt8} (h : Sk w wb rb b col ls row bs pend) (sg so n c : Nat) (p : List UInt8) (hpl : p.length = n) (hsg : 0 < n → sg < w.heap.size) (hp : ∀ j x, p[j]? = some x → w.cell? ⟨sg, so + j, none⟩ = some (By x))
    (hA : sg ∉ wb :: rb :: b :: row.toList) (hnc : n ≤ c) (hc : c ≤ 9223372036854775807) (hlim : (bs ++ pend).length + n ≤ 100000000000) (hc1 : 0 ≤ col) (hc2 : col ≤ 100000000000) :
    Calls Tryd.prog 18 #[.pointer (some ⟨b, 0, none⟩), .slice (some ⟨sg, so, none⟩) n c] w fun e w' => e = .returned (.tuple #[.int .i64 n, .bool true]) ∧ ∃ row' bs' pend', Sk w' wb rb b (foldC col ls p).1 (foldC col ls p).2 row' bs' pend' ∧ bs' ++ pend' = bs ++ pend ++ p ∧ Mv wb rb b row row' w w' := by
  have HC := Lib.hid (colwrite h sg so n c p hpl hsg hp hA hnc hc hlim hc1 hc2)
  clear h hpl hsg hp hA
  go_enter Tryd.func18, Tryd.ntmps18
  go_wp2_with fail
  refine HC.out.mono ?_
  rintro e w' ⟨rfl, h2⟩
  have H2 := Lib.hid h2; clear h2 HC
  go_wp2_with fail
  go_quiet (fail)
  go_wp2_with fail
  go_ret2
  obtain ⟨row', bs', pend', h3, h4, h5⟩ := H2.out
  exact ⟨rfl, row', bs', pend', h3.drewN _, h4, h5.trans (Mv.of ((Kept.refl _ _).drewN _))⟩

set_option maxRecDepth 100000 in
theorem zwrite_nil {w : World} {wb rb b : Nat} {col : Int} {ls : Bool} {row : Option Nat} {bs pend : List UInt8} (h : Sk w wb rb b col ls row bs pend) :
    Calls Tryd.prog 18 #[.pointer (some ⟨b, 0, none⟩), .slice none 0 0] w fun e w' => e = .returned (.tuple #[.int .i64 0, .bool true]) ∧ Sk w' wb rb b col ls row bs pend ∧ Mv wb rb b row row w w' := by
  have HC := Lib.hid (colwrite_nil h)
  clear h
  go_enter Tryd.func18, Tryd.ntmps18
  go_wp2_with fail
  refine HC.out.mono ?_
  rintro e w' ⟨rfl, h2⟩
  have H2 := Lib.hid h2; clear h2 HC
  go_wp2_with fail
  go_quiet (fail)
  go_wp2_with fail
  go_ret2
  exact ⟨rfl, H2.out.1.drewN _, H2.out.2.trans (Mv.of ((Kept.refl _ _).drewN _))⟩

set_option maxRecDepth 100000 in
theorem zwriteString {w : World} {wb rb b : Nat} {col : Int} {ls : Bool} {row : Option Nat} {bs pend : List UInt8} (h : Sk w wb rb b col ls row bs pend) (s : ByteArray) (n : Nat) (p : List UInt8) (hps : p = s.data.toList) (hpl : p.length = n)
    (hlim : (bs ++ pend).length + n ≤ 100000000000) (hc1 : 0 ≤ col) (hc2 : col ≤ 100000000000) :
    Calls Tryd.prog 11 #[.pointer (some ⟨b, 0, none⟩), .string s] w fun e w' => e = .returned (.tuple #[.int .i64 n, .bool true]) ∧ ∃ row' bs' pend', Sk w' wb rb b (foldC col ls p).1 (foldC col ls p).2 row' bs' pend' ∧ bs' ++ pend' = bs ++ pend ++ p ∧ Mv wb rb b row row' w w' := by
  have HC := Lib.hid (colwriteString h s n p hps hpl hlim hc1 hc2)
  clear h hps hpl
  go_enter Tryd.func11, Tryd.ntmps11
  go_wp2_with fail
  refine HC.out.mono ?_
  rintro e w' ⟨rfl, h2⟩
  have H2 := Lib.hid h2; clear h2 HC
  go_wp2_with fail
  go_quiet (fail)
  go_wp2_with fail
  go_ret2
  obtain ⟨row', bs', pend', h3, h4, h5⟩ := H2.out
  exact ⟨rfl, row', bs', pend', h3.drewN _, h4, h5.trans (Mv.of ((Kept.refl _ _).drewN _))⟩

set_option maxRecDepth 100000 in
theorem zcol {w : World} {wb rb b : Nat} {col : Int} {ls : Bool} {row : Option Nat} {bs pend : List UInt8} (h : Sk w wb rb b col ls row bs pend) :
    Calls Tryd.prog 13 #[.pointer (some ⟨b, 0, none⟩)] w fun e w' => e = .returned (.int .i64 col) ∧ w = w' := by
  have c1 := sk_c1 h
  go_enter Tryd.func13, Tryd.ntmps13
  go_wp2_with fail
  go_ret
  exact ⟨rfl, rfl⟩
set_option maxRecDepth 100000 in
theorem zls {w : World} {wb rb b : Nat} {col : Int} {ls : Bool} {row : Option Nat} {bs pend : List UInt8} (h : Sk w wb rb b col ls row bs pend) :
    Calls Tryd.prog 14 #[.pointer (some ⟨b, 0, none⟩)] w fun e w' => e = .returned (.bool ls) ∧ w = w' := by
  have c1 := sk_c2 h
  go_enter Tryd.func14, Tryd.ntmps14
  go_wp2_with fail
  go_ret
  exact ⟨rfl, rfl⟩

set_option maxRecDepth 100000 in
theorem zout {w : World} {wb rb b : Nat} {col : Int} {ls : Bool} {row : Option Nat} {bs pend : List UInt8} (h : Sk w wb rb b col ls row bs pend) (hlim : bs.length ≤ 100000000000) :
    Calls Tryd.prog 15 #[.pointer (some ⟨b, 0, none⟩)] w fun e w' => e = .returned (.string ⟨(bs ++ pend).toArray⟩) ∧ ∃ row', Sk w' wb rb b col ls row' (bs ++ pend) [] ∧ Mv wb rb b row row' w w' := by
  have c0 := sk_c0 h
  have HF := Lib.hid (flush h hlim)
  clear h
  go_enter Tryd.func15, Tryd.ntmps15
  go_wp2_with fail
  refine HF.out.mono ?_
  rintro e w1 ⟨rfl, row', h1, hm1⟩
  have H1 := Lib.hid h1; have HM1 := Lib.hid hm1; clear h1 hm1 HF
  go_wp2_with fail
  refine (buf_string H1.out.bf).mono ?_
  rintro e w2 ⟨rfl, k, hw2⟩
  have HW2 := Lib.hid hw2; clear hw2
  go_wp2_with fail
  go_ret
  rw [HW2.out]
  exact ⟨rfl, row', H1.out.drewN _, HM1.out.trans (Mv.of ((Kept.refl _ _).drewN _))⟩
end Go.Proofs.YtmoglhggnodkoaaDoor
