/-
  bufio.Writer over a bytes.Buffer: WriteByte; bytes.Buffer: Bytes.
-/
import Derived.Test.YtejjmonaoajlgaaDoorBww
import Derived.Deep.RegionHeld3
namespace Go.Proofs.YtejjmonaoajlgaaDoor
open Go.RowKit

/-- The world behind 'b.buf[b.n] = c; b.n++'. -/
theorem St.put {w : World} {wb rb T b q : Nat} {R : Nat → Option Value} {row : Option Nat} {bs pend : List UInt8} (h : St w wb rb T b q R row bs pend) (c : UInt8) (n : Int) (hn : n = pend.length + 1) (hlt : pend.length < 4096) :
    St ((w.setCell ⟨rb, pend.length, none⟩ (.int .u8 c.toNat)).setCell ⟨wb, 2, none⟩ (.int .i64 n)) wb rb T b q R row bs (pend ++ [c]) ∧ Kept [wb, rb, b] w ((w.setCell ⟨rb, pend.length, none⟩ (.int .u8 c.toNat)).setCell ⟨wb, 2, none⟩ (.int .i64 n)) ∧ Wb (w.setCell ⟨rb, pend.length, none⟩ (.int .u8 c.toNat)) wb rb (bufV b q) pend := by
  obtain ⟨L, h1, h2, h3⟩ := h.wr.row
  have hk : Kept [rb] w (w.setCell ⟨rb, pend.length, none⟩ (.int .u8 c.toNat)) := (Kept.refl _ _).setCell (p := ⟨rb, pend.length, none⟩) (by simp) _
  refine h.push hk ⟨L.set pend.length (By c), row_set h1 _ _, by simpa using h2, ?_, ?_⟩ (by simp [hn]) (by simp; omega)
  · rw [List.take_set_of_le (Nat.le_refl _)]; exact h3
  · rw [List.length_append, List.length_singleton, List.take_add_one, List.take_set_of_le (Nat.le_refl _), h3]
    simp [Bys, h2, hlt]

set_option maxRecDepth 100000 in
theorem bw_writeByte_room {w : World} {wb rb T b q : Nat} {R : Nat → Option Value} {row : Option Nat} {bs pend : List UInt8} (h : St w wb rb T b q R row bs pend) (c : UInt8) (hlt : pend.length < 4096) :
    Calls Tryd.prog 48 #[.pointer (some ⟨wb, 0, none⟩), .int .u8 c.toNat] w fun e w' => e = .returned .nilIface ∧ ∃ row' bs' pend', St w' wb rb T b q R row' bs' pend' ∧ bs' ++ pend' = bs ++ pend ++ [c] ∧ Mv wb rb b row row' w w' := by
  have c0 := h.wr.c0
  have H := Lib.hid h; clear h
  go_enter Tryd.func48, Tryd.ntmps48
  go_wp2_with fail
  refine (avail H.out.wr).mono ?_
  rintro e w1 ⟨rfl, kk, hw1⟩
  have h2 : St w1 wb rb T b q R row bs pend := by rw [hw1]; exact H.out.drewN kk
  have hm2 : Mv wb rb b row row w w1 := by rw [hw1]; exact Mv.of ((Kept.refl _ _).drewN kk)
  have c1 := h2.wr.c1; have c2 := h2.wr.c2
  have f2 := h2.wr.free 2
  have fr : ∀ i, w1.frozen? ⟨rb, i, none⟩ = false := by
    obtain ⟨L, hL, _⟩ := h2.wr.row
    exact fun i => row_free hL i
  obtain ⟨u, hcr⟩ : ∃ u, w1.cell? ⟨rb, pend.length, none⟩ = some u := by
    obtain ⟨L, hL, hl, _⟩ := h2.wr.row
    rw [row_cell hL]
    exact ⟨_, List.getElem?_eq_getElem (by omega)⟩
  have H2 := Lib.hid h2; have HM := Lib.hid hm2
  clear h2 hm2 hw1 H
  obtain ⟨h3, hk3, hw3⟩ := H2.out.put c ((pend.length : Int) + 1) rfl hlt
  have d2 := hw3.c2
  have g2 := hw3.free 2
  have H3 := Lib.hid h3; have HK3 := Lib.hid hk3
  clear h3 hk3 hw3
  go_wp2_with fail
  refine wp_region_tail 9 (by kernel_rfl) (by kernel_rfl) ?_
  simp only [List.take_succ_cons, List.take_zero, List.drop_succ_cons, List.drop_zero]
  repeat still_step
  refine wpStill_nil ?_
  go_wp2_with fail
  go_ret
  exact ⟨rfl, row, bs, pend ++ [c], H3.out.drew, by simp, HM.out.trans (Mv.of HK3.out.drew)⟩

set_option maxRecDepth 100000 in
theorem bw_writeByte_full {w : World} {wb rb T b q : Nat} {R : Nat → Option Value} {row : Option Nat} {bs pend : List UInt8} (h : St w wb rb T b q R row bs pend) (c : UInt8) (hlt : pend.length = 4096) (hlim : bs.length ≤ 100000000000) :
    Calls Tryd.prog 48 #[.pointer (some ⟨wb, 0, none⟩), .int .u8 c.toNat] w fun e w' => e = .returned .nilIface ∧ ∃ row' bs' pend', St w' wb rb T b q R row' bs' pend' ∧ bs' ++ pend' = bs ++ pend ++ [c] ∧ Mv wb rb b row row' w w' := by
  have c0 := h.wr.c0
  have H := Lib.hid h; clear h
  go_enter Tryd.func48, Tryd.ntmps48
  go_wp2_with fail
  refine (avail H.out.wr).mono ?_
  rintro e w0 ⟨rfl, kk, hw1⟩
  have h2 : St w0 wb rb T b q R row bs pend := by rw [hw1]; exact H.out.drewN kk
  have hm2 : Mv wb rb b row row w w0 := by rw [hw1]; exact Mv.of ((Kept.refl _ _).drewN kk)
  have HC := Lib.hid (flush h2 hlim)
  have HM := Lib.hid hm2
  clear h2 hm2 hw1 H
  rw [hlt]
  go_wp2_with fail
  go_at_call 16
  refine HC.out.mono ?_
  rintro e w1 ⟨rfl, row1, h1, hm1⟩
  have hm1 := HM.out.trans hm1
  have c1 := h1.wr.c1; have c2 := h1.wr.c2
  have f2 := h1.wr.free 2
  have fr : ∀ i, w1.frozen? ⟨rb, i, none⟩ = false := by
    obtain ⟨L, hL, _⟩ := h1.wr.row
    exact fun i => row_free hL i
  obtain ⟨u, hcr⟩ : ∃ u, w1.cell? ⟨rb, 0, none⟩ = some u := by
    obtain ⟨L, hL, hl, _⟩ := h1.wr.row
    rw [row_cell hL]
    exact ⟨_, List.getElem?_eq_getElem (by omega)⟩
  obtain ⟨h3, hk3, hw3⟩ := h1.drew.put c 1 rfl (by simp)
  have d2 := hw3.c2
  have g2 := hw3.free 2
  have H3 := Lib.hid h3; have HK3 := Lib.hid hk3; have HM1 := Lib.hid hm1
  clear h3 hk3 hw3 h1 hm1 HC HM
  go_wp2_with fail
  refine wp_region_tail 9 (by kernel_rfl) (by kernel_rfl) ?_
  simp only [List.take_succ_cons, List.take_zero, List.drop_succ_cons, List.drop_zero]
  repeat still_step
  refine wpStill_nil ?_
  go_wp2_with fail
  go_ret
  exact ⟨rfl, row1, bs ++ pend, [] ++ [c], H3.out, by simp, HM1.out.trans (Mv.of (((Kept.refl _ _).drew).trans HK3.out))⟩

theorem bw_writeByte {w : World} {wb rb T b q : Nat} {R : Nat → Option Value} {row : Option Nat} {bs pend : List UInt8} (h : St w wb rb T b q R row bs pend) (c : UInt8) (hlim : bs.length ≤ 100000000000) :
    Calls Tryd.prog 48 #[.pointer (some ⟨wb, 0, none⟩), .int .u8 c.toNat] w fun e w' => e = .returned .nilIface ∧ ∃ row' bs' pend', St w' wb rb T b q R row' bs' pend' ∧ bs' ++ pend' = bs ++ pend ++ [c] ∧ Mv wb rb b row row' w w' := by
  by_cases hlt : pend.length < 4096
  · exact bw_writeByte_room h c hlt
  · exact bw_writeByte_full h c (by have := h.wr.le; omega) hlim

set_option maxRecDepth 100000 in
theorem buf_bytes {w : World} {T b q : Nat} {R : Nat → Option Value} {row : Option Nat} {bs : List UInt8} (h : Bf w T b q R row bs) :
    Calls Tryd.prog 17 #[.pointer (some ⟨b, q, none⟩)] w fun e w' => ∃ A cap, e = .returned (.slice A bs.length cap) ∧ bs.length ≤ cap ∧ cap ≤ maxLen ∧ SrcB w' A bs.length bs ∧ Kept [] w w' := by
  obtain ⟨A, cap, c0, c1, hs, hle, hm, hA⟩ := h.src
  have HS := Lib.hid hs; have HM := Lib.hid hm
  clear hs h hA hm
  go_enter Tryd.func17, Tryd.ntmps17
  go_wp2_with fail
  go_quiet (fail)
  go_wp2_with fail
  go_ret
  exact ⟨A, cap, rfl, hle, HM.out, HS.out.kept (S := []) ((Kept.refl _ _).drewN _) (by simp), (Kept.refl _ _).drewN _⟩
end Go.Proofs.YtejjmonaoajlgaaDoor
