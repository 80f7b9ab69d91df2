/-
  n010_145: a fresh bash parser in a heredoc's body: what advanceLitHdoc leaves.
-/
import Derived.Test.YtejlgdiepjiodaaFmtQi
import Derived.Test.YtejlgdiepjiodaaFmtQc
import Derived.Lib.ConvBytes
namespace Go.Proofs.YtejlgdiepjiodaaFmt
open Go.RowKit

theorem wpList_bytes2 {w : World} {ops : Array Oper} {rest : List Oper} {o : Oper} {a : Act} {Q : Exit → Act → World → Prop} (hgd : o.guard = none) (x : Operand) (ho : o.op = .convert 9 42 x) (s : ByteArray) (hx : a.eval x = .string s) {z : Nat} (hz : w.heap.size = z)
    (h : ∀ cap w', (∀ j y, s.data.toList[j]? = some y → w'.cell? ⟨z, j, none⟩ = some (By y)) → Kept [] w w' → w'.heap.size = z + 1 → wpList Tryf.prog ops Q rest (a.put o.dst (.slice (some ⟨z, 0, none⟩) s.size cap)) w') : wpList Tryf.prog ops Q (o :: rest) a w := by
  subst hz
  refine wpList_plain hgd fun K hK => ?_
  have hrun := Lib.run_convert_string_bytes (P := Tryf.prog) w 9 42 5 s (u := .string) (by kernel_rfl) u8_und (by kernel_rfl)
  have hs : ∀ j y, s.data.toList[j]? = some y → (Lib.bytesWorld w 5 s).cell? ⟨w.heap.size, j, none⟩ = some (By y) := by
    intro j c hj
    have hlt : j < s.size := (List.getElem?_eq_some_iff.1 hj).1
    rw [Lib.bytesWorld_cell w _ s j hlt]
    simp only [List.getD_eq_getElem?_getD, hj]
    rfl
  have hk : Kept [] w (Lib.bytesWorld w 5 s) := ⟨rfl, rfl, rfl, by rw [Lib.bytesWorld_size]; omega, fun k hk _ => Lib.bytesWorld_at_old w _ s k hk⟩
  unfold Oper.wp
  simp only [execOp, ho, hx, Sem.run_bind, hrun, Result.andThen_ok]
  exact hK _ _ (h _ _ hs hk (Lib.bytesWorld_size w _ s))

theorem eql_nil (a : Option Addr) (n c : Nat) (w : World) : (binOp .eql 42 (.slice a n c) (.slice none 0 0)).run Tryf.prog w = .ok (.bool a.isNone) w := by
  simp only [binOp]
  simp [Op.equal, Op.maxDepth, Lib.run_equalIn_slice_nil w 9999 42 _ a n c 0 0 u8_und]

theorem hdOk_head {stop line u : List UInt8} (h : hdOk stop line u) : ∀ x t, u = x :: t → plB x := by
  rintro x t rfl
  exact h.1

theorem fresh_hd1 {w w1 : World} {s : ByteArray} (hp : PB w1 w.heap.size Pc.new2) : PB (((((w1.setCell ⟨w.heap.size, 0, none⟩ (.iface 38 (.pointer (some ⟨w.heap.size + 1, 0, none⟩)))).setCell ⟨w.heap.size, 20, none⟩ (.int .i64 1)).setCell ⟨w.heap.size, 17, none⟩ (.int .u32 256)).setCell ⟨w.heap.size, 10, none⟩ (.int .u32 2)).alloc (.cells #[.string s, .int .i64 0, .int .i64 (-1)] 69)) w.heap.size (Pc.start (w.heap.size + 1) 1 256 2 nilS) :=
  ((((hp.s_src (.iface 38 (.pointer (some ⟨w.heap.size + 1, 0, none⟩)))).s_lang (.int .i64 1)).s_quote (.int .u32 256)).s_tok (.int .u32 2)).kept (S := []) ((Kept.refl _ _).alloc (.cells #[.string s, .int .i64 0, .int .i64 (-1)] 69)) (by simp)

theorem fresh_hd {w w1 w2 W : World} {s st : ByteArray} {cap : Nat} {ea : Addr} (hg : w.cell? ⟨0, 0, none⟩ = some (EOFv ea)) (hss : s.size < 10000000) (hk1 : Kept [] w w1) (hz1 : w1.heap.size = w.heap.size + 1) (hp : PB w1 w.heap.size Pc.new2)
    (hk2 : Kept [] (((((w1.setCell ⟨w.heap.size, 0, none⟩ (.iface 38 (.pointer (some ⟨w.heap.size + 1, 0, none⟩)))).setCell ⟨w.heap.size, 20, none⟩ (.int .i64 1)).setCell ⟨w.heap.size, 17, none⟩ (.int .u32 256)).setCell ⟨w.heap.size, 10, none⟩ (.int .u32 2)).alloc (.cells #[.string s, .int .i64 0, .int .i64 (-1)] 69)) w2) (hz2 : w2.heap.size = w.heap.size + 2 + 1)
    (hc2 : ∀ j y, st.data.toList[j]? = some y → w2.cell? ⟨w.heap.size + 2, j, none⟩ = some (By y))
    (hW : W = (w2.setCell ⟨w.heap.size, 27, none⟩ (.slice (some ⟨w.heap.size + 2 + 1, 0, none⟩) 1 1)).alloc (.cells #[.slice (some ⟨w.heap.size + 2, 0, none⟩) st.size cap] 42)) :
    LexS W (w.heap.size + 4) w.heap.size (w.heap.size + 1) ea (Pc.start (w.heap.size + 1) 1 256 2 (.slice (some ⟨w.heap.size + 2 + 1, 0, none⟩) 1 1)) 0 s.data.toList none 0 ∧ Kept [] w W ∧ HsAt W (w.heap.size + 4) w.heap.size (w.heap.size + 1) (w.heap.size + 2 + 1) (w.heap.size + 2) cap st.data.toList := by
  obtain ⟨Wp, hWp⟩ : ∃ Wp, Wp = (((((w1.setCell ⟨w.heap.size, 0, none⟩ (.iface 38 (.pointer (some ⟨w.heap.size + 1, 0, none⟩)))).setCell ⟨w.heap.size, 20, none⟩ (.int .i64 1)).setCell ⟨w.heap.size, 17, none⟩ (.int .u32 256)).setCell ⟨w.heap.size, 10, none⟩ (.int .u32 2)).alloc (.cells #[.string s, .int .i64 0, .int .i64 (-1)] 69)) := ⟨_, rfl⟩
  have hpp : PB Wp w.heap.size (Pc.start (w.heap.size + 1) 1 256 2 nilS) := by rw [hWp]; exact fresh_hd1 hp
  have hkp : Kept [w.heap.size] w1 Wp := by rw [hWp]; exact (((((Kept.refl _ _).setCell (by simp) _).setCell (by simp) _).setCell (by simp) _).setCell (by simp) _).alloc _
  have hrp : Wp.heap[w.heap.size + 1]? = some (.cells #[.string s, .int .i64 0, .int .i64 (-1)] 69 (0, 0)) := by
    rw [hWp]
    have := heap_alloc_new ((((w1.setCell ⟨w.heap.size, 0, none⟩ (.iface 38 (.pointer (some ⟨w.heap.size + 1, 0, none⟩)))).setCell ⟨w.heap.size, 20, none⟩ (.int .i64 1)).setCell ⟨w.heap.size, 17, none⟩ (.int .u32 256)).setCell ⟨w.heap.size, 10, none⟩ (.int .u32 2)) (.cells #[.string s, .int .i64 0, .int .i64 (-1)] 69)
    simpa [hz1] using this
  rw [← hWp] at hk2
  have hk3 : Kept [w.heap.size] w2 W := by rw [hW]; exact ((Kept.refl _ _).setCell (by simp) _).alloc _
  have hk : Kept [w.heap.size] w1 W := (hkp.trans (hk2.weaken (by simp))).trans hk3
  have hpW : PB W w.heap.size (Pc.start (w.heap.size + 1) 1 256 2 (.slice (some ⟨w.heap.size + 2 + 1, 0, none⟩) 1 1)) := by
    rw [hW]
    exact ((hpp.kept hk2 (by simp)).s_hdocStops (.slice (some ⟨w.heap.size + 2 + 1, 0, none⟩) 1 1)).kept (S := []) ((Kept.refl _ _).alloc (.cells #[.slice (some ⟨w.heap.size + 2, 0, none⟩) st.size cap] 42)) (by simp)
  have hrow : W.heap[w.heap.size + 2 + 1]? = some (.cells #[.slice (some ⟨w.heap.size + 2, 0, none⟩) st.size cap] 42 (0, 0)) := by
    rw [hW]
    have := heap_alloc_new (w2.setCell ⟨w.heap.size, 27, none⟩ (.slice (some ⟨w.heap.size + 2 + 1, 0, none⟩) 1 1)) (.cells #[.slice (some ⟨w.heap.size + 2, 0, none⟩) st.size cap] 42)
    simpa [hz2] using this
  have hsz : w.heap.size + 4 ≤ W.heap.size := by have := heap_lt hrow; omega
  have hrW : W.heap[w.heap.size + 1]? = some (.cells #[.string s, .int .i64 0, .int .i64 (-1)] 69 (0, 0)) := by
    rw [hk3.block _ (by omega) (by simp), hk2.block _ (heap_lt hrp) (by simp)]
    exact hrp
  obtain ⟨hl, hkw⟩ := fresh_world hg hss hk1 hpW hrW hk (by omega) hsz
  refine ⟨hl, hkw, hrow, fun j y hj => ?_, ⟨by omega, by omega, by omega⟩, ⟨by omega, by omega, by omega⟩, hsz⟩
  exact (hk3.cell (p := ⟨w.heap.size + 2, j, none⟩) (show w.heap.size + 2 < w2.heap.size by omega) (by simp)).trans (hc2 j y hj)

set_option maxRecDepth 100000 in
set_option maxHeartbeats 1600000 in
theorem zz_hd {w : World} {s st : ByteArray} {ea : Addr} {x : UInt8} {t : List UInt8} (hst : s.data.toList = x :: t) (hok : hdOk st.data.toList [] (x :: t)) (hs : s.size < 10000000) (hg : w.cell? ⟨0, 0, none⟩ = some (EOFv ea)) :
    Calls Tryf.prog 21 #[.string s, .string st] w fun e w' => e = .returned (.tuple #[.int .u32 (hdF st.data.toList [] [] (x :: t)).1, .string ⟨(hdF st.data.toList [] [] (x :: t)).2.1.toArray⟩, .int .i32 (hdF st.data.toList [] [] (x :: t)).2.2.1, .bool (hdF st.data.toList [] [] (x :: t)).2.2.2]) ∧ Kept [] w w' := by
  have HG := Lib.hid hg; have HST := Lib.hid hst; have HOK := Lib.hid hok
  have hgl : 0 < w.heap.size := block_lt_of_cell hg
  have hul : (x :: t).length ≤ 100000000 := by have : s.data.toList.length = s.size := rfl; rw [hst] at this; omega
  obtain ⟨F, hF⟩ : ∃ F, F = hdF st.data.toList [] [] (x :: t) := ⟨_, rfl⟩
  rw [← hF]
  have HF := Lib.hid hF
  clear hg hst hok hF
  go_enter Tryf.func21, Tryf.ntmps21
  go_wp2_with (first
    | (go_at_call 26; refine (newparser2 _ _ rfl).mono ?_; rintro e w1 ⟨rfl, hp1, hk1, hz1⟩; have HP1 := Lib.hid hp1; have HK1 := Lib.hid hk1; have c0 := hp1.c_src; have c17 := hp1.c_quote; have c20 := hp1.c_lang; have c10 := hp1.c_tok; have c27 := hp1.c_hdocStops; have hf := hp1.frozen; clear hp1 hk1)
    | (go_at_call 27; refine (newreader_z _ _ _ rfl).mono ?_; rintro e w2 ⟨rfl, rfl⟩)
    | (refine wpList_bytes2 (z := w.heap.size + 2) rfl _ rfl st rfl (by simp [World.setCell, hz1]) ?_; intro cap w2 hc2 hk2 hz2; have hp2 := (fresh_hd1 (s := s) HP1.out).kept hk2 (by simp); have d27 := hp2.c_hdocStops; have df := hp2.frozen; have HC2 := Lib.hid hc2; have HK2 := Lib.hid hk2; clear hc2 hk2 hp2)
    | (go_at_call 28;
       have hw := fresh_hd (cap := cap) HG.out hs HK1.out hz1 HP1.out HK2.out hz2 HC2.out rfl;
       have hl := hw.1; rw [HST.out] at hl;
       refine (hd_next hl (by omega) (by decide) (hdOk_head HOK.out)).mono ?_; rintro e w3 ⟨a, rfl, h3, k3⟩; have H3 := Lib.hid h3; have K3 := Lib.hid k3; have KW := Lib.hid hw.2.1; have HS3 := Lib.hid (hw.2.2.kept k3); clear h3 k3 hw hl)
    | (go_at_call 33; have ha := hd_any H3.out (by omega) HS3.out rfl rfl rfl rfl rfl HOK.out hul; rw [← HF.out] at ha; refine ha.mono ?_; clear ha; rintro e w4 ⟨rfl, h4⟩; obtain ⟨k4, ⟨p4, hp4, t4, v4, r4, s4⟩, n4⟩ := h4.out; have c10 := hp4.c_tok; have c11 := hp4.c_val; have c3 := hp4.c_r; have c27 := hp4.c_hdocStops; rw [t4] at c10; rw [v4] at c11; rw [r4] at c3; rw [s4] at c27; have K4 := Lib.hid k4; have N4 := Lib.hid n4; clear h4 k4 hp4 t4 v4 r4 s4 n4))
  obtain ⟨S, k3, h3⟩ := K3.out
  obtain ⟨S4, k4, h4⟩ := K4.out
  have HFIN := Lib.hid ((((KW.out.weaken (S' := S ++ S4) (by simp)).trans ((k3.weaken (S' := S ++ S4) (fun x hx => .inl (List.mem_append.2 (.inl hx)))).trans (k4.weaken (fun x hx => .inl (List.mem_append.2 (.inr hx)))))).weaken (S' := []) (fun x hx => .inr (by rcases List.mem_append.1 hx with h | h; (rcases h3 x h with h | h | h <;> omega); (rcases h4 x h with h | h | h | h <;> omega)))))
  have n4 := N4.out
  have q1 := eql_nil
  have d27' : w4.cell? ⟨w.heap.size, 27, none⟩ = some (.slice (some ⟨w.heap.size + 2 + 1, 0, none⟩) 1 1) := c27
  clear c27
  clear k3 h3 k4 h4
  obtain ⟨bF, hbF⟩ : ∃ b, F.2.2.2 = b := ⟨_, rfl⟩
  rw [hbF] at n4
  have HBF := Lib.hid hbF
  clear hbF
  cases bF
  · simp only [Bool.false_eq_true, if_false] at n4
    go_region
    all_goals (
      go_wp2_with fail
      go_returns
      rw [HBF.out]
      exact ⟨rfl, by first | exact HFIN.out | exact HFIN.out.drew⟩)
  · simp only [if_true] at n4
    go_region
    all_goals (
      go_wp2_with fail
      go_returns
      rw [HBF.out]
      exact ⟨rfl, by first | exact HFIN.out | exact HFIN.out.drew⟩)
end Go.Proofs.YtejlgdiepjiodaaFmt
