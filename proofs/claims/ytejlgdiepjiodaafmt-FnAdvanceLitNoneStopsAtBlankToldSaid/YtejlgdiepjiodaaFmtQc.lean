/-
  n010_145: a fresh bash parser in double quotes over a string of ASCII bytes: what advanceLitDquote leaves.
-/
import Derived.Test.YtejlgdiepjiodaaFmtQb
import Derived.Test.YtejlgdiepjiodaaFmtQs
import Derived.OwnWalk
namespace Go.Proofs.YtejlgdiepjiodaaFmt
open Go.RowKit

/-- A parser that stands at its start, and a world W. -/
theorem fresh_world {w w1 W : World} {s : ByteArray} {lang quote tok : Int} {ea : Addr} {B : Nat} {hs : Value} (hg : w.cell? ⟨0, 0, none⟩ = some (EOFv ea)) (hss : s.size < 10000000) (hk1 : Kept [] w w1) (hp : PB W w.heap.size (Pc.start (w.heap.size + 1) lang quote tok hs)) (hr : W.heap[w.heap.size + 1]? = some (.cells #[.string s, .int .i64 0, .int .i64 (-1)] 69 (0, 0))) (hk : Kept [w.heap.size] w1 W) (hB : w.heap.size + 2 ≤ B) (hB2 : B ≤ W.heap.size) :
    LexS W B w.heap.size (w.heap.size + 1) ea (Pc.start (w.heap.size + 1) lang quote tok hs) 0 s.data.toList none 0 ∧ Kept [] w W := by
  have kw : Kept [] w W := ((hk1.weaken (S' := [w.heap.size]) (by simp)).trans hk).weaken (fun x hx => .inr (by simp at hx; omega))
  exact ⟨fresh_lex hg kw hss hp hr (by omega) (by omega) (by omega) hB2, kw⟩

theorem fresh_at {w w1 W : World} {s : ByteArray} {lang quote : Int} {ea : Addr} (hg : w.cell? ⟨0, 0, none⟩ = some (EOFv ea)) (hss : s.size < 10000000) (hk1 : Kept [] w w1) (hz1 : w1.heap.size = w.heap.size + 1) (hp : PB w1 w.heap.size Pc.new2)
    (hW : W = (((w1.setCell ⟨w.heap.size, 0, none⟩ (.iface 38 (.pointer (some ⟨w.heap.size + 1, 0, none⟩)))).setCell ⟨w.heap.size, 20, none⟩ (.int .i64 lang)).setCell ⟨w.heap.size, 17, none⟩ (.int .u32 quote)).alloc (.cells #[.string s, .int .i64 0, .int .i64 (-1)] 69)) :
    LexS W (w.heap.size + 2) w.heap.size (w.heap.size + 1) ea (Pc.start (w.heap.size + 1) lang quote 0 nilS) 0 s.data.toList none 0 ∧ Kept [] w W := by
  have hk : Kept [w.heap.size] w1 W := by rw [hW]; exact ((((Kept.refl _ _).setCell (by simp) _).setCell (by simp) _).setCell (by simp) _).alloc _
  have hr : W.heap[w1.heap.size]? = some (.cells #[.string s, .int .i64 0, .int .i64 (-1)] 69 (0, 0)) := by
    rw [hW]
    have := heap_alloc_new (((w1.setCell ⟨w.heap.size, 0, none⟩ (.iface 38 (.pointer (some ⟨w.heap.size + 1, 0, none⟩)))).setCell ⟨w.heap.size, 20, none⟩ (.int .i64 lang)).setCell ⟨w.heap.size, 17, none⟩ (.int .u32 quote)) (.cells #[.string s, .int .i64 0, .int .i64 (-1)] 69)
    simpa using this
  have hp2 : PB W w.heap.size (Pc.start (w.heap.size + 1) lang quote 0 nilS) := by
    rw [hW]
    exact (((hp.s_src (.iface 38 (.pointer (some ⟨w.heap.size + 1, 0, none⟩)))).s_lang (.int .i64 lang)).s_quote (.int .u32 quote)).kept (S := []) ((Kept.refl _ _).alloc (.cells #[.string s, .int .i64 0, .int .i64 (-1)] 69)) (by simp)
  rw [hz1] at hr
  exact fresh_world hg hss hk1 hp2 hr hk (by omega) (by have := heap_lt hr; omega)

set_option maxRecDepth 100000 in
set_option maxHeartbeats 1600000 in
theorem zz_dq {w : World} {s : ByteArray} {ea : Addr} (hu : ∀ y ∈ s.data.toList, alphaB y) (hs : s.size < 10000000) (hg : w.cell? ⟨0, 0, none⟩ = some (EOFv ea)) :
    Calls Tryf.prog 15 #[.string s] w fun e w' => e = .returned (.tuple #[.int .u32 (dqL false s.data.toList).2.1, .string ⟨(dqL false s.data.toList).1.toArray⟩, .int .i32 (dqL false s.data.toList).2.2]) ∧ Kept [] w w' := by
  have HG := Lib.hid hg; have HU := Lib.hid hu
  have hgl : 0 < w.heap.size := block_lt_of_cell hg
  have hul : s.data.toList.length ≤ 100000000 := by have : s.data.toList.length = s.size := rfl; omega
  obtain ⟨F, hF⟩ : ∃ F, F = dqL false s.data.toList := ⟨_, rfl⟩
  rw [← hF]
  have HF := Lib.hid hF
  clear hg hu hF
  go_enter Tryf.func15, Tryf.ntmps15
  go_wp2_with (first
    | (go_at_call 26; refine (newparser2 _ _ rfl).mono ?_; rintro e w1 ⟨rfl, hp1, hk1, hz1⟩; have HP1 := Lib.hid hp1; have HK1 := Lib.hid hk1; have c0 := hp1.c_src; have c17 := hp1.c_quote; have c20 := hp1.c_lang; have hf := hp1.frozen; clear hp1 hk1)
    | (go_at_call 27; refine (newreader_z _ _ _ rfl).mono ?_; rintro e w2 ⟨rfl, rfl⟩)
    | (go_at_call 28;
       have hw := fresh_at (lang := 1) (quote := 64) HG.out hs HK1.out hz1 HP1.out rfl;
       refine (dq_next hw.1 (by omega) (by decide) HU.out).mono ?_; rintro e w3 ⟨a, rfl, h3, k3⟩; have h3' : DqS 1 w3 (w.heap.size + 2) w.heap.size (w.heap.size + 1) ea (Pc.start (w.heap.size + 1) 1 64 0 nilS) none false s.data.toList a := h3; have H3 := Lib.hid h3'; clear h3'; have K3 := Lib.hid k3; have KW := Lib.hid hw.2; clear h3 k3 hw)
    | (go_at_call 31; have ha := adv_dq H3.out (by omega) HU.out hul; rw [← HF.out] at ha; refine ha.mono ?_; clear ha; rintro e w4 ⟨rfl, h4⟩; obtain ⟨k4, p4, hp4, t4, v4, r4⟩ := h4.out; have c10 := hp4.c_tok; have c11 := hp4.c_val; have c3 := hp4.c_r; rw [t4] at c10; rw [v4] at c11; rw [r4] at c3; have K4 := Lib.hid k4; clear h4 k4 hp4 t4 v4 r4))
  obtain ⟨S, k3, h3⟩ := K3.out
  obtain ⟨S4, k4, h4⟩ := K4.out
  have HFIN := Lib.hid ((((KW.out.weaken (S' := S ++ S4) (by simp)).trans ((k3.weaken (S' := S ++ S4) (fun x hx => .inl (List.mem_append.2 (.inl hx)))).trans (k4.weaken (fun x hx => .inl (List.mem_append.2 (.inr hx)))))).weaken (S' := []) (fun x hx => .inr (by rcases List.mem_append.1 hx with h | h; (rcases h3 x h with h | h | h <;> omega); (rcases h4 x h with h | h | h <;> omega)))))
  clear k3 h3 k4 h4
  go_region
  all_goals (
    go_wp2_with fail
    go_ret3
    exact ⟨rfl, by first | exact HFIN.out | exact HFIN.out.drew⟩)
end Go.Proofs.YtejlgdiepjiodaaFmt
