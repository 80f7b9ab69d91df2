/-
  n010_145: a fresh bash parser in a heredoc's empty body.
-/
import Derived.Test.YtejlgdiepjiodaaFmtQk
namespace Go.Proofs.YtejlgdiepjiodaaFmt
open Go.RowKit

set_option maxRecDepth 100000 in
set_option maxHeartbeats 1600000 in
theorem zz_hd0 {w : World} {s st : ByteArray} {ea : Addr} {F : Int × List UInt8 × Int × Bool} (hF : F = (3, [], 1114112, false)) (hst : s.data.toList = []) (hs : s.size < 10000000) (hg : w.cell? ⟨0, 0, none⟩ = some (EOFv ea)) :
    Calls Tryf.prog 21 #[.string s, .string st] w fun e w' => e = .returned (.tuple #[.int .u32 F.1, .string ⟨F.2.1.toArray⟩, .int .i32 F.2.2.1, .bool F.2.2.2]) ∧ Kept [] w w' := by
  have HG := Lib.hid hg; have HST := Lib.hid hst
  have hgl : 0 < w.heap.size := block_lt_of_cell hg
  have HF := Lib.hid hF
  clear hg hst hF
  go_enter Tryf.func21, Tryf.ntmps21
  go_wp2_with (first
    | (go_at_call 26; refine (newparser2 _ _ rfl).mono ?_; rintro e w1 ⟨rfl, hp1, hk1, hz1⟩; have HP1 := Lib.hid hp1; have HK1 := Lib.hid hk1; have c0 := hp1.c_src; have c17 := hp1.c_quote; have c20 := hp1.c_lang; have c10 := hp1.c_tok; have c27 := hp1.c_hdocStops; have hf := hp1.frozen; clear hp1 hk1)
    | (go_at_call 27; refine (newreader_z _ _ _ rfl).mono ?_; rintro e w2 ⟨rfl, rfl⟩)
    | (refine wpList_bytes2 (z := w.heap.size + 2) rfl _ rfl st rfl (by simp [World.setCell, hz1]) ?_; intro cap w2 hc2 hk2 hz2; have hp2 := (fresh_hd1 (s := s) HP1.out).kept hk2 (by simp); have d27 := hp2.c_hdocStops; have df := hp2.frozen; have HC2 := Lib.hid hc2; have HK2 := Lib.hid hk2; clear hc2 hk2 hp2)
    | (go_at_call 28;
       have hw := fresh_hd (cap := cap) HG.out hs HK1.out hz1 HP1.out HK2.out hz2 HC2.out rfl;
       have hl := hw.1; rw [HST.out] at hl;
       refine (hd_next hl (by omega) (by decide) (fun _ _ h => by cases h)).mono ?_; rintro e w3 ⟨a, rfl, h3, k3⟩; have H3 := Lib.hid h3; have K3 := Lib.hid k3; have KW := Lib.hid hw.2.1; have HS3 := Lib.hid (hw.2.2.kept k3); clear h3 k3 hw hl)
    | (go_at_call 33; have ha := hd_eof H3.out (by omega) HS3.out rfl rfl rfl rfl rfl; rw [← HF.out] at ha; refine ha.mono ?_; clear ha; rintro e w4 ⟨rfl, h4⟩; obtain ⟨k4, ⟨p4, hp4, t4, v4, r4, s4⟩, n4⟩ := h4.out; have c10 := hp4.c_tok; have c11 := hp4.c_val; have c3 := hp4.c_r; have c27 := hp4.c_hdocStops; rw [t4] at c10; rw [v4] at c11; rw [r4] at c3; rw [s4] at c27; have K4 := Lib.hid k4; have N4 := Lib.hid n4; clear h4 k4 hp4 t4 v4 r4 s4 n4))
  obtain ⟨S, k3, h3⟩ := K3.out
  obtain ⟨S4, k4, h4⟩ := K4.out
  have HFIN := Lib.hid ((((KW.out.weaken (S' := S ++ S4) (by simp)).trans ((k3.weaken (S' := S ++ S4) (fun x hx => .inl (List.mem_append.2 (.inl hx)))).trans (k4.weaken (fun x hx => .inl (List.mem_append.2 (.inr hx)))))).weaken (S' := []) (fun x hx => .inr (by rcases List.mem_append.1 hx with h | h; (rcases h3 x h with h | h | h <;> omega); (rcases h4 x h with h | h | h | h <;> omega)))))
  have n4 := N4.out
  have q1 := eql_nil
  have d27' : w4.cell? ⟨w.heap.size, 27, none⟩ = some (.slice (some ⟨w.heap.size + 2 + 1, 0, none⟩) 1 1) := c27
  clear c27
  clear k3 h3 k4 h4
  obtain ⟨bF, hbF⟩ : ∃ b, F.2.2.2 = b := ⟨_, rfl⟩
  rw [hbF] at n4
  have HBF := Lib.hid hbF
  clear hbF
  cases bF
  · simp only [Bool.false_eq_true, if_false] at n4
    go_region
    all_goals (
      go_wp2_with fail
      go_returns
      rw [HBF.out]
      exact ⟨rfl, by first | exact HFIN.out | exact HFIN.out.drew⟩)
  · simp only [if_true] at n4
    go_region
    all_goals (
      go_wp2_with fail
      go_returns
      rw [HBF.out]
      exact ⟨rfl, by first | exact HFIN.out | exact HFIN.out.drew⟩)

/-- What the heredoc's lexer answers. -/
def hdR (stop s : List UInt8) : Int × List UInt8 × Int × Bool := if s = [] then (3, [], 1114112, false) else hdF stop [] [] s

theorem zz_hdr {w : World} {s st : ByteArray} {ea : Addr} (hok : hdOk st.data.toList [] s.data.toList) (hs : s.size < 10000000) (hg : w.cell? ⟨0, 0, none⟩ = some (EOFv ea)) :
    Calls Tryf.prog 21 #[.string s, .string st] w fun e w' => e = .returned (.tuple #[.int .u32 (hdR st.data.toList s.data.toList).1, .string ⟨(hdR st.data.toList s.data.toList).2.1.toArray⟩, .int .i32 (hdR st.data.toList s.data.toList).2.2.1, .bool (hdR st.data.toList s.data.toList).2.2.2]) ∧ Kept [] w w' := by
  cases hst : s.data.toList with
  | nil =>
    exact zz_hd0 (by simp [hdR]) hst hs hg
  | cons x t =>
    have := zz_hd hst (by rw [← hst]; exact hok) hs hg
    rw [show hdR st.data.toList (x :: t) = hdF st.data.toList [] [] (x :: t) by simp [hdR]]
    exact this
end Go.Proofs.YtejlgdiepjiodaaFmt
