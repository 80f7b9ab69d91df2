/-
  n010_145: a fresh POSIX parser over a word and a blank: what advanceLitNone leaves.
-/
import Derived.Test.YtejlgdiepjiodaaFmtQy
import Derived.Test.YtejlgdiepjiodaaFmtQc
import Derived.OwnWalk
namespace Go.Proofs.YtejlgdiepjiodaaFmt
open Go.RowKit

set_option maxRecDepth 100000 in
set_option maxHeartbeats 1600000 in
theorem zz_none {w : World} {s : ByteArray} {ea : Addr} (hok : noOk s.data.toList) (hhd : ∀ x t, s.data.toList = x :: t → ¬ (x = 62 ∨ x = 60)) (hs : s.size < 10000000) (hg : w.cell? ⟨0, 0, none⟩ = some (EOFv ea)) :
    Calls Tryf.prog 18 #[.string s] w fun e w' => e = .returned (.tuple #[.int .u32 (noF [] (-1) s.data.toList).1, .string ⟨(noF [] (-1) s.data.toList).2.1.toArray⟩, .int .i64 (noF [] (-1) s.data.toList).2.2.1, .int .i32 (noF [] (-1) s.data.toList).2.2.2]) ∧ Kept [] w w' := by
  have HG := Lib.hid hg; have HOK := Lib.hid hok; have HH := Lib.hid hhd
  have hgl : 0 < w.heap.size := block_lt_of_cell hg
  have hul : s.data.toList.length ≤ 100000000 := by have : s.data.toList.length = s.size := rfl; omega
  obtain ⟨F, hF⟩ : ∃ F, F = noF [] (-1) s.data.toList := ⟨_, rfl⟩
  rw [← hF]
  have HF := Lib.hid hF
  clear hg hok hhd hF
  go_enter Tryf.func18, Tryf.ntmps18
  go_wp2_with (first
    | (go_at_call 26; refine (newparser2 _ _ rfl).mono ?_; rintro e w1 ⟨rfl, hp1, hk1, hz1⟩; have HP1 := Lib.hid hp1; have HK1 := Lib.hid hk1; have c0 := hp1.c_src; have c17 := hp1.c_quote; have c20 := hp1.c_lang; have hf := hp1.frozen; clear hp1 hk1)
    | (go_at_call 27; refine (newreader_z _ _ _ rfl).mono ?_; rintro e w2 ⟨rfl, rfl⟩)
    | (go_at_call 28;
       have hw := fresh_at (lang := 2) (quote := 1) HG.out hs HK1.out hz1 HP1.out rfl;
       refine (no_next hw.1 (by omega) (by decide) HOK.out).mono ?_; rintro e w3 ⟨a, rfl, h3, k3⟩; have h3' : NoS w3 (w.heap.size + 2) w.heap.size (w.heap.size + 1) ea (Pc.start (w.heap.size + 1) 2 1 0 nilS) none s.data.toList a := h3; have H3 := Lib.hid h3'; clear h3'; have K3 := Lib.hid k3; have KW := Lib.hid hw.2; clear h3 k3 hw)
    | (go_at_call 32; have ha := adv_none H3.out (by omega) rfl rfl rfl HOK.out HH.out hul; rw [← HF.out] at ha; refine ha.mono ?_; clear ha; rintro e w4 ⟨rfl, h4⟩; obtain ⟨k4, p4, hp4, t4, v4, e4, r4⟩ := h4.out; have c10 := hp4.c_tok; have c11 := hp4.c_val; have c18 := hp4.c_eqlOffs; have c3 := hp4.c_r; rw [t4] at c10; rw [v4] at c11; rw [e4] at c18; rw [r4] at c3; have K4 := Lib.hid k4; clear h4 k4 hp4 t4 v4 e4 r4))
  obtain ⟨S, k3, h3⟩ := K3.out
  obtain ⟨S4, k4, h4⟩ := K4.out
  have HFIN := Lib.hid ((((KW.out.weaken (S' := S ++ S4) (by simp)).trans ((k3.weaken (S' := S ++ S4) (fun x hx => .inl (List.mem_append.2 (.inl hx)))).trans (k4.weaken (fun x hx => .inl (List.mem_append.2 (.inr hx)))))).weaken (S' := []) (fun x hx => .inr (by rcases List.mem_append.1 hx with h | h; (rcases h3 x h with h | h | h <;> omega); (rcases h4 x h with h | h | h <;> omega)))))
  clear k3 h3 k4 h4
  go_region
  all_goals (
    go_wp2_with fail
    go_returns
    exact ⟨rfl, by first | exact HFIN.out | exact HFIN.out.drew⟩)
end Go.Proofs.YtejlgdiepjiodaaFmt
