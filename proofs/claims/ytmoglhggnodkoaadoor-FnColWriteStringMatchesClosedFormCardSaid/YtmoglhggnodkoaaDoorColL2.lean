/-
  n010_113: FnColWriteStringMatchesClosedForm, walked.
-/
import Derived.Test.YtmoglhggnodkoaaDoorColt
import Derived.Deep.RegionHeld3
namespace Go.Proofs.YtmoglhggnodkoaaDoor
open Go.RowKit

set_option maxRecDepth 100000 in
theorem yes_FnColWriteStringMatchesClosedForm (w : World) (col : Int) (ls : Bool) (str : ByteArray) (h : str.size ≤ 1048576) :
    Calls Tryd.prog 9 #[.int .i64 col, .bool ls, .string str] w fun e w' => e = .returned (.bool true) ∧ w = w' := by
  go_enter Tryd.func9, Tryd.ntmps9
  go_wp2
  go_ret
  exact ⟨rfl, rfl⟩
set_option maxRecDepth 100000 in
theorem no_FnColWriteStringMatchesClosedForm (w : World) (col : Int) (ls : Bool) (str : ByteArray) (h : 1048576 < str.size) (hm0 : str.size ≤ 9223372036854775807) :
    Calls Tryd.prog 9 #[.int .i64 col, .bool ls, .string str] w fun e w' => e = .returned (.bool false) ∧ w = w' := by
  go_enter Tryd.func9, Tryd.ntmps9
  go_wp2
  all_goals (
    go_ret
    exact ⟨rfl, rfl⟩)
set_option maxRecDepth 100000 in
set_option maxHeartbeats 1600000 in
theorem skip_FnColWriteStringMatchesClosedForm (w : World) (col : Int) (ls : Bool) (str : ByteArray) (h : ¬ (str.size ≤ 1048576 ∧ 0 ≤ col ∧ col ≤ 1073741824)) (hm0 : str.size ≤ 9223372036854775807) :
    Calls Tryd.prog 3 #[.int .i64 col, .bool ls, .string str] w fun e w' => e = .returned (.bool true) ∧ w = w' := by
  by_cases h3 : str.size ≤ 1048576
  · have h4 : col < 0 ∨ 1073741824 < col := by omega
    clear h
    rcases h4 with h4 | h4
    all_goals (
      go_enter Tryd.func3, Tryd.ntmps3
      go_wp2_with (go_at_call 9; refine (yes_FnColWriteStringMatchesClosedForm _ _ _ _ h3).mono ?_; rintro e w' ⟨rfl, rfl⟩)
      all_goals (
        go_ret
        exact ⟨rfl, rfl⟩))
  · clear h
    go_enter Tryd.func3, Tryd.ntmps3
    go_wp2_with (go_at_call 9; refine (no_FnColWriteStringMatchesClosedForm _ _ _ _ (by omega) hm0).mono ?_; rintro e w' ⟨rfl, rfl⟩)
    go_ret
    exact ⟨rfl, rfl⟩

set_option maxRecDepth 100000 in
set_option maxHeartbeats 1600000 in
theorem ok_FnColWriteStringMatchesClosedForm (w : World) (col : Int) (ls : Bool) (str : ByteArray) (hn : str.size ≤ 1048576) (hc1 : 0 ≤ col) (hc2 : col ≤ 1073741824) :
    Calls Tryd.prog 3 #[.int .i64 col, .bool ls, .string str] w fun e w' => e = .returned (.bool true) ∧ Kept [] w w' := by
  obtain ⟨l, hl⟩ : ∃ l, l = str.data.toList := ⟨_, rfl⟩
  have hsz : l.length = str.size := by rw [hl]; rfl
  have HL := Lib.hid hl; have HZ := Lib.hid hsz; clear hl hsz
  go_enter Tryd.func3, Tryd.ntmps3
  go_wp2_with (go_at_call 9; refine (yes_FnColWriteStringMatchesClosedForm _ _ _ _ hn).mono ?_; rintro e w' ⟨rfl, rfl⟩)
  refine (sn_new w col ls).mono ?_
  rintro e w2 ⟨rfl, h2⟩
  have hcon := one_writeString ⟨_, h2⟩ str str.size l HL.out HZ.out (by simp; omega) hc1 (show col ≤ _ by omega)
  have HC := Lib.hid hcon; clear hcon h2
  go_wp2_with fail
  refine HC.out.mono ?_
  rintro e w3 ⟨rfl, h3⟩
  generalize hs : Snk.put _ l = s at h3
  have hb : w.heap.size = s.b := by rw [← hs]; rfl
  have hcl : (foldC col ls l).1 = s.col := by rw [← hs]; rfl
  have hls : (foldC col ls l).2 = s.ls := by rw [← hs]; rfl
  have ho : s.out = l := by rw [← hs]; rfl
  rw [hb]
  have HO := Lib.hid ho; have HCL := Lib.hid hcl; have HLS := Lib.hid hls
  clear hs hb hcl hls ho HC
  have H3 := Lib.hid h3; clear h3
  go_wp2_with (refine wpList_bytes rfl (.tmp 38) rfl str rfl ?_; intro A1 cap w4 hs1 hcap hk1 hne; have HS1 := Lib.hid hs1; have HK1 := Lib.hid hk1; have HNE := Lib.hid hne; clear hs1 hk1 hne)
  have hcon := modelcols w4 A1 str.size cap l (HL.out ▸ HS1.out) (by omega) col ls hc1 (by omega)
  rw [HCL.out, HLS.out] at hcon
  refine hcon.mono ?_
  clear hcon
  rintro e w' ⟨rfl, rfl⟩
  have hq := H3.out.away HK1.out
  have hq0 := hq.drew
  have ho : s.out.toArray = str.data := by rw [HO.out, HL.out]
  have hlen : s.out.length ≤ 100000000000 := by rw [HO.out, HZ.out]; omega
  have HARM := Lib.hid (fun W (h : One w s W) => one_out h hlen)
  rw [ho] at HARM
  clear ho
  go_wp2_with (first | (go_at_call 13; refine (one_col (by assumption)).mono ?_; rintro e w' ⟨rfl, rfl⟩) | (go_at_call 14; refine (one_ls (by assumption)).mono ?_; rintro e w' ⟨rfl, rfl⟩) | (go_at_call 15; refine (HARM.out _ (by assumption)).mono ?_; rintro e w' ⟨rfl, hq1⟩))
  go_ret
  exact ⟨rfl, hq1.kept⟩
end Go.Proofs.YtmoglhggnodkoaaDoor
