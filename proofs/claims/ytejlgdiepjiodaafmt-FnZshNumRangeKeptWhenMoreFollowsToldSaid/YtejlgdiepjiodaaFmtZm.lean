/-
  n010_145: FnZshNumRangeModel and FnZshNumRangeKeptWhenMoreFollows, walked.
-/
import Derived.Test.YtejlgdiepjiodaaFmtZn
import Derived.Test.YtejlgdiepjiodaaFmtZl
import Derived.Test.YtejlgdiepjiodaaFmtByt
namespace Go.Proofs.YtejlgdiepjiodaaFmt
open Go.RowKit

theorem cat_list (a b : ByteArray) : (a ++ b).data.toList = a.data.toList ++ b.data.toList := by simp
theorem cat_size (a b : ByteArray) : (a ++ b).size = a.size + b.size := by simp

theorem zsh_call (w : World) (s : ByteArray) (ea : Addr) (hs : s.size ≤ 2000000) (hg : w.cell? ⟨0, 0, none⟩ = some (EOFv ea)) :
    Calls Tryf.prog 10 #[.string ((⟨#[60]⟩ : ByteArray) ++ s)] w fun e w' => e = .returned (.bool (zshM (s.data.toList.take 1023))) ∧ Kept [] w w' :=
  zsh_after w _ ea s.data.toList (by rw [cat_list]; rfl) (by rw [cat_size]; show 1 + s.size < _; omega) hg

set_option maxRecDepth 100000 in
theorem ok_FnZshNumRangeModel (w : World) (s : ByteArray) (ea : Addr) (hs : s.size ≤ 1048576) (hg : w.cell? ⟨0, 0, none⟩ = some (EOFv ea)) :
    Calls Tryf.prog 3 #[.string s] w fun e w' => e = .returned (.bool true) ∧ Kept [] w w' := by
  obtain ⟨bv, hbv⟩ : ∃ bv, bv = zshM (s.data.toList.take 1023) := ⟨_, rfl⟩
  have h1 := zb1 s w hs
  have h2 := zsh_call w s ea (by omega) hg
  rw [← hbv] at h2
  have hsl : s.data.toList.length = s.size := rfl
  have h3 : ∀ w, Calls Tryf.prog 11 #[.string (if s.size ≤ 1023 then s else s.extract 0 1023)] w fun e w' => e = .returned (.bool bv) ∧ w = w' := fun w => by
    refine (model_any _ w ?_).mono ?_
    · split
      · omega
      · simp; omega
    · rintro e w' ⟨rfl, rfl⟩
      refine ⟨?_, rfl⟩
      rw [rm_zsh, hbv]
      congr 2
      split
      · rw [List.take_of_length_le (by omega)]
      · rw [ext_list]; simp
  have H1 := Lib.hid h1; have H2 := Lib.hid h2; have H3 := Lib.hid h3
  clear h1 h2 h3 hbv hsl hg
  by_cases hl : s.size ≤ 1023
  · rw [if_pos hl] at H3
    go_enter Tryf.func3, Tryf.ntmps3
    go_wp2_with (first | (go_at_call 9; refine H1.out.mono ?_; rintro e w' ⟨rfl, rfl⟩) | (go_at_call 10; refine H2.out.mono ?_; rintro e w1 ⟨rfl, hk1⟩; have HK1 := Lib.hid hk1; clear hk1) | (go_at_call 11; refine (H3.out _).mono ?_; rintro e w' ⟨rfl, rfl⟩))
    go_ret
    exact ⟨by simp, HK1.out⟩
  · rw [if_neg hl] at H3
    go_enter Tryf.func3, Tryf.ntmps3
    go_wp2_with (first | (go_at_call 9; refine H1.out.mono ?_; rintro e w' ⟨rfl, rfl⟩) | (go_at_call 10; refine H2.out.mono ?_; rintro e w1 ⟨rfl, hk1⟩; have HK1 := Lib.hid hk1; clear hk1) | (go_at_call 11; refine (H3.out _).mono ?_; rintro e w' ⟨rfl, rfl⟩))
    go_ret
    exact ⟨by simp, HK1.out⟩

theorem zb2 (s x : ByteArray) (w : World) (h : s.size + x.size ≤ 1048576) : Calls Tryf.prog 12 #[.string s, .string x] w fun e w' => e = .returned (.bool true) ∧ w = w' := by
  have h1 : s.size ≤ 1048576 := by omega
  have h2 : x.size ≤ 1048576 := by omega
  go_enter Tryf.func12, Tryf.ntmps12
  go_wp2
  go_ret
  exact ⟨rfl, rfl⟩
theorem zb2no (s x : ByteArray) (w : World) (h : ¬ s.size + x.size ≤ 1048576) (h2 : s.size ≤ 9223372036854775807) (h3 : x.size ≤ 9223372036854775807) : Calls Tryf.prog 12 #[.string s, .string x] w fun e w' => e = .returned (.bool false) ∧ w = w' := by
  by_cases h4 : 1048576 < s.size
  · clear h
    go_enter Tryf.func12, Tryf.ntmps12
    go_wp2
    go_ret
    exact ⟨rfl, rfl⟩
  · by_cases h5 : 1048576 < x.size
    · clear h
      have h6 : s.size ≤ 1048576 := by omega
      clear h4
      go_enter Tryf.func12, Tryf.ntmps12
      go_wp2
      go_ret
      exact ⟨rfl, rfl⟩
    · have h6 : s.size ≤ 1048576 := by omega
      have h7 : x.size ≤ 1048576 := by omega
      have h8 : 1048576 < s.size + x.size := by omega
      clear h4 h5 h
      go_enter Tryf.func12, Tryf.ntmps12
      go_wp2
      go_ret
      exact ⟨rfl, rfl⟩
theorem skip_FnZshNumRangeKeptWhenMoreFollows (w : World) (s x : ByteArray) (h : ¬ s.size + x.size ≤ 1048576) (h2 : s.size ≤ 9223372036854775807) (h3 : x.size ≤ 9223372036854775807) : Calls Tryf.prog 4 #[.string s, .string x] w fun e w' => e = .returned (.bool true) ∧ w = w' := by
  have H1 := Lib.hid (zb2no s x w h h2 h3)
  clear h
  go_enter Tryf.func4, Tryf.ntmps4
  go_wp2_with (go_at_call 12; refine H1.out.mono ?_; rintro e w' ⟨rfl, rfl⟩)
  go_ret
  exact ⟨rfl, rfl⟩

set_option maxRecDepth 100000 in
theorem ok_FnZshNumRangeKeptWhenMoreFollows (w : World) (s x : ByteArray) (ea : Addr) (hs : s.size + x.size ≤ 1048576) (hg : w.cell? ⟨0, 0, none⟩ = some (EOFv ea)) :
    Calls Tryf.prog 4 #[.string s, .string x] w fun e w' => e = .returned (.bool true) ∧ Kept [] w w' := by
  have H1 := Lib.hid (zb2 s x w hs)
  have H2 := Lib.hid (zsh_call w s ea (by omega) hg)
  have h3 : ∀ w2, Kept [] w w2 → zshM (s.data.toList.take 1023) = true → Calls Tryf.prog 10 #[.string ((⟨#[60]⟩ : ByteArray) ++ s ++ x)] w2 fun e w' => e = .returned (.bool true) ∧ Kept [] w2 w' := by
    intro w2 hk hz
    have hg2 : w2.cell? ⟨0, 0, none⟩ = some (EOFv ea) := (hk.cell (p := ⟨0, 0, none⟩) (block_lt_of_cell hg) (by simp)).trans hg
    have := zsh_after w2 ((⟨#[60]⟩ : ByteArray) ++ s ++ x) ea (s.data.toList ++ x.data.toList) (by rw [cat_list, cat_list]; rfl) (by rw [cat_size, cat_size]; show 1 + s.size + x.size < _; omega) hg2
    rw [zshM_kept hz] at this
    exact this
  have H3 := Lib.hid h3
  have h5 : s.size ≤ 1048576 := by omega
  have h6 : x.size ≤ 1048576 := by omega
  clear h3 hg
  have HZ : Hid (zshM (s.data.toList.take 1023) = true) ∨ Hid (zshM (s.data.toList.take 1023) = false) := by
    cases hq : zshM (s.data.toList.take 1023)
    · exact .inr (Lib.hid rfl)
    · exact .inl (Lib.hid rfl)
  rcases HZ with HZ | HZ
  · have H2 := H2
    rw [HZ.out] at H2
    go_enter Tryf.func4, Tryf.ntmps4
    go_wp2_with (first | (go_at_call 12; refine H1.out.mono ?_; rintro e w' ⟨rfl, rfl⟩) | (go_at_call_of 10 (Value.string ((⟨#[60]⟩ : ByteArray) ++ s)); refine H2.out.mono ?_; rintro e w1 ⟨rfl, hk1⟩; have HK1 := Lib.hid hk1; clear hk1) | (go_at_call 10; refine (H3.out _ HK1.out HZ.out).mono ?_; rintro e w2 ⟨rfl, hk2⟩; have HK2 := Lib.hid hk2; clear hk2))
    go_ret
    exact ⟨rfl, HK1.out.trans HK2.out⟩
  · have H2 := H2
    rw [HZ.out] at H2
    go_enter Tryf.func4, Tryf.ntmps4
    go_wp2_with (first | (go_at_call 12; refine H1.out.mono ?_; rintro e w' ⟨rfl, rfl⟩) | (go_at_call 10; refine H2.out.mono ?_; rintro e w1 ⟨rfl, hk1⟩; have HK1 := Lib.hid hk1; clear hk1))
    go_ret
    exact ⟨rfl, HK1.out⟩
end Go.Proofs.YtejlgdiepjiodaaFmt
