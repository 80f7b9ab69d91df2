/-
  n010_110: FnFillReadsEachByteOnce, walked.
-/
import Derived.Test.YtpkgpkklgkpbfaaDoorFl
import Derived.Test.YtpkgpkklgkpbfaaDoorConv
namespace Go.Proofs.YtpkgpkklgkpbfaaDoor
open Go.RowKit

theorem yes_FnFillReadsEachByteOnce (w : World) (s : ByteArray) (h : s.size ≤ 1048576) :
    Calls Tryd.prog 14 #[.string s] w fun e w' => e = .returned (.bool true) ∧ w = w' := by
  go_enter Tryd.func14, Tryd.ntmps14
  go_wp2
  go_ret
  exact ⟨rfl, rfl⟩
theorem skip_FnFillReadsEachByteOnce (w : World) (s : ByteArray) (h : ¬ s.size ≤ 1048576) (h2 : s.size ≤ 9223372036854775807) :
    Calls Tryd.prog 4 #[.string s] w fun e w' => e = .returned (.bool true) ∧ w = w' := by
  go_enter Tryd.func4, Tryd.ntmps4
  go_wp2
  go_ret
  exact ⟨rfl, rfl⟩

theorem Lx.fresh {w : World} {B pb rb fb : Nat} {ea : Addr} {l : List UInt8} (h : Lx w B pb rb ea (Pc.lexer pb rb fb 0) [] l 0) : Fs w B pb rb ea [] l 0 0 false :=
  ⟨_, h, rfl, rfl, rfl, .inl ⟨rfl, rfl, rfl⟩⟩

theorem fill_all {w : World} {B pb rb : Nat} {ea : Addr} {win rest : List UInt8} {offs : Int} (h : Fs w B pb rb ea win rest win.length offs false) (ho1 : 0 ≤ offs) (ho2 : offs < 1000000000) (hrest : rest ≠ []) :
    Calls Tryd.prog 8 #[.pointer (some ⟨pb, 0, none⟩)] w fun e w' => ∃ m : Nat, e = .returned (.int .i64 m) ∧ 1 ≤ m ∧ m ≤ 1024 ∧ m ≤ rest.length ∧ Fs w' B pb rb ea (rest.take m) (rest.drop m) 0 (offs + win.length) false ∧ Kept [rb, pb] w w' := by
  refine zfill ((fs_go h ho1 ho2 (Nat.le_refl _) (by omega) hrest).mono ?_)
  rintro e w' ⟨he, hf, hk⟩
  have hpos : 0 < rest.length := List.length_pos_iff.2 hrest
  rw [Nat.sub_self, Nat.sub_zero, List.drop_length, List.nil_append] at hf
  rw [Nat.sub_self, Nat.sub_zero] at he
  refine ⟨_, he, min 1024 rest.length, he, by omega, by omega, by omega, ?_, hk⟩
  rcases Nat.le_total 1024 rest.length with h1 | h1
  · rw [Nat.min_eq_left h1]; exact hf
  · rw [Nat.min_eq_right h1, List.take_length, List.drop_length]
    rw [List.take_of_length_le h1, List.drop_of_length_le h1] at hf
    exact hf
theorem fill_last {w : World} {B pb rb : Nat} {ea : Addr} {win : List UInt8} {offs : Int} (h : Fs w B pb rb ea win [] win.length offs false) (ho1 : 0 ≤ offs) (ho2 : offs < 1000000000) :
    Calls Tryd.prog 8 #[.pointer (some ⟨pb, 0, none⟩)] w fun e w' => e = .returned (.int .i64 0) ∧ Fs w' B pb rb ea [] [] 0 (offs + win.length) true ∧ Kept [rb, pb] w w' := by
  refine zfill ((fs_end h ho1 ho2 (Nat.le_refl _) (by omega)).mono ?_)
  rintro e w' ⟨he, hf, hk⟩
  rw [List.drop_length] at hf
  exact ⟨_, he, he, hf, hk⟩
theorem fill_no {w : World} {B pb rb : Nat} {ea : Addr} {win rest : List UInt8} {bsp : Nat} {offs : Int} (h : Fs w B pb rb ea win rest bsp offs true) :
    Calls Tryd.prog 8 #[.pointer (some ⟨pb, 0, none⟩)] w fun e w' => e = .returned (.int .i64 0) ∧ w = w' := by
  refine zfill ((fs_off h).mono ?_)
  rintro e w' ⟨he, hw⟩
  exact ⟨_, he, he, hw⟩

theorem Fs.kept0 {w w' : World} {B pb rb : Nat} {ea : Addr} {win rest : List UInt8} {bsp : Nat} {offs : Int} {eof : Bool} (h : Fs w B pb rb ea win rest bsp offs eof) (k : Kept [] w w') : Fs w' B pb rb ea win rest bsp offs eof := by
  obtain ⟨p, hlx, hr⟩ := h
  exact ⟨p, { hlx with hpb := hlx.hpb.kept k (by simp), hrd := hlx.hrd.kept k (by simp) hlx.hne, heof := (k.cell (p := ⟨0, 0, none⟩) (block_lt_of_cell hlx.heof) (by simp)).trans hlx.heof }, hr⟩

/-- The law's loop: k bytes have been read; i rounds are done. -/
def Rel1 (w2 : World) (B pb rb : Nat) (ea : Addr) (l : List UInt8) (i k : Nat) (wr : World) : Prop :=
  k ≤ l.length ∧ i ≤ k ∧ Kept [rb, pb] w2 wr ∧ ∃ win offs, Fs wr B pb rb ea win (l.drop k) win.length offs false ∧ offs + win.length = (k : Int) ∧ 0 ≤ offs

set_option maxRecDepth 100000 in
set_option maxHeartbeats 800000 in
theorem ok_FnFillReadsEachByteOnce (w : World) (s : ByteArray) (ea : Addr) (h : s.size ≤ 1048576) (hg : w.cell? ⟨0, 0, none⟩ = some (EOFv ea)) :
    Calls Tryd.prog 4 #[.string s] w fun e w' => e = .returned (.bool true) ∧ Kept [] w w' := by
  have HG := Lib.hid hg
  have hdl : decide (1048576 < (s.size : Int)) = false := by simp; omega
  clear hg
  go_enter Tryd.func4, Tryd.ntmps4
  go_wp2_with (first | (go_at_call 14; refine (yes_FnFillReadsEachByteOnce _ _ h).mono ?_; rintro e w' ⟨rfl, rfl⟩) | (refine wpList_bytes rfl (.tmp 15) rfl s rfl ?_; intro A cap w1 hs1 hcap1 hk1 _; have HS1 := Lib.hid hs1; have HK1 := Lib.hid hk1; clear hs1 hk1))
  refine (newlexer w1 A s.size cap 0 s.data.toList ea HS1.out (by omega) hcap1 ((HK1.out.cell (p := ⟨0, 0, none⟩) (block_lt_of_cell HG.out) (by simp)).trans HG.out)).mono ?_
  rintro e w2 ⟨rfl, hlx, hk2⟩
  have HF := Lib.hid hlx.fresh; have HK2 := Lib.hid hk2; clear hlx hk2
  have hpb : w.heap.size ≤ w1.heap.size := HK1.out.size
  generalize hB : w1.heap.size + 3 = B at *
  generalize hrb : w1.heap.size + 1 = rb at *
  have hrb' : w.heap.size ≤ rb := by omega
  clear hB hrb
  generalize hpbq : w1.heap.size = pb at *
  have HPB := Lib.hid hpbq; clear hpbq
  go_wp2_with fail
  clear hdl
  go_loopw [4, 5, 6] (fun pos dn it wr => ∃ i k : Nat, k ≤ s.size ∧ i ≤ k ∧ pos = .int .i64 k ∧ dn = .bool false ∧ it = .int .i64 i ∧ Hid (Rel1 w2 B pb rb ea s.data.toList i k wr)) (fun pos _ _ _ => s.size - (intOf pos).toNat)
  case atStart => exact ⟨0, 0, Nat.zero_le _, Nat.le_refl _, rfl, rfl, rfl, ⟨Nat.zero_le _, Nat.le_refl _, Kept.refl _ _, [], 0, HF.out, rfl, Int.le_refl _⟩⟩
  case round =>
    obtain ⟨i, k, hk, hik, rfl, rfl, rfl, hrel⟩ := hrel
    have hsz : s.data.toList.length = s.size := rfl
    obtain ⟨_, _, hkw, win, offs, hfs, hok, ho0⟩ := hrel.out
    have HFS := Lib.hid hfs; have HKW := Lib.hid hkw; have HOK := Lib.hid hok; have HSZ := Lib.hid hsz
    clear hfs hkw hok hsz hrel
    by_cases hlt : k < s.size
    · have hne : s.data.toList.drop k ≠ [] := by
        intro e
        have e2 := congrArg List.length e
        have := HSZ.out
        simp at e2; omega
      have HNE := Lib.hid hne; clear hne
      go_wp2_with fail
      refine (fill_all HFS.out ho0 (by have := HOK.out; omega) HNE.out).mono ?_
      rintro e w3 ⟨m, rfl, hm1, hm2, hm3, hf3, hk3⟩
      have hm4 : k + m ≤ s.size := by rw [List.length_drop] at hm3; have := HSZ.out; omega
      have hl3 : (List.take m (List.drop k s.data.toList)).length = m := by rw [List.length_take]; omega
      have HF3 := Lib.hid hf3; have HK3 := Lib.hid hk3; have HL3 := Lib.hid hl3
      have hm0 : ((m : Int) == 0) = false := beq_eq_false_iff_ne.2 (by omega)
      clear hf3 hk3 hm3 hl3
      go_wp2_with fail
      refine (zbs HF3.out).mono ?_
      rintro e w' ⟨A3, c3, he, hs3, rfl⟩
      rw [HL3.out] at he hs3
      subst he
      have HS3 := Lib.hid hs3; clear hs3
      go_wp2_with fail
      have hex : (s.extract k (k + m)).data.toList = List.take m (List.drop k s.data.toList) := by
        rw [ext_list]; congr 1; omega
      refine (same_yes w3 A3 m c3 (s.extract k (k + m)) (by rw [hex]; exact HS3.out) (by omega)).mono ?_
      rintro e w4 ⟨rfl, hk4⟩
      have hf4 : Fs w4 B pb rb ea (List.take m (List.drop k s.data.toList)) (List.drop m (List.drop k s.data.toList)) 0 (offs + win.length) false := HF3.out.kept0 hk4
      have HF4 := Lib.hid hf4; have HK4 := Lib.hid ((HKW.out.trans HK3.out).trans (hk4.weaken (by simp))); have HEX := Lib.hid hex
      clear hf4 hk4 hex
      go_wp2_with fail
      refine (zset HF4.out m).mono ?_
      rintro e w5 ⟨rfl, hf5, hk5⟩
      have HF5 := Lib.hid hf5; have HK5 := Lib.hid (HK4.out.trans hk5)
      clear hf5 hk5
      go_wp2_with fail
      go_roundw
      case rel =>
        refine ⟨i + 1, k + m, hm4, by omega, by go_num, rfl, by go_num, ?_⟩
        have hl3 := HL3.out
        have ho := HOK.out
        have hsz := HSZ.out
        refine ⟨by omega, by omega, HK5.out, List.take m (List.drop k s.data.toList), offs + win.length, ?_, by omega, by omega⟩
        rw [hl3]
        have := HF5.out
        rw [List.drop_drop] at this
        exact this
      case measure => simp [intOf]; omega
    · have hnil : s.data.toList.drop k = [] := by
        have := HSZ.out
        exact List.drop_of_length_le (by omega)
      have hkn : k = s.size := by omega
      have HKN := Lib.hid hkn; clear hkn
      have hf := HFS.out
      rw [hnil] at hf
      have HFS' := Lib.hid hf
      clear hf hnil HFS
      go_wp2_with fail
      refine (fill_last HFS'.out ho0 (by have := HOK.out; omega)).mono ?_
      rintro e w3 ⟨rfl, hf3, hk3⟩
      have HF3 := Lib.hid hf3; have HK3 := Lib.hid (HKW.out.trans hk3)
      clear hf3 hk3
      go_wp2_with fail
      refine (zbs HF3.out).mono ?_
      rintro e w' ⟨A3, c3, rfl, hs3, rfl⟩
      clear hs3
      have hpl : ((k : Int) != (s.size : Int)) = false := by rw [HKN.out]; simp
      go_wp2_with fail
      refine (fill_no HF3.out).mono ?_
      rintro e w' ⟨rfl, rfl⟩
      go_wp2_with fail
      refine (fill_no HF3.out).mono ?_
      rintro e w' ⟨rfl, rfl⟩
      go_wp2_with fail
      refine (zoffs HF3.out).mono ?_
      rintro e w' ⟨rfl, rfl⟩
      rw [HOK.out]
      have hpl2 : ((k : Int) == (s.size : Int)) = true := by rw [HKN.out]; simp
      go_wp2_with fail
      refine (zerr HF3.out).mono ?_
      rintro e w' ⟨rfl, rfl⟩
      go_wp2_with fail
      go_ret
      refine ⟨rfl, ?_⟩
      have h1 := (HK1.out.trans HK2.out)
      exact ((h1.weaken (S' := [rb, pb]) (by simp)).trans HK3.out).weaken (by simp; omega)
end Go.Proofs.YtpkgpkklgkpbfaaDoor
