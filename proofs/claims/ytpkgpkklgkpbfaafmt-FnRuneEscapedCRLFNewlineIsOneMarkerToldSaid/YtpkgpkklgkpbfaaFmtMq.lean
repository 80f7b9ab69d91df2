/-
  n010_110: FnRuneEscapedCRLFNewlineIsOneMarker, walked.
-/
import Derived.Test.YtpkgpkklgkpbfaaFmtMo
import Derived.Test.YtpkgpkklgkpbfaaFmtMp
import Derived.Test.YtpkgpkklgkpbfaaFmtApl
import Derived.Deep.LoopGhost
namespace Go.Proofs.YtpkgpkklgkpbfaaFmt
open Go.RowKit

set_option maxRecDepth 100000 in
set_option maxHeartbeats 1600000 in
theorem zb_FnRuneEscapedCRLFNewlineIsOneMarker {w : World} (p0 : ByteArray) (s0 : p0.size ≤ 9223372036854775807) : Calls Tryf.prog 11 #[.string p0] w fun e w' => e = .returned (.bool (acc 0 (p0.size :: [])).isSome) ∧ w = w' := by
  obtain ⟨bv, hbv⟩ : ∃ b, b = (acc 0 (p0.size :: [])).isSome := ⟨_, rfl⟩
  rw [← hbv]
  have HBV := Lib.hid hbv
  clear hbv
  go_enter Tryf.func11, Tryf.ntmps11
  by_cases g0 : 1048576 < p0.size
  · go_wp2_with fail
    go_ret
    rw [HBV.out]
    have e : acc 0 (p0.size :: []) = none := by
      simp only [acc, Nat.zero_add]
      repeat' split
      all_goals first | rfl | omega
    rw [e]
    exact ⟨rfl, rfl⟩
  go_wp2_with fail
  go_ret
  rw [HBV.out]
  have e : (acc 0 (p0.size :: [])).isSome = true := by
    simp only [acc, Nat.zero_add]
    repeat' split
    all_goals first | rfl | omega
  rw [e]
  exact ⟨rfl, rfl⟩

theorem skipC (w : World) (s : ByteArray) (h2 : s.size ≤ 9223372036854775807) (h : 1048576 < s.size) : Calls Tryf.prog 5 #[.string s] w fun e w' => e = .returned (.bool true) ∧ w = w' := by
  have HB := Lib.hid (fun w => zb_FnRuneEscapedCRLFNewlineIsOneMarker (w := w) s h2)
  rw [show (acc 0 [s.size]).isSome = false by rw [Bool.eq_false_iff]; exact fun e => by have := acc_one.1 e; omega] at HB
  clear h
  go_enter Tryf.func5, Tryf.ntmps5
  go_wp2_with (go_at_call 11; refine (HB.out _).mono ?_; rintro e w' ⟨rfl, rfl⟩)
  go_ret
  exact ⟨rfl, rfl⟩

set_option maxRecDepth 100000 in
set_option maxHeartbeats 800000 in
theorem skipD (w : World) (s : ByteArray) (h : s.size ≤ 1048576) (hG : plF (s.size + 1) s.data.toList = none) : Calls Tryf.prog 5 #[.string s] w fun e w' => e = .returned (.bool true) ∧ Kept [] w w' := by
  have HB := Lib.hid (fun w => zb_FnRuneEscapedCRLFNewlineIsOneMarker (w := w) s (by omega))
  rw [acc_one.2 h] at HB
  have HP : Hid (∀ w, Calls Tryf.prog 10 #[.string s] w fun e w' => e = .returned (.tuple #[.slice none 0 0, .bool false]) ∧ Kept [] w w') := Lib.hid (fun w => (zplain w s (by omega) none hG.symm).mono fun e w' h => h.elim (fun h => h.2) (fun ⟨_, _, _, _, h, _⟩ => by cases h))
  clear hG
  have hsz : ¬ (1048576 : Int) < (s.size : Int) := by omega
  go_enter Tryf.func5, Tryf.ntmps5
  go_wp2_with (first
    | (go_at_call 11; refine (HB.out _).mono ?_; rintro e w' ⟨rfl, rfl⟩)
    | (go_at_call 10; refine (HP.out _).mono ?_; rintro e w1 ⟨rfl, hk1⟩; have HK1 := Lib.hid hk1; clear hk1))
  go_ret
  exact ⟨rfl, HK1.out⟩

theorem make_u80 (tot : Nat) (ht : tot ≤ 10000000) (w : World) : (Instr.makeSlice 24 (.int .i64 0) (.int .i64 tot)).run Tryf.prog w = .ok (.slice (some ⟨w.heap.size, 0, none⟩) 0 tot) (w.alloc (.cells (List.replicate tot (.int .u8 0)).toArray 5)) := by
  obtain ⟨i, h1, h2, h3, h4⟩ := u8_info
  have := run_make w _ _ i _ u8_und h1 h2 .i64 .i64 0 tot (by omega) (by omega) (by rw [h4]; omega) (by omega)
  rw [this]
  have hm : madeCells (Value.int .u8 0).cells tot = (List.replicate tot (Value.int .u8 0)).toArray := by
    apply Array.ext
    · simp [madeCells, Value.cells]
    · intro i h1 h2
      simp [madeCells, Value.cells, Nat.mod_one]
  simp [h3, hm]
theorem own_u80 (tot : Nat) (ht : tot ≤ 10000000) (w : World) : Own (w.alloc (.cells (List.replicate tot (.int .u8 0)).toArray 5)) (.slice (some ⟨w.heap.size, 0, none⟩) 0 tot) [] :=
  ⟨rfl, .inr ⟨w.heap.size, tot, _, rfl, Nat.zero_le _, heap_alloc_new w _, Nat.zero_le _, by unfold maxLen; omega, by simp, by simp [Bys]⟩⟩

/-- The source so far, k bytes taken; w1: the world before it. -/
def SrI (w1 : World) (s : ByteArray) (k : Nat) (A : Option Addr) (n c : Nat) (wr : World) : Prop :=
  Own wr (.slice A n c) (exX (s.data.toList.take k)) ∧ (∀ g ∈ (Value.slice A n c).ownBlock, w1.heap.size ≤ g) ∧ Kept [] w1 wr ∧ n = (exX (s.data.toList.take k)).length

theorem sri_step {w1 w' wr : World} {s : ByteArray} {k n c cap g : Nat} {A : Option Addr} {p : List UInt8} (h : SrI w1 s k A n c wr) (hk : k < s.size) (hp : exB s[k] = p)
    (ho : Own w' (.slice (some ⟨g, 0, none⟩) (n + p.length) cap) (exX (s.data.toList.take k) ++ p)) (hb : (Value.slice A n c).ownBlock = some g ∨ wr.heap.size ≤ g) (hk2 : Kept (Value.slice A n c).ownBlock.toList wr w') : SrI w1 s (k + 1) (some ⟨g, 0, none⟩) (n + p.length) cap w' := by
  obtain ⟨h1, h2, h3, h4⟩ := h
  have hkl : k < s.data.toList.length := hk
  have e : exX (s.data.toList.take (k + 1)) = exX (s.data.toList.take k) ++ p := by
    rw [List.take_succ_eq_append_getElem hkl, exX_append, ← hp]
    congr 1
    show exB s.data.toList[k] ++ [] = _
    rw [List.append_nil]
    rfl
  have hz := h3.size
  refine ⟨by rw [e]; exact ho, fun g' hg => ?_, ?_, by rw [e, List.length_append, ← h4]⟩
  · have : g' = g := by simp [Value.ownBlock] at hg; omega
    subst this
    rcases hb with hb | hb
    · exact h2 _ hb
    · omega
  · exact ((h3.weaken (S' := (Value.slice A n c).ownBlock.toList) (by simp)).trans hk2).weaken (fun x hx => .inr (h2 x (by
      cases q : (Value.slice A n c).ownBlock with
      | none => rw [q] at hx; simp at hx
      | some g => rw [q] at hx; simp at hx; subst hx; rfl)))

/-- The wanted runes, j of them marked; the source as it stands. -/
def WaI (w w1 : World) (R : List Int) (s : ByteArray) (A A2 : Option Addr) (n c n2 c2 : Nat) (j : Nat) (wr : World) : Prop :=
  OwnV 21 wr (.slice A n c) (i32V (mid R j)) ∧ (∀ g ∈ (Value.slice A n c).ownBlock, w.heap.size ≤ g ∧ g < w1.heap.size) ∧ Own wr (.slice A2 n2 c2) (exX s.data.toList) ∧ (∀ g ∈ (Value.slice A2 n2 c2).ownBlock, w1.heap.size ≤ g) ∧ Kept [] w wr ∧ w1.heap.size ≤ wr.heap.size

theorem wai_at {w w1 wr : World} {R : List Int} {s : ByteArray} {A A2 : Option Addr} {n c n2 c2 j : Nat} (h : WaI w w1 R s A A2 n c n2 c2 j wr) (hj : j < R.length) : ∃ g, A = some ⟨g, 0, none⟩ ∧ wr.cell? ⟨g, j, none⟩ = some (.int .i32 R[j]) ∧ wr.frozen? ⟨g, j, none⟩ = false ∧
    (R[j] ≠ 10 → WaI w w1 R s A A2 n c n2 c2 (j + 1) wr) ∧ (R[j] = 10 → WaI w w1 R s A A2 n c n2 c2 (j + 1) (wr.setCell ⟨g, j, none⟩ (.int .i32 1114113))) := by
  obtain ⟨h1, h2, h3, h4, h5, h6⟩ := h
  have hat : (i32V (mid R j))[j]? = some (.int .i32 R[j]) := by
    rw [i32V, List.getElem?_map, mid_at R hj]
    rfl
  obtain ⟨g, hA, hc, hf, ho⟩ := h1.store j hat (.int .i32 1114113)
  subst hA
  have hgb : g ∈ (Value.slice (some ⟨g, 0, none⟩) n c).ownBlock := by rfl
  have hg := h2 g hgb
  have kk : Kept [g] wr (wr.setCell ⟨g, j, none⟩ (.int .i32 1114113)) := (Kept.refl _ _).setCell (by simp) _
  refine ⟨g, rfl, hc, hf, fun hne => ⟨by rw [mid_same R hj hne]; exact h1, h2, h3, h4, h5, h6⟩, fun he => ⟨?_, h2, h3.kept kk (fun g' hg' => by have := h4 g' hg'; simp; omega), h4, ?_, Nat.le_trans h6 kk.size⟩⟩
  · have e : i32V (mid R (j + 1)) = (i32V (mid R j)).set j (.int .i32 1114113) := by
      rw [mid_step R hj, i32V, i32V, List.map_set, he]
      rfl
    rw [e]
    exact ho
  · exact ((h5.weaken (S' := [g]) (by simp)).trans kk).weaken (fun x hx => .inr (by simp at hx; omega))

theorem wai_start {w w1 wr : World} {R : List Int} {s : ByteArray} {A A2 : Option Addr} {n c n2 c2 : Nat} (h : SrI w1 s s.size A2 n2 c2 wr) (ho : OwnV 21 w1 (.slice A n c) (i32V R)) (hob : ∀ g ∈ (Value.slice A n c).ownBlock, w.heap.size ≤ g) (hk : Kept [] w w1) : WaI w w1 R s A A2 n c n2 c2 0 wr := by
  obtain ⟨h1, h2, h3, h4⟩ := h
  rw [show s.data.toList.take s.size = s.data.toList from List.take_length] at h1
  exact ⟨ho.kept h3 (by simp), fun g hg => ⟨hob g hg, ho.lt g hg⟩, h1, h2, hk.trans h3, h3.size⟩

theorem wai_end {w w1 wr : World} {R : List Int} {s : ByteArray} {A A2 : Option Addr} {n c n2 c2 : Nat} (h : WaI w w1 R s A A2 n c n2 c2 n wr) (hn : n = R.length) : OwnV 21 wr (.slice A n c) (i32V (R.map mkR)) ∧ (∀ g ∈ (Value.slice A n c).ownBlock, w.heap.size ≤ g ∧ g < w1.heap.size) ∧ Own wr (.slice A2 n2 c2) (exX s.data.toList) ∧ Kept [] w wr ∧ w1.heap.size ≤ wr.heap.size := by
  obtain ⟨h1, h2, h3, h4, h5, h6⟩ := h
  rw [hn, mid_all] at h1
  exact ⟨hn ▸ h1, h2, h3, h5, h6⟩

set_option maxRecDepth 100000 in
set_option maxHeartbeats 3200000 in
theorem okE (w : World) (s : ByteArray) (ea : Addr) (R : List Int) (h : s.size ≤ 1048576) (hG : plF (s.size + 1) s.data.toList = some R) (hg : w.cell? ⟨0, 0, none⟩ = some (EOFv ea)) (hT : Tabs w) : Calls Tryf.prog 5 #[.string s] w fun e w' => e = .returned (.bool true) ∧ Kept [] w w' := by
  have HB := Lib.hid (fun w => zb_FnRuneEscapedCRLFNewlineIsOneMarker (w := w) s (by omega))
  rw [acc_one.2 h] at HB
  have HP : Hid (∀ w, Calls Tryf.prog 10 #[.string s] w fun e w' => ∃ A n c, e = .returned (.tuple #[.slice A n c, .bool true]) ∧ OwnV 21 w' (.slice A n c) (i32V R) ∧ (∀ g ∈ (Value.slice A n c).ownBlock, w.heap.size ≤ g) ∧ n = R.length ∧ Kept [] w w') := Lib.hid (fun w => (zplainO w s (by omega) (some R) hG.symm).mono fun e w' h => h.elim (fun h => by cases h.1) (fun ⟨_, A, n, c, h, h2⟩ => by cases h; exact ⟨A, n, c, h2⟩))
  have HST := Lib.hid (plF_crl _ _ _ hG)
  have HG := Lib.hid hg; have HT := Lib.hid hT
  have HRL := Lib.hid (plF_len _ _ _ hG)
  clear hG hg hT
  have hsz : ¬ (1048576 : Int) < (s.size : Int) := by omega
  have hmk := fun w => make_u80 (3 * s.size) (by omega) w
  have e3 : ((3 * s.size : Nat) : Int) = 3 * (s.size : Int) := by omega
  rw [e3] at hmk
  go_enter Tryf.func5, Tryf.ntmps5
  go_wp2_with (first
    | (go_at_call 11; refine (HB.out _).mono ?_; rintro e w' ⟨rfl, rfl⟩)
    | (go_at_call 10; refine (HP.out _).mono ?_; rintro e w1 ⟨A, n, c, rfl, hrd, hob, hn, hk1⟩; have HK1 := Lib.hid hk1; have HRD := Lib.hid hrd; have HOB := Lib.hid hob; have HN := Lib.hid hn; clear hk1 hrd hob hn))
  have HI0 : Hid (SrI w1 s 0 (some ⟨w1.heap.size, 0, none⟩) 0 (3 * s.size) (w1.alloc (.cells (List.replicate (3 * s.size) (.int .u8 0)).toArray 5))) := Lib.hid ⟨own_u80 _ (by omega) w1, fun g hg => by cases hg; exact Nat.le_refl _, (Kept.refl _ _).alloc _, rfl⟩
  go_loopg [5, 6] s.size (fun m v i wr => ∃ (k : Nat) (A2 : Option Addr) (n2 c2 : Nat), k ≤ s.size ∧ i = .int .i64 k ∧ v = .slice A2 n2 c2 ∧ m = s.size - k ∧ Hid (SrI w1 s k A2 n2 c2 wr))
  case atStart => exact ⟨0, _, _, _, Nat.zero_le _, rfl, rfl, rfl, HI0⟩
  case round =>
    obtain ⟨k, A2, n2, c2, hk, rfl, rfl, hm, HI⟩ := hrel
    have HM := Lib.hid hm
    clear hm
    by_cases hlt : k < s.size
    · have HO := Lib.hid HI.out.1
      obtain ⟨l, hl⟩ : ∃ l, l = exX (s.data.toList.take k) := ⟨_, rfl⟩
      rw [← hl] at HO
      have HN2 := Lib.hid HI.out.2.2.2
      rw [← hl] at HN2
      have hl3 : n2 ≤ 3145728 := by
        have h1 := exX_len (s.data.toList.take k)
        have h2 : (s.data.toList.take k).length ≤ s.size := List.length_take_le' k s.data.toList
        rw [← hl, ← HN2.out] at h1
        omega
      have HL := Lib.hid hl
      clear hl
      obtain ⟨x, hx⟩ : ∃ x, s[k] = x := ⟨_, rfl⟩
      obtain ⟨x0, hx0⟩ : ∃ x0 : Int, (x.toNat : Int) = x0 := ⟨_, rfl⟩
      have HX := Lib.hid hx
      by_cases hb : x = 10
      · have HE : Hid (exB s[k] = [92, 13, 10]) := Lib.hid (by rw [hx, hb]; rfl)
        have h10 : x0 = 10 := by rw [← hx0, hb]; rfl
        subst h10
        clear hb
        go_wp2_with (refine wpList_app_lit rfl _ _ rfl _ l rfl HO.out 3 3 _ [92, 13, 10] rfl rfl (by omega) rfl (by rw [← HN2.out]; omega) ?_; rw [← HN2.out]; intro g cap w3 ho hb3 hk3; have HOW := Lib.hid ho; have HB3 := Lib.hid hb3; have HK3 := Lib.hid hk3; clear ho hb3 hk3)
        go_roundg (s.size - (k + 1))
        case rel => exact ⟨k + 1, _, _, _, by omega, by go_num, rfl, rfl, Lib.hid (sri_step HI.out hlt HE.out (by rw [← HL.out]; exact HOW.out) HB3.out HK3.out)⟩
        case measure => rw [HM.out]; omega
      · have HE : Hid (exB s[k] = [x]) := Lib.hid (by rw [hx, exB, if_neg hb])
        have h10 : (x0 == 10) = false := by
          have : ¬ x.toNat = 10 := fun e => hb (UInt8.toNat_inj.1 e)
          simp; omega
        have HBY : Hid (By x = .int .u8 x0) := Lib.hid (by unfold By; rw [hx0])
        clear hb
        go_wp2_with (refine wpList_app_lit rfl _ _ rfl _ l rfl HO.out 1 1 _ [x] rfl rfl (by omega) (by show _ = #[By x]; rw [HBY.out]) (by rw [← HN2.out]; omega) ?_; rw [← HN2.out]; intro g cap w3 ho hb3 hk3; have HOW := Lib.hid ho; have HB3 := Lib.hid hb3; have HK3 := Lib.hid hk3; clear ho hb3 hk3)
        go_roundg (s.size - (k + 1))
        case rel => exact ⟨k + 1, _, _, _, by omega, by go_num, rfl, rfl, Lib.hid (sri_step HI.out hlt HE.out (by rw [← HL.out]; exact HOW.out) HB3.out HK3.out)⟩
        case measure => rw [HM.out]; omega
    · obtain rfl : k = s.size := by omega
      have HW0 := Lib.hid (wai_start (w := w) HI.out HRD.out HOB.out HK1.out)
      clear HI HM
      have hn1 : n ≤ 1048576 := by have := HN.out; have := HRL.out; have e : s.data.toList.length = s.size := rfl; omega
      go_wp2
      go_loopg [7] n (fun m i wr => ∃ j : Nat, j ≤ n ∧ i = .int .i64 j ∧ m = n - j ∧ Hid (WaI w w1 R s A A2 n c n2 c2 j wr))
      case atStart => exact ⟨0, Nat.zero_le _, rfl, rfl, HW0⟩
      case round =>
        obtain ⟨j, hj, rfl, hm, HI⟩ := hrel
        have HM := Lib.hid hm
        clear hm
        by_cases hlt : j < n
        · obtain ⟨g, hA, d0, df, hno, hyes⟩ := wai_at HI.out (by have := HN.out; omega)
          subst hA
          have HNO := Lib.hid hno; have HYES := Lib.hid hyes
          clear hno hyes
          obtain ⟨v, hv⟩ : ∃ v, v = R[j]'(by have := HN.out; omega) := ⟨_, rfl⟩
          rw [← hv] at d0 HNO HYES
          clear hv
          by_cases h10 : v = 10
          · subst h10
            go_wp2
            go_roundg (n - (j + 1))
            case rel => exact ⟨j + 1, by omega, by go_num, rfl, Lib.hid (HYES.out trivial)⟩
            case measure => rw [HM.out]; omega
          · have h10' : (v == 10) = false := by simpa using h10
            have HV := Lib.hid h10
            clear h10
            go_wp2
            go_roundg (n - (j + 1))
            case rel => exact ⟨j + 1, by omega, by go_num, rfl, Lib.hid (HNO.out HV.out)⟩
            case measure => rw [HM.out]; omega
        · obtain rfl : j = n := by omega
          have HF := Lib.hid (wai_end HI.out HN.out)
          have HSZ : Hid (n2 ≤ 3145728) := Lib.hid (by
            have h1 := exX_len s.data.toList
            have h2 : s.data.toList.length = s.size := rfl
            have h3 := (HF.out.2.2.1).src.2.1
            omega)
          clear HI HM
          go_wp2_with (first
            | (go_at_call 6; have hsr := (HF.out.2.2.1).src; refine (newlexer wr A2 n2 c2 0 (exX s.data.toList) ea hsr.1 (by have := HSZ.out; omega) hsr.2.2.1 ((HF.out.2.2.2.1.cell (p := ⟨0, 0, none⟩) (block_lt_of_cell HG.out) (by simp)).trans HG.out)).mono ?_; rintro e w3 ⟨rfl, hlx, hk3⟩; have HLX := Lib.hid (lexm_fresh (HT.out.kept HF.out.2.2.2.1 (by simp)) rfl hlx hk3 (by have := HSZ.out; have := hsr.2.1; omega)); have HK3 := Lib.hid hk3; clear hlx hk3 hsr)
            | (go_at_call 8;
               have hgl : 0 < wr.heap.size := Nat.lt_of_lt_of_le (block_lt_of_cell HG.out) HF.out.2.2.2.1.size;
               have hww := HF.out.2.2.2.2;
               refine (zstream HLX.out (by omega) (by decide) (HST.out 0 (by decide)) rfl (by rw [List.length_map]; exact HN.out) (by omega) ((HF.out.1.rd.weaken (Q := (· < wr.heap.size)) (fun g _ hg => Nat.lt_of_lt_of_le (HF.out.2.1 g hg).2 hww)).kept HK3.out (by simp)) (fun g hg => ⟨by omega, by omega, by omega⟩)).mono ?_; rintro e w4 ⟨rfl, hk4⟩; have HK4 := Lib.hid hk4; clear hk4 hgl hww))
          go_ret
          obtain ⟨S, k4, hS⟩ := HK4.out
          refine ⟨rfl, (((HF.out.2.2.2.1.trans HK3.out).weaken (S' := S) (by simp)).trans k4).weaken (fun x hx => .inr ?_)⟩
          have q1 := HF.out.2.2.2.1.size
          rcases hS x hx with h | h | h <;> omega

theorem law_FnRuneEscapedCRLFNewlineIsOneMarker (w : World) (s : ByteArray) (ea : Addr) (h1 : s.size ≤ 9223372036854775807) (hg : w.cell? ⟨0, 0, none⟩ = some (EOFv ea)) (hT : Tabs w) : Calls Tryf.prog 5 #[.string s] w fun e w' => e = .returned (.bool true) ∧ Kept [] w w' := by
  by_cases h : s.size ≤ 1048576
  · cases hG : plF (s.size + 1) s.data.toList with
    | none => exact skipD w s h hG
    | some R => exact okE w s ea R h hG hg hT
  · exact (skipC w s h1 (by omega)).mono fun e w' hh => ⟨hh.1, hh.2 ▸ Kept.refl _ _⟩
end Go.Proofs.YtpkgpkklgkpbfaaFmt
