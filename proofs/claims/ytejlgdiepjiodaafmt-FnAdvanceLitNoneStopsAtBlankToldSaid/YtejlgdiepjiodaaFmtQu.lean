/-
  ValidName, numberLiteral and isLitRedir on ASCII bytes.
-/
import Derived.Test.YtejlgdiepjiodaaFmtQt
import Derived.Test.YtejlgdiepjiodaaFmtQm
import Derived.LoopTactic
import Derived.Laws.RangeString
namespace Go.Proofs.YtejlgdiepjiodaaFmt
open Go.RowKit

def letB (c : UInt8) : Bool := decide ((97 ≤ c.toNat ∧ c.toNat ≤ 122) ∨ (65 ≤ c.toNat ∧ c.toNat ≤ 90))
def digB (c : UInt8) : Bool := decide (48 ≤ c.toNat ∧ c.toNat ≤ 57)
def vN : Bool → List UInt8 → Bool
  | _, [] => true
  | f, c :: l => (letB c || c == 95 || (!f && digB c)) && vN false l
def validN (l : List UInt8) : Bool := decide (l ≠ []) && vN true l
def allD2 (l : List UInt8) : Bool := l.all digB
def numN (l : List UInt8) : Bool := decide (l ≠ []) && allD2 l
def litR (l : List UInt8) : Bool := if l.head? = some 123 ∧ l.getLast? = some 125 then validN ((l.drop 1).dropLast) else numN l

theorem letter_run (v : Int) (b : Bool) (hb : decide ((97 ≤ v ∧ v ≤ 122) ∨ (65 ≤ v ∧ v ≤ 90)) = b) (w : World) : Calls Tryf.prog 59 #[.int .i32 v] w fun e w' => e = .returned (.bool b) ∧ w = w' := by
  by_cases h1 : 97 ≤ v ∧ v ≤ 122
  · have : b = true := by rw [← hb]; simp [h1]
    subst this
    obtain ⟨h1, h2⟩ := h1
    clear hb
    go_enter Tryf.func59, Tryf.ntmps59
    go_wp2
    go_ret
    exact ⟨rfl, rfl⟩
  · by_cases h2 : 65 ≤ v ∧ v ≤ 90
    · have : b = true := by rw [← hb]; simp [h2]
      subst this
      obtain ⟨h2, h3⟩ := h2
      have g1 : ¬ 97 ≤ v := by omega
      clear hb
      go_enter Tryf.func59, Tryf.ntmps59
      go_wp2
      go_ret
      exact ⟨rfl, rfl⟩
    · have : b = false := by rw [← hb]; simp; omega
      subst this
      clear hb
      by_cases g1 : 97 ≤ v
      · have g2 : ¬ v ≤ 122 := by omega
        have g3 : 65 ≤ v := by omega
        have g4 : ¬ v ≤ 90 := by omega
        clear h1 h2
        go_enter Tryf.func59, Tryf.ntmps59
        go_wp2
        go_ret
        exact ⟨rfl, rfl⟩
      · by_cases g3 : 65 ≤ v
        · have g4 : ¬ v ≤ 90 := by omega
          clear h1 h2
          go_enter Tryf.func59, Tryf.ntmps59
          go_wp2
          go_ret
          exact ⟨rfl, rfl⟩
        · clear h1 h2
          go_enter Tryf.func59, Tryf.ntmps59
          go_wp2
          go_ret
          exact ⟨rfl, rfl⟩

theorem digit_run (v : Int) (b : Bool) (hb : decide (48 ≤ v ∧ v ≤ 57) = b) (w : World) : Calls Tryf.prog 60 #[.int .i32 v] w fun e w' => e = .returned (.bool b) ∧ w = w' := by
  by_cases h1 : 48 ≤ v
  · by_cases h2 : v ≤ 57
    · have : b = true := by rw [← hb]; simp [h1, h2]
      subst this
      clear hb
      go_enter Tryf.func60, Tryf.ntmps60
      go_wp2
      go_ret
      exact ⟨rfl, rfl⟩
    · have : b = false := by rw [← hb]; simp; omega
      subst this
      clear hb
      go_enter Tryf.func60, Tryf.ntmps60
      go_wp2
      go_ret
      exact ⟨rfl, rfl⟩
  · have : b = false := by rw [← hb]; simp; omega
    subst this
    clear hb
    go_enter Tryf.func60, Tryf.ntmps60
    go_wp2
    go_ret
    exact ⟨rfl, rfl⟩

theorem letB_run (c : UInt8) (w : World) : Calls Tryf.prog 59 #[.int .i32 c.toNat] w fun e w' => e = .returned (.bool (letB c)) ∧ w = w' :=
  letter_run _ _ (by unfold letB; congr 1; apply propext; omega) w
theorem digB_run (c : UInt8) (w : World) : Calls Tryf.prog 60 #[.int .i32 c.toNat] w fun e w' => e = .returned (.bool (digB c)) ∧ w = w' :=
  digit_run _ _ (by unfold digB; congr 1; apply propext; omega) w

theorem drop_ascii {s : ByteArray} {pos : Nat} (h : pos < s.size) (hu : ∀ y ∈ s.data.toList, y.toNat < 128) : (s[pos]'h).toNat < 128 := hu _ (List.mem_of_getElem? (str_at2 h))

set_option maxRecDepth 100000 in
set_option maxHeartbeats 1000000 in
theorem validname (w : World) (s : ByteArray) (hs : s.size ≤ 1000000000) (hu : ∀ y ∈ s.data.toList, y.toNat < 128) (F : Bool) (hF : F = validN s.data.toList) :
    Calls Tryf.prog 56 #[.string s] w fun e w' => e = .returned (.bool F) ∧ Kept [] w w' := by
  have elen : s.data.toList.length = s.size := rfl
  have HU := Lib.hid hu
  by_cases h0 : s.size = 0
  · have HF : Hid (F = false) := Lib.hid (by rw [hF, validN, List.eq_nil_of_length_eq_zero (by omega : s.data.toList.length = 0)]; rfl)
    have e : s = ⟨#[]⟩ := by
      apply ByteArray.ext
      apply Array.toList_inj.1
      rw [List.eq_nil_of_length_eq_zero (by omega : s.data.toList.length = 0)]
    subst e
    clear hF hu h0
    go_enter Tryf.func56, Tryf.ntmps56
    go_wp2
    go_ret
    rw [HF.out]
    exact ⟨rfl, Kept.refl _ _⟩
  have hne : s.data.toList ≠ [] := fun e => h0 (by rw [← elen, e]; rfl)
  have HF0 : Hid (F = vN (decide (0 = 0)) (s.data.toList.drop 0)) := Lib.hid (by rw [hF, validN, decide_eq_true hne]; simp)
  have g0 : s.toList.isEmpty = false := by
    rw [toList_eq]
    cases hd : s.data.toList with
    | nil => exact absurd hd hne
    | cons => rfl
  clear hF hu hne
  go_enter Tryf.func56, Tryf.ntmps56
  go_wp2
  go_loopw [3, 4] (fun _ _ w' => ∃ pos : Nat, pos ≤ s.size ∧ w' = w.iter s pos ∧ Hid (F = vN (decide (pos = 0)) (s.data.toList.drop pos))) (fun _ _ w' => s.size - w'.iterPos w.heap.size)
  case atStart => exact ⟨0, Nat.zero_le _, rfl, HF0⟩
  case round =>
    obtain ⟨pos, hpos, rfl, HN⟩ := hrel
    by_cases hp : pos < s.size
    · have hnx : ∀ ty, (Instr.next (.pointer (some ⟨w.heap.size, 0, none⟩)) true ty).run Tryf.prog (w.iter s pos) = _ := fun ty => run_next_ascii w s pos ty hp (drop_ascii hp HU.out)
      have hd : F = ((letB s[pos] || s[pos] == 95 || (!(decide (pos = 0)) && digB s[pos])) && vN false (s.data.toList.drop (pos + 1))) := by
        rw [HN.out, drop_at s hp]; rfl
      have HL := Lib.hid (fun w => letB_run s[pos] w)
      have HD := Lib.hid (fun w => digB_run s[pos] w)
      have hfin : (letB s[pos] || s[pos] == 95 || (!(decide (pos = 0)) && digB s[pos])) = true → Hid (F = vN (decide (pos + 1 = 0)) (s.data.toList.drop (pos + 1))) := fun e => Lib.hid (by rw [hd, e]; simp)
      have hno : (letB s[pos] || s[pos] == 95 || (!(decide (pos = 0)) && digB s[pos])) = false → Hid (F = false) := fun e => Lib.hid (by rw [hd, e]; simp)
      clear hd
      obtain ⟨c, hc⟩ : ∃ c, c = s[pos] := ⟨_, rfl⟩
      rw [← hc] at hfin hno HL HD hnx
      obtain ⟨v, hv⟩ : ∃ v : Int, v = c.toNat := ⟨_, rfl⟩
      rw [← hv] at hnx HL HD
      clear hc HN
      cases hl : letB c with
      | true =>
        have HQ := hfin (by simp [hl])
        rw [hl] at HL
        clear hfin hno hl hv
        go_wp2_with (go_at_call 59; refine (HL.out _).mono ?_; rintro e w' ⟨rfl, rfl⟩)
        go_roundw
        case rel => exact ⟨pos + 1, by omega, rfl, HQ⟩
        case measure => simp; omega
      | false =>
        rw [hl] at HL
        by_cases h95 : c = 95
        · have HQ := hfin (by simp [h95])
          have g1 : v = 95 := by rw [hv, h95]; rfl
          subst g1
          clear hfin hno hl h95 hv
          go_wp2_with (go_at_call 59; refine (HL.out _).mono ?_; rintro e w' ⟨rfl, rfl⟩)
          go_roundw
          case rel => exact ⟨pos + 1, by omega, rfl, HQ⟩
          case measure => simp; omega
        · have g1 : (v == 95) = false := by
            have : ¬ c.toNat = 95 := fun e => h95 (UInt8.toNat_inj.1 e)
            simp; omega
          clear hv
          by_cases hp0 : pos = 0
          · have HQ := hno (by simp [hl, h95, hp0])
            subst hp0
            clear hfin hno hl h95
            go_wp2_with (go_at_call 59; refine (HL.out _).mono ?_; rintro e w' ⟨rfl, rfl⟩)
            go_ret
            rw [HQ.out]
            exact ⟨rfl, (Kept.refl _ _).alloc _⟩
          · have hpp : 0 < pos := by omega
            cases hdg : digB c with
            | true =>
              have HQ := hfin (by simp [hdg, hp0])
              rw [hdg] at HD
              clear hfin hno hl h95 hdg
              go_wp2_with (first | (go_at_call 59; refine (HL.out _).mono ?_; rintro e w' ⟨rfl, rfl⟩) | (go_at_call 60; refine (HD.out _).mono ?_; rintro e w' ⟨rfl, rfl⟩))
              go_roundw
              case rel => exact ⟨pos + 1, by omega, rfl, HQ⟩
              case measure => simp; omega
            | false =>
              have HQ := hno (by simp [hdg, hl, h95])
              rw [hdg] at HD
              clear hfin hno hl h95 hdg
              go_wp2_with (first | (go_at_call 59; refine (HL.out _).mono ?_; rintro e w' ⟨rfl, rfl⟩) | (go_at_call 60; refine (HD.out _).mono ?_; rintro e w' ⟨rfl, rfl⟩))
              go_ret
              rw [HQ.out]
              exact ⟨rfl, (Kept.refl _ _).alloc _⟩
    · obtain rfl : pos = s.size := by omega
      have hnx : ∀ ty, (Instr.next (.pointer (some ⟨w.heap.size, 0, none⟩)) true ty).run Tryf.prog (w.iter s s.size) = _ := fun ty => run_next_end w s s.size ty hp
      have HF : Hid (F = true) := Lib.hid (by rw [HN.out, drop_end]; rfl)
      clear HN
      go_wp2
      go_ret
      rw [HF.out]
      exact ⟨rfl, (Kept.refl _ _).alloc _⟩


set_option maxRecDepth 100000 in
set_option maxHeartbeats 1000000 in
theorem number (w : World) {A : Option Addr} {n c : Nat} {l : List UInt8} (hsrc : SrcB w A n l) (hn : n ≤ 1000000000) (hu : ∀ y ∈ l, y.toNat < 128) (F : Bool) (hF : F = numN l) :
    Calls Tryf.prog 57 #[.slice A n c] w fun e w' => e = .returned (.bool F) ∧ Kept [] w w' := by
  have hcv := conv_src (c := c) hsrc
  obtain ⟨hlen, _⟩ := hsrc
  obtain ⟨s, hs⟩ : ∃ s : ByteArray, s = ⟨l.toArray⟩ := ⟨_, rfl⟩
  have hsl : s.data.toList = l := by rw [hs]
  rw [← hs] at hcv
  rw [← hsl] at hu hF hlen
  have elen : s.data.toList.length = s.size := rfl
  have HU := Lib.hid hu
  by_cases h0 : n = 0
  · have HF : Hid (F = false) := Lib.hid (by rw [hF, numN, List.eq_nil_of_length_eq_zero (by omega : s.data.toList.length = 0)]; rfl)
    subst h0
    clear hF hu hcv hs hsl hlen
    go_enter Tryf.func57, Tryf.ntmps57
    go_wp2
    go_ret
    rw [HF.out]
    exact ⟨rfl, Kept.refl _ _⟩
  have hne : s.data.toList ≠ [] := fun e => h0 (by rw [← hlen, e]; rfl)
  have HF0 : Hid (F = allD2 (s.data.toList.drop 0)) := Lib.hid (by rw [hF, numN, decide_eq_true hne]; simp)
  have g0 : ((n : Int) == 0) = false := by simpa using h0
  obtain rfl : n = s.size := by omega
  clear hF hu hne hs hsl hlen
  go_enter Tryf.func57, Tryf.ntmps57
  go_wp2
  go_loopw [4] (fun _ w' => ∃ pos : Nat, pos ≤ s.size ∧ w' = w.iter s pos ∧ Hid (F = allD2 (s.data.toList.drop pos))) (fun _ w' => s.size - w'.iterPos w.heap.size)
  case atStart => exact ⟨0, Nat.zero_le _, rfl, HF0⟩
  case round =>
    obtain ⟨pos, hpos, rfl, HN⟩ := hrel
    by_cases hp : pos < s.size
    · have hnx : ∀ ty, (Instr.next (.pointer (some ⟨w.heap.size, 0, none⟩)) true ty).run Tryf.prog (w.iter s pos) = _ := fun ty => run_next_ascii w s pos ty hp (drop_ascii hp HU.out)
      have hd : F = (digB s[pos] && allD2 (s.data.toList.drop (pos + 1))) := by
        rw [HN.out, drop_at s hp]; rfl
      have HD := Lib.hid (fun w => digB_run s[pos] w)
      obtain ⟨c, hc⟩ : ∃ c, c = s[pos] := ⟨_, rfl⟩
      rw [← hc] at hd HD hnx
      clear hc HN
      cases hdg : digB c with
      | true =>
        have HQ := Lib.hid (show F = allD2 (s.data.toList.drop (pos + 1)) by rw [hd, hdg]; simp)
        rw [hdg] at HD
        clear hd hdg
        go_wp2_with (go_at_call 60; refine (HD.out _).mono ?_; rintro e w' ⟨rfl, rfl⟩)
        go_roundw
        case rel => exact ⟨pos + 1, by omega, rfl, HQ⟩
        case measure => simp; omega
      | false =>
        have HQ := Lib.hid (show F = false by rw [hd, hdg]; simp)
        rw [hdg] at HD
        clear hd hdg
        go_wp2_with (go_at_call 60; refine (HD.out _).mono ?_; rintro e w' ⟨rfl, rfl⟩)
        go_ret
        rw [HQ.out]
        exact ⟨rfl, (Kept.refl _ _).alloc _⟩
    · obtain rfl : pos = s.size := by omega
      have hnx : ∀ ty, (Instr.next (.pointer (some ⟨w.heap.size, 0, none⟩)) true ty).run Tryf.prog (w.iter s s.size) = _ := fun ty => run_next_end w s s.size ty hp
      have HF : Hid (F = true) := Lib.hid (by rw [HN.out, drop_end]; rfl)
      clear HN
      go_wp2
      go_ret
      rw [HF.out]
      exact ⟨rfl, (Kept.refl _ _).alloc _⟩
end Go.Proofs.YtejlgdiepjiodaaFmt
