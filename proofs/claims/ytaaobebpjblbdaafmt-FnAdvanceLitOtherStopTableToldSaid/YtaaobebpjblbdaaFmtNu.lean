/-
  n010_42: expectedLit; lexOther over a source that begins with an escaped byte.
-/
import Derived.Test.YtaaobebpjblbdaaFmtNt
import Derived.Test.YtaaobebpjblbdaaFmtNr
import Derived.Test.YtaaobebpjblbdaaFmtAde
namespace Go.Proofs.YtaaobebpjblbdaaFmt
open Go.RowKit

theorem while_congr {p q : UInt8 → Bool} {l : List UInt8} (h : ∀ x ∈ l, p x = q x) : l.takeWhile p = l.takeWhile q ∧ l.dropWhile p = l.dropWhile q := by
  induction l with
  | nil => exact ⟨rfl, rfl⟩
  | cons a t ih =>
    have ha := h a (by simp)
    have ht := ih (fun x hx => h x (by simp [hx]))
    cases hq : q a with
    | true => rw [hq] at ha; simp [ha, hq, ht.1, ht.2]
    | false => rw [hq] at ha; simp [ha, hq]

theorem drop_nil_iff {p : UInt8 → Bool} {l : List UInt8} : l.dropWhile p = [] ↔ ∀ x ∈ l, p x = true := by
  induction l with
  | nil => simp
  | cons a t ih =>
    by_cases h : p a = true
    · simp [h, ih]
    · simp [h]

theorem stops_table : ((List.range 4).all fun st => [true, false].all fun z => (List.range 128).all fun n => (n == 13) || (stopO (bits BinOp.and IntKind.u32 (qvOf st) 983040 != 0) (qvOf st != 524288) (bits BinOp.and IntKind.u32 (qvOf st) 203776 != 0) (bits BinOp.and IntKind.u32 (qvOf st) 787266 == 0) (!z) true (n : Int) == inSetB (stopsB st z) n)) = true := by kernel_rfl
theorem goO_stops (st : Nat) (hst : st < 4) (z : Bool) (c : UInt8) (hc : plainB c) : goO st z c = !inSetB (stopsB st z) c.toNat := by
  have h := stops_table
  rw [List.all_eq_true] at h
  have h1 := h st (List.mem_range.2 hst)
  rw [List.all_eq_true] at h1
  have h2 := h1 z (by cases z <;> simp)
  rw [List.all_eq_true] at h2
  have h3 := h2 c.toNat (List.mem_range.2 hc.1)
  have h13 : (c.toNat == 13) = false := by simpa using hc.2.2.1
  rw [h13, Bool.false_or] at h3
  have h4 := eq_of_beq h3
  unfold goO goesO
  rw [h4]

theorem isQ_set (x : Int) : inSetB quotesB x = isQ x := by
  unfold inSetB quotesB isQ
  simp only [List.any_cons, List.any_nil, Bool.or_false]
  rw [Bool.eq_iff_iff]
  simp only [Bool.or_eq_true, beq_iff_eq]
  have e1 : ((39 : UInt8).toNat : Int) = 39 := rfl
  have e2 : ((34 : UInt8).toNat : Int) = 34 := rfl
  have e3 : ((96 : UInt8).toNat : Int) = 96 := rfl
  have e4 : ((36 : UInt8).toNat : Int) = 36 := rfl
  omega

theorem ext_take (s : ByteArray) (k : Nat) : s.extract 0 k = ⟨(s.data.toList.take k).toArray⟩ := by
  have h := ext_list s 0 k
  simp only [List.drop_zero, Nat.sub_zero] at h
  rw [← h]
theorem all_of_eq (s : ByteArray) : s = ⟨s.data.toList.toArray⟩ := by cases s; simp

set_option maxRecDepth 100000 in
set_option maxHeartbeats 800000 in
theorem expected_any (s : ByteArray) (st : Int) (h1 : 0 ≤ st) (h2 : st ≤ 3) (z : Bool) (w : World) (hs : s.size ≤ 10000000) (hp : ∀ y ∈ s.data.toList, plainB y) :
    Calls Tryf.prog 8 #[.string s, .int .i64 st, .bool z] w fun e w' => e = .returned (.tuple #[.int .u32 (endT (s.data.toList.dropWhile (goO st.toNat z))), .string ⟨(s.data.toList.takeWhile (goO st.toNat z)).toArray⟩, .int .i32 (endR (s.data.toList.dropWhile (goO st.toNat z)))]) ∧ Kept [] w w' := by
  have hw := while_congr (p := goO st.toNat z) (q := fun c => !inSetB (stopsB st.toNat z) c.toNat) (l := s.data.toList) (fun x hx => goO_stops _ (by omega) z x (hp x hx))
  rw [hw.1, hw.2]
  clear hw
  have HL := Lib.hid (stops_any st h1 h2 z)
  have HQ := Lib.hid (fun (x : Int) (b : Bool) (hb : isQ x = b) (w : World) => (inset_any ⟨quotesB.toArray⟩ x w (by decide)).mono (R' := fun e w' => e = .returned (.bool b) ∧ w = w') (fun e w' h => by rw [show (ByteArray.mk quotesB.toArray).data.toList = quotesB from rfl, isQ_set, hb] at h; exact h))
  have hsz : (ByteArray.mk (stopsB st.toNat z).toArray).size ≤ 10000000 := by
    have hs : st = 0 ∨ st = 1 ∨ st = 2 ∨ st = 3 := by omega
    rcases hs with rfl | rfl | rfl | rfl <;> cases z <;> decide
  have hF := first_any s ⟨(stopsB st.toNat z).toArray⟩
  rw [show (ByteArray.mk (stopsB st.toNat z).toArray).data.toList = stopsB st.toNat z from rfl] at hF
  cases hany : s.data.toList.any (fun c => inSetB (stopsB st.toNat z) c.toNat) with
  | false =>
    have hd : s.data.toList.dropWhile (fun c => !inSetB (stopsB st.toNat z) c.toNat) = [] := by
      rw [drop_nil_iff]
      intro c hc
      rw [List.any_eq_false] at hany
      simpa using hany c hc
    have ht : s.data.toList.takeWhile (fun c => !inSetB (stopsB st.toNat z) c.toNat) = s.data.toList := by
      have := List.takeWhile_append_dropWhile (p := fun c => !inSetB (stopsB st.toNat z) c.toNat) (l := s.data.toList)
      rw [hd, List.append_nil] at this
      exact this
    rw [hd, ht, ← all_of_eq s]
    have hi : fstI s.data.toList (fun c => inSetB (stopsB st.toNat z) c.toNat) = -1 := by unfold fstI; rw [hany]; rfl
    have HF := Lib.hid (fun w => (hF w hs hsz).mono (R' := fun e w' => e = .returned (.int .i64 (-1)) ∧ w = w') (fun e w' h => by rw [hi] at h; exact h))
    clear hd ht hi hany hF hsz hp h1 h2
    go_enter Tryf.func8, Tryf.ntmps8
    go_wp2_with (first | (go_at_call 18; refine (HL.out _).mono ?_; rintro e w' ⟨rfl, rfl⟩) | (go_at_call 17; refine (HF.out _).mono ?_; rintro e w' ⟨rfl, rfl⟩))
    go_ret3
    exact ⟨rfl, Kept.refl _ _⟩
  | true =>
    obtain ⟨k, x, r, hk, hat, hd, ht, hi⟩ : ∃ (k : Nat) (x : UInt8) (r : List UInt8), k < s.size ∧ s.data.toList[k]? = some x ∧ s.data.toList.dropWhile (fun c => !inSetB (stopsB st.toNat z) c.toNat) = x :: r ∧ s.data.toList.takeWhile (fun c => !inSetB (stopsB st.toNat z) c.toNat) = s.data.toList.take k ∧ fstI s.data.toList (fun c => inSetB (stopsB st.toNat z) c.toNat) = k := by
      have happ := List.takeWhile_append_dropWhile (p := fun c => !inSetB (stopsB st.toNat z) c.toNat) (l := s.data.toList)
      cases hdw : s.data.toList.dropWhile (fun c => !inSetB (stopsB st.toNat z) c.toNat) with
      | nil =>
        rw [drop_nil_iff] at hdw
        rw [List.any_eq_true] at hany
        obtain ⟨c, hc, hcs⟩ := hany
        have := hdw c hc
        simp [hcs] at this
      | cons x r =>
        rw [hdw] at happ
        refine ⟨(s.data.toList.takeWhile fun c => !inSetB (stopsB st.toNat z) c.toNat).length, x, r, ?_, ?_, rfl, ?_, ?_⟩
        · have h := congrArg List.length happ
          have e : s.data.toList.length = s.size := rfl
          simp at h; omega
        · conv => lhs; arg 1; rw [← happ]
          rw [List.getElem?_append_right (Nat.le_refl _), Nat.sub_self]
          rfl
        · conv => rhs; arg 2; rw [← happ]
          simp
        · unfold fstI; rw [hany]; rfl
    rw [hd, ht, ← ext_take s k]
    have hsk : s[k] = x := by
      rw [str_at hk] at hat
      exact Option.some.inj hat
    have HF := Lib.hid (fun w => (hF w hs hsz).mono (R' := fun e w' => e = .returned (.int .i64 (k : Int)) ∧ w = w') (fun e w' h => by rw [hi] at h; exact h))
    have hwr := rune_u8 s[k]
    have hb := s[k].toNat_lt
    clear hd ht hi hany hF hsz hp h1 h2 hat hb
    unfold endT endR
    dsimp only
    subst hsk
    cases hq : isQ (s[k].toNat : Int) with
    | true =>
      have HC := Lib.hid (HQ.out _ _ hq)
      clear hq
      go_enter Tryf.func8, Tryf.ntmps8
      go_wp2_with (first | (go_at_call 18; refine (HL.out _).mono ?_; rintro e w' ⟨rfl, rfl⟩) | (go_at_call 17; refine (HF.out _).mono ?_; rintro e w' ⟨rfl, rfl⟩) | (go_at_call 19; refine (HC.out _).mono ?_; rintro e w' ⟨rfl, rfl⟩))
      go_quiet (fail)
      go_wp2
      go_ret3
      exact ⟨rfl, (Kept.refl _ _).drewN _⟩
    | false =>
      have HC := Lib.hid (HQ.out _ _ hq)
      clear hq
      go_enter Tryf.func8, Tryf.ntmps8
      go_wp2_with (first | (go_at_call 18; refine (HL.out _).mono ?_; rintro e w' ⟨rfl, rfl⟩) | (go_at_call 17; refine (HF.out _).mono ?_; rintro e w' ⟨rfl, rfl⟩) | (go_at_call 19; refine (HC.out _).mono ?_; rintro e w' ⟨rfl, rfl⟩))
      go_quiet (fail)
      go_wp2
      go_ret3
      exact ⟨rfl, (Kept.refl _ _).drewN _⟩
end Go.Proofs.YtaaobebpjblbdaaFmt
