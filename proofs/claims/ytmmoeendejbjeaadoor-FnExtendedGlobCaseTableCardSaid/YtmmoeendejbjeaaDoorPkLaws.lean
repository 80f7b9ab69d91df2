/-
  n010_87: the laws on peek, walked.
-/
import Derived.Test.YtmmoeendejbjeaaDoorPkClone
import Derived.Test.YtmmoeendejbjeaaDoorPkNew
namespace Go.Proofs.YtmmoeendejbjeaaDoor
open Go.RowKit

/-- The k-th byte of a stream, 0x80 past its end. -/
def atD (s : List UInt8) (k : Nat) : UInt8 := (s[k]?).getD 128
theorem hd2_at0 (s : List UInt8) : (hd2 s).1 = atD s 0 := by
  match s with
  | [] => rfl
  | [_] => rfl
  | _ :: _ :: _ => rfl
theorem hd2_at1 (s : List UInt8) : (hd2 s).2 = atD s 1 := by
  match s with
  | [] => rfl
  | [_] => rfl
  | _ :: _ :: _ => rfl

set_option maxHeartbeats 400000 in
theorem stream_at (w : World) (A A' : Option Addr) (n c n' c' bsp k : Nat) (l l' : List UInt8) (h : SrcB w A n l) (h' : SrcB w A' n' l') (hb : bsp ≤ n) (hn : n ≤ 1048576) (hn' : n' ≤ 1048576) (hk : k ≤ 1) :
    Calls Tryd.prog 13 #[.slice A n c, .int .u64 bsp, .slice A' n' c', .int .i64 k] w fun e w' => e = .returned (.int .u8 (atD (l.drop bsp ++ l') k).toNat) ∧ w = w' := by
  have hl := h.1
  have hl' := h'.1
  by_cases h1 : bsp + k < n
  · obtain ⟨g, o, rfl, hg, hc⟩ := h.2 (by omega)
    obtain ⟨x, hx0⟩ : ∃ x, l[bsp + k]? = some x := ⟨_, List.getElem?_eq_getElem (by omega)⟩
    have hx := hc (bsp + k) x hx0
    have he : atD (l.drop bsp ++ l') k = x := by
      unfold atD
      rw [List.getElem?_append_left (by simp; omega), List.getElem?_drop, hx0]
      rfl
    rw [he]
    unfold By at hx
    clear hc h h' hl hl' he hx0
    go_enter Tryd.func13, Tryd.ntmps13
    go_wp2
    go_ret
    exact ⟨rfl, rfl⟩
  · by_cases h2 : bsp + k - n < n'
    · obtain ⟨g, o, rfl, hg, hc⟩ := h'.2 (by omega)
      obtain ⟨x, hx0⟩ : ∃ x, l'[bsp + k - n]? = some x := ⟨_, List.getElem?_eq_getElem (by omega)⟩
      have hx := hc (bsp + k - n) x hx0
      have he : atD (l.drop bsp ++ l') k = x := by
        unfold atD
        rw [List.getElem?_append_right (by simp; omega), List.length_drop, show k - (l.length - bsp) = bsp + k - n by omega, hx0]
        rfl
      rw [he]
      unfold By at hx
      clear hc h h' hl hl' he hx0
      go_enter Tryd.func13, Tryd.ntmps13
      go_wp2
      go_ret
      exact ⟨rfl, rfl⟩
    · have he : atD (l.drop bsp ++ l') k = 128 := by
        unfold atD
        rw [List.getElem?_eq_none (by simp; omega)]
        rfl
      rw [he]
      clear h h' hl hl' he
      go_enter Tryd.func13, Tryd.ntmps13
      go_wp2
      go_ret
      exact ⟨rfl, rfl⟩

theorem SrcB.after {w2 w4 : World} {A : Option Addr} {n : Nat} {l : List UInt8} (h : SrcB w2 A n l) (hk : Kept [w2.heap.size, w2.heap.size + 1] w2 w4) : SrcB w4 A n l :=
  h.kept hk (by simp)

theorem zpeek {w : World} {B pb rb : Nat} {ea : Addr} {lang val : Value} {stream : List UInt8} (h : MidS w B pb rb ea lang val stream) :
    Calls Tryd.prog 12 #[.pointer (some ⟨pb, 0, none⟩)] w fun e w' => e = .returned (.int .u8 (atD stream 0).toNat) ∧ Kept [rb, pb] w w' ∧ MidS w' B pb rb ea lang val stream := by
  have H := Lib.hid h; clear h
  rw [← hd2_at0]
  go_enter Tryd.func12, Tryd.ntmps12
  go_wp2_with fail
  refine (peek_spec H.out).mono ?_
  rintro e w1 ⟨rfl, hk, hm⟩
  have HK := Lib.hid hk; have HM := Lib.hid hm; clear hk hm
  go_wp2_with fail
  go_ret
  exact ⟨rfl, HK.out, HM.out⟩
theorem zpeek2 {w : World} {B pb rb : Nat} {ea : Addr} {lang val : Value} {stream : List UInt8} (h : MidS w B pb rb ea lang val stream) :
    Calls Tryd.prog 15 #[.pointer (some ⟨pb, 0, none⟩)] w fun e w' => e = .returned (.tuple #[.int .u8 (atD stream 0).toNat, .int .u8 (atD stream 1).toNat]) ∧ Kept [rb, pb] w w' ∧ MidS w' B pb rb ea lang val stream := by
  have H := Lib.hid h; clear h
  rw [← hd2_at0, ← hd2_at1]
  go_enter Tryd.func15, Tryd.ntmps15
  go_wp2_with fail
  refine (peek2_spec H.out).mono ?_
  rintro e w1 ⟨rfl, hk, hm⟩
  have HK := Lib.hid hk; have HM := Lib.hid hm; clear hk hm
  go_wp2_with fail
  go_ret2
  exact ⟨rfl, HK.out, HM.out⟩

theorem yes_FnPeekSeesNextUnreadByte (w : World) (A A' : Option Addr) (n c n' c' : Nat) (b : Value) (h : n + n' ≤ 1048576) :
    Calls Tryd.prog 9 #[.slice A n c, b, .slice A' n' c'] w fun e w' => e = .returned (.bool true) ∧ w = w' := by
  go_enter Tryd.func9, Tryd.ntmps9
  go_wp2
  go_ret
  exact ⟨rfl, rfl⟩
theorem no_FnPeekSeesNextUnreadByte (w : World) (A A' : Option Addr) (n c n' c' : Nat) (b : Value) (h : 1048576 < n + n') (h1 : n ≤ 9223372036854775807) (h2 : n' ≤ 9223372036854775807) :
    Calls Tryd.prog 9 #[.slice A n c, b, .slice A' n' c'] w fun e w' => e = .returned (.bool false) ∧ w = w' := by
  by_cases h3 : n ≤ 1048576
  · by_cases h4 : n' ≤ 1048576
    · go_enter Tryd.func9, Tryd.ntmps9
      go_wp2
      go_ret
      exact ⟨rfl, rfl⟩
    · go_enter Tryd.func9, Tryd.ntmps9
      go_wp2
      go_ret
      exact ⟨rfl, rfl⟩
  · go_enter Tryd.func9, Tryd.ntmps9
    go_wp2
    go_ret
    exact ⟨rfl, rfl⟩
set_option maxHeartbeats 400000 in
theorem skip_FnPeekSeesNextUnreadByte (w : World) (A A' : Option Addr) (n c n' c' bsp : Nat) (h1 : n ≤ 9223372036854775807) (h2 : n' ≤ 9223372036854775807) (h : ¬ (n + n' ≤ 1048576 ∧ n ≤ 1024 ∧ bsp ≤ n)) :
    Calls Tryd.prog 3 #[.slice A n c, .int .u64 bsp, .slice A' n' c'] w fun e w' => e = .returned (.bool true) ∧ w = w' := by
  by_cases h3 : n + n' ≤ 1048576
  · by_cases h4 : n ≤ 1024
    · have h5 : n < bsp := by omega
      clear h
      go_enter Tryd.func3, Tryd.ntmps3
      go_wp2_with (go_at_call 9; refine (yes_FnPeekSeesNextUnreadByte _ _ _ _ _ _ _ _ h3).mono ?_; rintro e w' ⟨rfl, rfl⟩)
      go_ret
      exact ⟨rfl, rfl⟩
    · clear h
      go_enter Tryd.func3, Tryd.ntmps3
      go_wp2_with (go_at_call 9; refine (yes_FnPeekSeesNextUnreadByte _ _ _ _ _ _ _ _ h3).mono ?_; rintro e w' ⟨rfl, rfl⟩)
      go_ret
      exact ⟨rfl, rfl⟩
  · clear h
    go_enter Tryd.func3, Tryd.ntmps3
    go_wp2_with (go_at_call 9; refine (no_FnPeekSeesNextUnreadByte _ _ _ _ _ _ _ _ (by omega) h1 h2).mono ?_; rintro e w' ⟨rfl, rfl⟩)
    go_ret
    exact ⟨rfl, rfl⟩
set_option maxRecDepth 100000 in
set_option maxHeartbeats 800000 in
theorem ok_FnPeekSeesNextUnreadByte (w : World) (A A' : Option Addr) (n c n' c' bsp : Nat) (l l' : List UInt8) (ea : Addr) (h : SrcB w A n l) (h' : SrcB w A' n' l') (hA : A = none → n = 0 ∧ c = 0) (hA' : A' = none → n' = 0 ∧ c' = 0)
    (hN : n + n' ≤ 1048576) (hn : n ≤ 1024) (hb : bsp ≤ n) (hg : w.cell? ⟨0, 0, none⟩ = some (EOFv ea)) :
    Calls Tryd.prog 3 #[.slice A n c, .int .u64 bsp, .slice A' n' c'] w fun e w' => e = .returned (.bool true) ∧ Kept [] w w' := by
  have HS := Lib.hid h
  have HS' := Lib.hid h'
  have HA := Lib.hid hA
  have HA' := Lib.hid hA'
  have HG := Lib.hid hg
  clear h h' hA hA' hg
  go_enter Tryd.func3, Tryd.ntmps3
  go_wp2_with (go_at_call 9; refine (yes_FnPeekSeesNextUnreadByte _ _ _ _ _ _ _ _ hN).mono ?_; rintro e w' ⟨rfl, rfl⟩)
  refine (clone_spec w A n c l (by omega) HA.out HS.out).mono ?_
  rintro e w1 ⟨A1, rfl, hs1, hk1⟩
  have HS1 := Lib.hid hs1; have HK1 := Lib.hid hk1; clear hs1 hk1
  go_wp2_with fail
  refine (clone_spec w1 A' n' c' l' (by omega) HA'.out (HS'.out.kept HK1.out (by simp))).mono ?_
  rintro e w2 ⟨A2, rfl, hs2, hk2⟩
  have HS2 := Lib.hid hs2; have HK2 := Lib.hid (HK1.out.trans hk2); have HS1' := Lib.hid (HS1.out.kept hk2 (by simp)); clear hs2 hk2
  have HG2 := Lib.hid ((HK2.out.cell (p := ⟨0, 0, none⟩) (block_lt_of_cell HG.out) (by simp)).trans HG.out)
  go_wp2_with fail
  refine (new_at w2 A1 A2 n n n' n' bsp l l' 1 ⟨#[]⟩ ea HS1'.out HS2.out hn (by omega) (by omega) hb HG2.out).mono ?_
  rintro e w3 ⟨rfl, hm3, hk3⟩
  have HM3 := Lib.hid hm3; have HK3 := Lib.hid (hk3.weaken (S' := [w2.heap.size, w2.heap.size + 1]) (by simp)); clear hm3 hk3
  go_wp2_with fail
  refine (zpeek HM3.out).mono ?_
  rintro e w4 ⟨rfl, hk, hm⟩
  have HM4 := Lib.hid hm; have HK4 := Lib.hid (HK3.out.trans hk); clear hk hm
  go_wp2_with fail
  refine (stream_at w4 A1 A2 n n n' n' bsp 0 l l' (HS1'.out.after HK4.out) (HS2.out.after HK4.out) hb (by omega) (by omega) (by omega)).mono ?_
  rintro e w' ⟨rfl, rfl⟩
  go_wp2_with fail
  go_ret
  exact ⟨rfl, ((HK2.out.weaken (S' := [w2.heap.size, w2.heap.size + 1]) (by simp)).trans HK4.out).weaken (by have := HK2.out.size; simp; omega)⟩

theorem yes_FnPeekTwoSeesNextTwoBytes (w : World) (A A' : Option Addr) (n c n' c' : Nat) (b : Value) (h : n + n' ≤ 1048576) :
    Calls Tryd.prog 14 #[.slice A n c, b, .slice A' n' c'] w fun e w' => e = .returned (.bool true) ∧ w = w' := by
  go_enter Tryd.func14, Tryd.ntmps14
  go_wp2
  go_ret
  exact ⟨rfl, rfl⟩
theorem no_FnPeekTwoSeesNextTwoBytes (w : World) (A A' : Option Addr) (n c n' c' : Nat) (b : Value) (h : 1048576 < n + n') (h1 : n ≤ 9223372036854775807) (h2 : n' ≤ 9223372036854775807) :
    Calls Tryd.prog 14 #[.slice A n c, b, .slice A' n' c'] w fun e w' => e = .returned (.bool false) ∧ w = w' := by
  by_cases h3 : n ≤ 1048576
  · by_cases h4 : n' ≤ 1048576
    · go_enter Tryd.func14, Tryd.ntmps14
      go_wp2
      go_ret
      exact ⟨rfl, rfl⟩
    · go_enter Tryd.func14, Tryd.ntmps14
      go_wp2
      go_ret
      exact ⟨rfl, rfl⟩
  · go_enter Tryd.func14, Tryd.ntmps14
    go_wp2
    go_ret
    exact ⟨rfl, rfl⟩
set_option maxHeartbeats 400000 in
theorem skip_FnPeekTwoSeesNextTwoBytes (w : World) (A A' : Option Addr) (n c n' c' bsp : Nat) (h1 : n ≤ 9223372036854775807) (h2 : n' ≤ 9223372036854775807) (h : ¬ (n + n' ≤ 1048576 ∧ n ≤ 1024 ∧ bsp ≤ n)) :
    Calls Tryd.prog 4 #[.slice A n c, .int .u64 bsp, .slice A' n' c'] w fun e w' => e = .returned (.bool true) ∧ w = w' := by
  by_cases h3 : n + n' ≤ 1048576
  · by_cases h4 : n ≤ 1024
    · have h5 : n < bsp := by omega
      clear h
      go_enter Tryd.func4, Tryd.ntmps4
      go_wp2_with (go_at_call 14; refine (yes_FnPeekTwoSeesNextTwoBytes _ _ _ _ _ _ _ _ h3).mono ?_; rintro e w' ⟨rfl, rfl⟩)
      go_ret
      exact ⟨rfl, rfl⟩
    · clear h
      go_enter Tryd.func4, Tryd.ntmps4
      go_wp2_with (go_at_call 14; refine (yes_FnPeekTwoSeesNextTwoBytes _ _ _ _ _ _ _ _ h3).mono ?_; rintro e w' ⟨rfl, rfl⟩)
      go_ret
      exact ⟨rfl, rfl⟩
  · clear h
    go_enter Tryd.func4, Tryd.ntmps4
    go_wp2_with (go_at_call 14; refine (no_FnPeekTwoSeesNextTwoBytes _ _ _ _ _ _ _ _ (by omega) h1 h2).mono ?_; rintro e w' ⟨rfl, rfl⟩)
    go_ret
    exact ⟨rfl, rfl⟩
set_option maxRecDepth 100000 in
set_option maxHeartbeats 800000 in
theorem ok_FnPeekTwoSeesNextTwoBytes (w : World) (A A' : Option Addr) (n c n' c' bsp : Nat) (l l' : List UInt8) (ea : Addr) (h : SrcB w A n l) (h' : SrcB w A' n' l') (hA : A = none → n = 0 ∧ c = 0) (hA' : A' = none → n' = 0 ∧ c' = 0)
    (hN : n + n' ≤ 1048576) (hn : n ≤ 1024) (hb : bsp ≤ n) (hg : w.cell? ⟨0, 0, none⟩ = some (EOFv ea)) :
    Calls Tryd.prog 4 #[.slice A n c, .int .u64 bsp, .slice A' n' c'] w fun e w' => e = .returned (.bool true) ∧ Kept [] w w' := by
  have HS := Lib.hid h
  have HS' := Lib.hid h'
  have HA := Lib.hid hA
  have HA' := Lib.hid hA'
  have HG := Lib.hid hg
  clear h h' hA hA' hg
  go_enter Tryd.func4, Tryd.ntmps4
  go_wp2_with (go_at_call 14; refine (yes_FnPeekTwoSeesNextTwoBytes _ _ _ _ _ _ _ _ hN).mono ?_; rintro e w' ⟨rfl, rfl⟩)
  refine (clone_spec w A n c l (by omega) HA.out HS.out).mono ?_
  rintro e w1 ⟨A1, rfl, hs1, hk1⟩
  have HS1 := Lib.hid hs1; have HK1 := Lib.hid hk1; clear hs1 hk1
  go_wp2_with fail
  refine (clone_spec w1 A' n' c' l' (by omega) HA'.out (HS'.out.kept HK1.out (by simp))).mono ?_
  rintro e w2 ⟨A2, rfl, hs2, hk2⟩
  have HS2 := Lib.hid hs2; have HK2 := Lib.hid (HK1.out.trans hk2); have HS1' := Lib.hid (HS1.out.kept hk2 (by simp)); clear hs2 hk2
  have HG2 := Lib.hid ((HK2.out.cell (p := ⟨0, 0, none⟩) (block_lt_of_cell HG.out) (by simp)).trans HG.out)
  go_wp2_with fail
  refine (new_at w2 A1 A2 n n n' n' bsp l l' 1 ⟨#[]⟩ ea HS1'.out HS2.out hn (by omega) (by omega) hb HG2.out).mono ?_
  rintro e w3 ⟨rfl, hm3, hk3⟩
  have HM3 := Lib.hid hm3; have HK3 := Lib.hid (hk3.weaken (S' := [w2.heap.size, w2.heap.size + 1]) (by simp)); clear hm3 hk3
  go_wp2_with fail
  refine (zpeek2 HM3.out).mono ?_
  rintro e w4 ⟨rfl, hk, hm⟩
  have HM4 := Lib.hid hm; have HK4 := Lib.hid (HK3.out.trans hk); clear hk hm
  go_wp2_with fail
  refine (stream_at w4 A1 A2 n n n' n' bsp 0 l l' (HS1'.out.after HK4.out) (HS2.out.after HK4.out) hb (by omega) (by omega) (by omega)).mono ?_
  rintro e w' ⟨rfl, rfl⟩
  go_wp2_with fail
  refine (stream_at w4 A1 A2 n n n' n' bsp 1 l l' (HS1'.out.after HK4.out) (HS2.out.after HK4.out) hb (by omega) (by omega) (by omega)).mono ?_
  rintro e w' ⟨rfl, rfl⟩
  go_wp2_with fail
  go_ret
  exact ⟨rfl, ((HK2.out.weaken (S' := [w2.heap.size, w2.heap.size + 1]) (by simp)).trans HK4.out).weaken (by have := HK2.out.size; simp; omega)⟩

theorem yes_FnPeekDoesNotConsume (w : World) (A A' : Option Addr) (n c n' c' : Nat) (b : Value) (h : n + n' ≤ 1048576) :
    Calls Tryd.prog 20 #[.slice A n c, b, .slice A' n' c'] w fun e w' => e = .returned (.bool true) ∧ w = w' := by
  go_enter Tryd.func20, Tryd.ntmps20
  go_wp2
  go_ret
  exact ⟨rfl, rfl⟩
theorem no_FnPeekDoesNotConsume (w : World) (A A' : Option Addr) (n c n' c' : Nat) (b : Value) (h : 1048576 < n + n') (h1 : n ≤ 9223372036854775807) (h2 : n' ≤ 9223372036854775807) :
    Calls Tryd.prog 20 #[.slice A n c, b, .slice A' n' c'] w fun e w' => e = .returned (.bool false) ∧ w = w' := by
  by_cases h3 : n ≤ 1048576
  · by_cases h4 : n' ≤ 1048576
    · go_enter Tryd.func20, Tryd.ntmps20
      go_wp2
      go_ret
      exact ⟨rfl, rfl⟩
    · go_enter Tryd.func20, Tryd.ntmps20
      go_wp2
      go_ret
      exact ⟨rfl, rfl⟩
  · go_enter Tryd.func20, Tryd.ntmps20
    go_wp2
    go_ret
    exact ⟨rfl, rfl⟩
set_option maxHeartbeats 400000 in
theorem skip_FnPeekDoesNotConsume (w : World) (A A' : Option Addr) (n c n' c' bsp : Nat) (h1 : n ≤ 9223372036854775807) (h2 : n' ≤ 9223372036854775807) (h : ¬ (n + n' ≤ 1048576 ∧ n ≤ 1024 ∧ bsp ≤ n)) :
    Calls Tryd.prog 7 #[.slice A n c, .int .u64 bsp, .slice A' n' c'] w fun e w' => e = .returned (.bool true) ∧ w = w' := by
  by_cases h3 : n + n' ≤ 1048576
  · by_cases h4 : n ≤ 1024
    · have h5 : n < bsp := by omega
      clear h
      go_enter Tryd.func7, Tryd.ntmps7
      go_wp2_with (go_at_call 20; refine (yes_FnPeekDoesNotConsume _ _ _ _ _ _ _ _ h3).mono ?_; rintro e w' ⟨rfl, rfl⟩)
      go_ret
      exact ⟨rfl, rfl⟩
    · clear h
      go_enter Tryd.func7, Tryd.ntmps7
      go_wp2_with (go_at_call 20; refine (yes_FnPeekDoesNotConsume _ _ _ _ _ _ _ _ h3).mono ?_; rintro e w' ⟨rfl, rfl⟩)
      go_ret
      exact ⟨rfl, rfl⟩
  · clear h
    go_enter Tryd.func7, Tryd.ntmps7
    go_wp2_with (go_at_call 20; refine (no_FnPeekDoesNotConsume _ _ _ _ _ _ _ _ (by omega) h1 h2).mono ?_; rintro e w' ⟨rfl, rfl⟩)
    go_ret
    exact ⟨rfl, rfl⟩
set_option maxRecDepth 100000 in
set_option maxHeartbeats 800000 in
theorem ok_FnPeekDoesNotConsume (w : World) (A A' : Option Addr) (n c n' c' bsp : Nat) (l l' : List UInt8) (ea : Addr) (h : SrcB w A n l) (h' : SrcB w A' n' l') (hA : A = none → n = 0 ∧ c = 0) (hA' : A' = none → n' = 0 ∧ c' = 0)
    (hN : n + n' ≤ 1048576) (hn : n ≤ 1024) (hb : bsp ≤ n) (hg : w.cell? ⟨0, 0, none⟩ = some (EOFv ea)) :
    Calls Tryd.prog 7 #[.slice A n c, .int .u64 bsp, .slice A' n' c'] w fun e w' => e = .returned (.bool true) ∧ Kept [] w w' := by
  have HS := Lib.hid h
  have HS' := Lib.hid h'
  have HA := Lib.hid hA
  have HA' := Lib.hid hA'
  have HG := Lib.hid hg
  clear h h' hA hA' hg
  go_enter Tryd.func7, Tryd.ntmps7
  go_wp2_with (go_at_call 20; refine (yes_FnPeekDoesNotConsume _ _ _ _ _ _ _ _ hN).mono ?_; rintro e w' ⟨rfl, rfl⟩)
  refine (clone_spec w A n c l (by omega) HA.out HS.out).mono ?_
  rintro e w1 ⟨A1, rfl, hs1, hk1⟩
  have HS1 := Lib.hid hs1; have HK1 := Lib.hid hk1; clear hs1 hk1
  go_wp2_with fail
  refine (clone_spec w1 A' n' c' l' (by omega) HA'.out (HS'.out.kept HK1.out (by simp))).mono ?_
  rintro e w2 ⟨A2, rfl, hs2, hk2⟩
  have HS2 := Lib.hid hs2; have HK2 := Lib.hid (HK1.out.trans hk2); have HS1' := Lib.hid (HS1.out.kept hk2 (by simp)); clear hs2 hk2
  have HG2 := Lib.hid ((HK2.out.cell (p := ⟨0, 0, none⟩) (block_lt_of_cell HG.out) (by simp)).trans HG.out)
  go_wp2_with fail
  refine (new_at w2 A1 A2 n n n' n' bsp l l' 1 ⟨#[]⟩ ea HS1'.out HS2.out hn (by omega) (by omega) hb HG2.out).mono ?_
  rintro e w3 ⟨rfl, hm3, hk3⟩
  have HM3 := Lib.hid hm3; have HK3 := Lib.hid (hk3.weaken (S' := [w2.heap.size, w2.heap.size + 1]) (by simp)); clear hm3 hk3
  go_wp2_with fail
  refine (zpeek HM3.out).mono ?_
  rintro e w4 ⟨rfl, hk, hm⟩
  have HM4 := Lib.hid hm; have HK4 := Lib.hid (HK3.out.trans hk); clear hk hm
  go_wp2_with fail
  refine (zpeek HM4.out).mono ?_
  rintro e w5 ⟨rfl, hk, hm⟩
  have HM5 := Lib.hid hm; have HK5 := Lib.hid (HK4.out.trans hk); clear hk hm
  go_wp2_with fail
  refine (zpeek2 HM5.out).mono ?_
  rintro e w6 ⟨rfl, hk, hm⟩
  have HM6 := Lib.hid hm; have HK6 := Lib.hid (HK5.out.trans hk); clear hk hm
  go_wp2_with fail
  refine (zpeek HM6.out).mono ?_
  rintro e w7 ⟨rfl, hk, hm⟩
  have HM7 := Lib.hid hm; have HK7 := Lib.hid (HK6.out.trans hk); clear hk hm
  go_wp2_with fail
  refine (zpeek2 HM7.out).mono ?_
  rintro e w8 ⟨rfl, hk, hm⟩
  have HM8 := Lib.hid hm; have HK8 := Lib.hid (HK7.out.trans hk); clear hk hm
  go_wp2_with fail
  go_ret
  exact ⟨rfl, ((HK2.out.weaken (S' := [w2.heap.size, w2.heap.size + 1]) (by simp)).trans HK8.out).weaken (by have := HK2.out.size; simp; omega)⟩

end Go.Proofs.YtmmoeendejbjeaaDoor
