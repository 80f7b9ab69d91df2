/-
  n010_110: FnFillWindowScript, walked.
-/
import Derived.Test.YtpkgpkklgkpbfaaDoorFlLaw
namespace Go.Proofs.YtpkgpkklgkpbfaaDoor
open Go.RowKit

/-- A slice of 16-bit numbers reads as the list zs. -/
def SrcU (w : World) (A : Option Addr) (n : Nat) (zs : List Nat) : Prop :=
  zs.length = n ∧ (∀ z ∈ zs, z ≤ 65535) ∧ (0 < n → ∃ g o, A = some ⟨g, o, none⟩ ∧ g < w.heap.size ∧ ∀ (j z : Nat), zs[j]? = some z → w.cell? ⟨g, o + j, none⟩ = some (.int .u16 (z : Int)))
theorem SrcU.kept {S : List Nat} {w w' : World} {A : Option Addr} {n : Nat} {l : List Nat} (h : SrcU w A n l) (k : Kept S w w') (hS : ∀ x ∈ S, w.heap.size ≤ x) : SrcU w' A n l :=
  ⟨h.1, h.2.1, fun hn => by
    obtain ⟨g, o, rfl, hg, hc⟩ := h.2.2 hn
    exact ⟨g, o, rfl, Nat.lt_of_lt_of_le hg k.size, fun j c hj => (k.cell (p := ⟨g, o + j, none⟩) hg (fun hm => by have h1 : w.heap.size ≤ g := hS g hm; omega)).trans (hc j c hj)⟩⟩

theorem yes_FnFillWindowScript (w : World) (s : ByteArray) (A : Option Addr) (n c : Nat) (h : s.size + n ≤ 1048576) :
    Calls Tryd.prog 5 #[.string s, .slice A n c] w fun e w' => e = .returned (.bool true) ∧ w = w' := by
  go_enter Tryd.func5, Tryd.ntmps5
  go_wp2
  go_ret
  exact ⟨rfl, rfl⟩
theorem no_FnFillWindowScript (w : World) (s : ByteArray) (A : Option Addr) (n c : Nat) (h : 1048576 < s.size + n) (h2 : s.size ≤ 9223372036854775807) (h3 : n ≤ 9223372036854775807) :
    Calls Tryd.prog 5 #[.string s, .slice A n c] w fun e w' => e = .returned (.bool false) ∧ w = w' := by
  by_cases h4 : s.size ≤ 1048576
  · by_cases h5 : n ≤ 1048576
    · go_enter Tryd.func5, Tryd.ntmps5
      go_wp2
      go_ret
      exact ⟨rfl, rfl⟩
    · go_enter Tryd.func5, Tryd.ntmps5
      go_wp2
      go_ret
      exact ⟨rfl, rfl⟩
  · go_enter Tryd.func5, Tryd.ntmps5
    go_wp2
    go_ret
    exact ⟨rfl, rfl⟩
theorem skip_FnFillWindowScript (w : World) (s : ByteArray) (A : Option Addr) (n c : Nat) (h : ¬ (s.size + 2 * n ≤ 1048576 ∧ n ≤ 4096)) (h2 : s.size ≤ 9223372036854775807) (h3 : n ≤ 9223372036854775807) :
    Calls Tryd.prog 3 #[.string s, .slice A n c] w fun e w' => e = .returned (.bool true) ∧ w = w' := by
  by_cases h4 : s.size + n ≤ 1048576
  · by_cases h5 : s.size + 2 * n ≤ 1048576
    · have h6 : ¬ n ≤ 4096 := by omega
      clear h
      go_enter Tryd.func3, Tryd.ntmps3
      go_wp2_with (go_at_call 5; refine (yes_FnFillWindowScript _ _ _ _ _ h4).mono ?_; rintro e w' ⟨rfl, rfl⟩)
      go_ret
      exact ⟨rfl, rfl⟩
    · clear h
      go_enter Tryd.func3, Tryd.ntmps3
      go_wp2_with (go_at_call 5; refine (yes_FnFillWindowScript _ _ _ _ _ h4).mono ?_; rintro e w' ⟨rfl, rfl⟩)
      go_ret
      exact ⟨rfl, rfl⟩
  · clear h
    go_enter Tryd.func3, Tryd.ntmps3
    go_wp2_with (go_at_call 5; refine (no_FnFillWindowScript _ _ _ _ _ (by omega) h2 h3).mono ?_; rintro e w' ⟨rfl, rfl⟩)
    go_ret
    exact ⟨rfl, rfl⟩

theorem fill_some {w : World} {B pb rb : Nat} {ea : Addr} {win rest : List UInt8} {bsp o q : Nat} (h : Fs w B pb rb ea win rest bsp o false) (hq : win.length = q) (hb : bsp ≤ q) (hl : q - bsp < 1024 ∧ o < 10000000) (hrest : rest ≠ []) :
    Calls Tryd.prog 8 #[.pointer (some ⟨pb, 0, none⟩)] w fun e w' => ∃ m : Nat, e = .returned (.int .i64 m) ∧ m = min (1024 - (q - bsp)) rest.length ∧ Fs w' B pb rb ea (win.drop bsp ++ rest.take m) (rest.drop m) 0 (o + bsp) false ∧ Kept [rb, pb] w w' := by
  subst hq
  refine zfill ((fs_go h (by omega) (by omega) hb hl.1 hrest).mono ?_)
  rintro e w' ⟨he, hf, hk⟩
  refine ⟨_, he, min (1024 - (win.length - bsp)) rest.length, he, rfl, ?_, hk⟩
  rcases Nat.le_total (1024 - (win.length - bsp)) rest.length with h1 | h1
  · rw [Nat.min_eq_left h1]; exact hf
  · rw [Nat.min_eq_right h1, List.take_length, List.drop_length]
    rw [List.take_of_length_le h1, List.drop_of_length_le h1] at hf
    exact hf
theorem fill_ends {w : World} {B pb rb : Nat} {ea : Addr} {win : List UInt8} {bsp o q : Nat} (h : Fs w B pb rb ea win [] bsp o false) (hq : win.length = q) (hb : bsp ≤ q) (hl : q - bsp < 1024 ∧ o < 10000000) :
    Calls Tryd.prog 8 #[.pointer (some ⟨pb, 0, none⟩)] w fun e w' => e = .returned (.int .i64 0) ∧ Fs w' B pb rb ea (win.drop bsp) [] 0 (o + bsp) true ∧ Kept [rb, pb] w w' := by
  subst hq
  refine zfill ((fs_end h (by omega) (by omega) hb hl.1).mono ?_)
  rintro e w' ⟨he, hf, hk⟩
  exact ⟨_, he, he, hf, hk⟩

/-- The built-in min of two ints, by its value. -/
theorem wpList_min2 {w : World} {ops : Array Oper} {rest : List Oper} {o : Oper} {a : Act} {Q : Exit → Act → World → Prop} (hgd : o.guard = none) (x y : Operand) (ho : o.op = .call { callee := .builtin .min, args := #[x, y], argTypes := #[3, 3] }) (u v m : Int)
    (hx : a.eval x = .int .i64 u) (hy : a.eval y = .int .i64 v) (hm : min u v = m) (h : wpList Tryd.prog ops Q rest (a.put o.dst (.int .i64 m)) w) : wpList Tryd.prog ops Q (o :: rest) a w := by
  refine wpList_plain hgd fun K hK => ?_
  have hK' := hK _ _ h
  have e : (if v < u then v else u) = m := by rw [← hm]; by_cases h1 : v < u <;> simp [h1] <;> omega
  unfold Oper.wp
  simp [execOp, ho, resolve, invoke, builtin, hx, hy, run_min_int2, Result.andThen, e]
  exact hK'

theorem win_rest {l win rest : List UInt8} {o q c : Nat} (h : win ++ rest = l.drop o) (hq : win.length = q) (hc : c ≤ q) (m : Nat) : (win.drop c ++ rest.take m) ++ rest.drop m = l.drop (o + c) := by
  rw [List.append_assoc, List.take_append_drop, ← List.drop_drop, ← h, List.drop_append_of_le_length (by omega)]
theorem win_step {l win rest : List UInt8} {o q c m : Nat} (h : win ++ rest = l.drop o) (hq : win.length = q) (hc : c ≤ q ∧ m ≤ rest.length) : List.take (q - c + m) (l.drop (o + c)) = win.drop c ++ rest.take m := by
  rw [← win_rest h hq hc.1 m]
  exact List.take_left' (by simp; omega)

def zsU (n : Nat) : List Value := List.replicate n (Value.int .u16 0)
def UsV (l : List Nat) : List Value := l.map fun (z : Nat) => Value.int .u16 ((z : Nat) : Int)
theorem u16_info : ∃ i, Tryd.prog.info? 24 = some i ∧ i.zero = some (.int .u16 0) ∧ i.size = 1 ∧ i.bytes = 2 := by
  have h : (Tryd.prog.info? 24).map (fun i => (i.zero, i.size, i.bytes)) = some (some (.int .u16 0), 1, 2) := by kernel_rfl
  cases hq : Tryd.prog.info? 24 with
  | none => rw [hq] at h; cases h
  | some i => rw [hq] at h; simp at h; exact ⟨i, rfl, h.1, h.2.1, h.2.2⟩
theorem made_u16 (n : Nat) : madeCells (Value.cells (.int .u16 0)) n = (zsU n).toArray := by
  apply Array.ext
  · simp [madeCells, zsU]
  · intro i h1 h2
    simp [madeCells, zsU, Value.cells, Nat.mod_one]
theorem make_u16 (n : Nat) (hn : n < 1000000000) (w : World) :
    (Instr.makeSlice 22 (.int .i64 n) (.int .i64 n)).run Tryd.prog w = .ok (.slice (some ⟨w.heap.size, 0, none⟩) n n) (w.alloc (.cells (zsU n).toArray 24)) := by
  obtain ⟨i, h1, h2, h3, h4⟩ := u16_info
  rw [run_make w _ _ i _ Tryd.underlying22 h1 h2 .i64 .i64 n n (by omega) (by omega) (by rw [h4]; omega) (by omega)]
  simp [h3, made_u16]
theorem setU_step (l : List Nat) (n k : Nat) (c : Nat) (hl : l.length = n) (hk : l[k]? = some c) :
    (UsV (l.take k) ++ zsU (n - k)).set k (.int .u16 (c : Int)) = UsV (l.take (k + 1)) ++ zsU (n - (k + 1)) := by
  have hlt : k < l.length := (List.getElem?_eq_some_iff.1 hk).1
  have h1 : (UsV (l.take k)).length = k := by simp [UsV]; omega
  rw [List.set_append_right _ _ (by omega), h1, Nat.sub_self]
  obtain ⟨m, hm⟩ : ∃ m, n - k = m + 1 := ⟨n - k - 1, by omega⟩
  unfold zsU
  rw [hm, List.replicate_succ, List.set_cons_zero, show n - (k + 1) = m by omega, List.take_succ_eq_append_getElem hlt]
  have : l[k] = c := (List.getElem?_eq_some_iff.1 hk).2
  simp [UsV, this]

/-- The law's loop at its j-th round: the window is l[o : o + q]. -/
def Rel2 (w2 : World) (B pb rb : Nat) (ea : Addr) (l : List UInt8) (o q j : Nat) (f : Bool) (wr : World) : Prop :=
  Kept [rb, pb] w2 wr ∧ ∃ win rest bsp, Fs wr B pb rb ea win rest bsp o f ∧ win.length = q ∧ win ++ rest = l.drop o ∧ (j = 0 → bsp = 0 ∧ f = false ∧ q < 1024)

set_option maxRecDepth 100000 in
set_option maxHeartbeats 1600000 in
theorem ok_nil_FnFillWindowScript (w : World) (s : ByteArray) (ea : Addr) (h : s.size ≤ 1048576) (hg : w.cell? ⟨0, 0, none⟩ = some (EOFv ea)) :
    Calls Tryd.prog 3 #[.string s, .slice none 0 0] w fun e w' => e = .returned (.bool true) ∧ Kept [] w w' := by
  have HG := Lib.hid hg
  have q1 : ∀ (w : World) (a : Option Addr) (n c n' c' : Nat), (binOp .neq 22 (.slice a n c) (.slice none n' c')).run Tryd.prog w = .ok (.bool (!a.isNone)) w := fun w a n c n' c' => run_neq_slice_nil_any w _ _ a n c n' c' Tryd.underlying22
  have hdl : decide (1048576 < (s.size : Int)) = false := by simp; omega
  clear hg
  go_enter Tryd.func3, Tryd.ntmps3
  go_wp2_with (first | (go_at_call 5; refine (yes_FnFillWindowScript _ _ _ _ _ (by omega)).mono ?_; rintro e w' ⟨rfl, rfl⟩) | (refine wpList_bytes rfl (.tmp 53) rfl s rfl ?_; intro A cap w1 hs1 hcap1 hk1 _; have HS1 := Lib.hid hs1; have HK1 := Lib.hid hk1; clear hs1 hk1))
  refine (newlexer w1 A s.size cap 0 s.data.toList ea HS1.out (by omega) hcap1 ((HK1.out.cell (p := ⟨0, 0, none⟩) (block_lt_of_cell HG.out) (by simp)).trans HG.out)).mono ?_
  rintro e w2 ⟨rfl, hlx, hk2⟩
  have HF := Lib.hid hlx.fresh; have HK2 := Lib.hid hk2; clear hlx hk2
  have hpb : w.heap.size ≤ w1.heap.size := HK1.out.size
  generalize hB : w1.heap.size + 3 = B at *
  generalize hrb : w1.heap.size + 1 = rb at *
  have hrb' : w.heap.size ≤ rb := by omega
  have hpr : w1.heap.size < rb := by omega
  clear hB hrb
  generalize hpbq : w1.heap.size = pb at *
  have HPB := Lib.hid hpbq; clear hpbq
  go_wp2_with fail
  clear hdl
  go_loopw [8, 9, 10, 11] (fun off wl ef i wr => ∃ (o q j : Nat) (f : Bool), off = .int .i64 o ∧ wl = .int .i64 q ∧ ef = .bool f ∧ i = .int .i64 j ∧ j ≤ 0 + 1 ∧ o + q ≤ s.size ∧ q ≤ 1024 ∧ Hid (Rel2 w2 B pb rb ea s.data.toList o q j f wr)) (fun _ _ _ i _ => 0 + 1 - (intOf i).toNat)
  case atStart => exact ⟨0, 0, 0, false, rfl, rfl, rfl, rfl, by omega, by omega, by omega, ⟨Kept.refl _ _, [], s.data.toList, 0, HF.out, rfl, rfl, fun _ => ⟨rfl, rfl, by omega⟩⟩⟩
  case round =>
    obtain ⟨o, q, j, f, rfl, rfl, rfl, rfl, hj, hoq, hq, hrel⟩ := hrel
    obtain ⟨hkw, win, rest, bsp, hfs, hwl, hwr, hj0⟩ := hrel.out
    have hrl : rest.length = s.size - o - q := by
      have := congrArg List.length hwr
      rw [List.length_append, List.length_drop, hwl] at this
      have e : s.data.toList.length = s.size := rfl
      omega
    have HFS := Lib.hid hfs; have HKW := Lib.hid hkw; have HWL := Lib.hid hwl; have HWR := Lib.hid hwr; have HJ0 := Lib.hid hj0; have HRL := Lib.hid hrl
    clear hfs hkw hwl hwr hj0 hrel hrl
    by_cases hlt : j ≤ 0
    · by_cases hjz : 0 < j
      · omega
      · obtain ⟨hb1, hf1, hq1⟩ := HJ0.out (by omega)
        subst hb1 hf1
        by_cases hne : rest = []
        · have hz : s.size - o - q = 0 := by rw [← HRL.out, hne]; rfl
          have hf0 := HFS.out
          rw [hne] at hf0
          have HF0 := Lib.hid hf0; have HNE := Lib.hid hne; have HZ := Lib.hid hz; clear hf0 hne hz
          have hz0 : s.size ≤ o + q := by have := HZ.out; omega
          go_wp2_with fail
          refine (fill_ends HF0.out HWL.out (by omega) (by omega)).mono ?_
          rintro e w3 ⟨rfl, hf3, hk3⟩
          have hl3 : (List.drop 0 win).length = q - 0 := by have := HWL.out; simp; omega
          have hwin : List.take (q - 0) (List.drop (o + 0) s.data.toList) = List.drop 0 win := by
            have h1 := win_step (m := 0) HWR.out HWL.out (show 0 ≤ q ∧ 0 ≤ rest.length by omega)
            simpa using h1
          have HF3 := Lib.hid hf3; have HK3 := Lib.hid (HKW.out.trans hk3); have HL3 := Lib.hid hl3; have HWIN := Lib.hid hwin
          clear hf3 hk3 hl3 hwin
          go_wp2_with (refine wpList_min2 rfl (.tmp 99) (.tmp 101) rfl _ _ 0 rfl rfl (by omega) ?_)
          refine (zbsp HF3.out).mono ?_
          rintro e w' ⟨rfl, rfl⟩
          go_wp2_with fail
          refine (zoffs HF3.out).mono ?_
          rintro e w' ⟨rfl, rfl⟩
          obtain ⟨A3, c3, hc3, hs3⟩ := HF3.out.bs
          obtain ⟨Qn, hQn⟩ : ∃ Qn, Qn = q - 0 := ⟨_, rfl⟩
          obtain ⟨O, hO⟩ : ∃ O, O = o + 0 := ⟨_, rfl⟩
          rw [HL3.out, ← hQn] at hc3 hs3
          have hex : (s.extract O (O + Qn)).data.toList = List.drop 0 win := by
            rw [ext_list, show O + Qn - O = Qn by omega, hQn, hO]
            exact HWIN.out
          have HS3 := Lib.hid (hex ▸ hs3 : SrcB w3 A3 Qn (s.extract O (O + Qn)).data.toList)
          have HC3 := Lib.hid hc3
          clear hs3 hex hc3
          have hb1 : Qn ≤ 1024 := by omega
          have hb2 : O + Qn ≤ s.size := by omega
          have eQ : (q : Int) = ((Qn : Nat) : Int) := by omega
          have eO : (o : Int) = ((O : Nat) : Int) := by omega
          have HQ := Lib.hid hQn; have HO := Lib.hid hO; have HEQ := Lib.hid eQ; have HEO := Lib.hid eO
          clear hQn hO eQ eO
          go_wp2_with fail
          rw [HEQ.out, HEO.out]
          have e1 : IntKind.i64.wrap ((O : Int) + (Qn : Int)) = (O : Int) + Qn := IntWalk.i64_in _ (by omega)
          have e2 : ((O : Int) + (Qn : Int)).toNat = O + Qn := by omega
          have e3 : (O : Int) ≤ (O : Int) + Qn := by omega
          have e4 : (O : Int) + Qn ≤ s.size := by omega
          have e5 : (0 : Int) ≤ (O : Int) + Qn := by omega
          go_quiet (first | (go_at_call 12; exact Calls.quiet_of_same (zbs_at (v := .slice A3 Qn c3) HC3.out)) | (go_at_call 11; exact Calls.quiet_of (same_draws _ A3 Qn c3 (s.extract O (O + Qn)) (HS3.out.kept ((Kept.refl [] _).drewN _) (by simp)) (by omega))))
          clear e1 e2 e3 e4 e5
          go_wp2_with fail
          go_roundw
          case rel =>
            have hQ := HQ.out
            have hO := HO.out
            refine ⟨O, Qn, j + 1, true, rfl, rfl, rfl, by go_num, by omega, by omega, by omega, ?_⟩
            rw [hQ, hO]
            exact ⟨HK3.out.drewN _, _, [], 0, HF3.out.kept0 ((Kept.refl _ _).drewN _), HL3.out, by have h1 := win_rest HWR.out HWL.out (show 0 ≤ q by omega) 0; rw [HNE.out] at h1; simpa using h1, fun h => absurd h (by omega)⟩
          case measure => simp [intOf]; omega
        · have HNE := Lib.hid hne; clear hne
          go_wp2_with fail
          refine (fill_some HFS.out HWL.out (by omega) (by omega) HNE.out).mono ?_
          rintro e w3 ⟨m, rfl, hm, hf3, hk3⟩
          have hm' : m = min (1024 - (q - 0)) (s.size - o - q) := by rw [hm, HRL.out]
          have hl3 : (List.drop 0 win ++ List.take m rest).length = q - 0 + m := by have := HRL.out; have := HWL.out; simp; omega
          have hwin : List.take (q - 0 + m) (List.drop (o + 0) s.data.toList) = List.drop 0 win ++ List.take m rest := win_step HWR.out HWL.out (by have := HRL.out; omega)
          have HF3 := Lib.hid hf3; have HK3 := Lib.hid (HKW.out.trans hk3); have HL3 := Lib.hid hl3; have HM := Lib.hid hm'; have HWIN := Lib.hid hwin
          have hrp : 0 < s.size - o - q := by rw [← HRL.out]; exact List.length_pos_iff.2 HNE.out
          have hm1 : m ≤ 1024 - (q - 0) := by omega
          have hm2 : o + q + m ≤ s.size := by omega
          have hm3 : 1 ≤ m := by omega
          clear hf3 hk3 hm hm' hl3 hwin
          go_wp2_with (refine wpList_min2 rfl (.tmp 99) (.tmp 101) rfl _ _ m rfl rfl (by have := HM.out; omega) ?_)
          refine (zbsp HF3.out).mono ?_
          rintro e w' ⟨rfl, rfl⟩
          go_wp2_with fail
          refine (zoffs HF3.out).mono ?_
          rintro e w' ⟨rfl, rfl⟩
          obtain ⟨A3, c3, hc3, hs3⟩ := HF3.out.bs
          obtain ⟨Qn, hQn⟩ : ∃ Qn, Qn = q - 0 + m := ⟨_, rfl⟩
          obtain ⟨O, hO⟩ : ∃ O, O = o + 0 := ⟨_, rfl⟩
          rw [HL3.out, ← hQn] at hc3 hs3
          have hex : (s.extract O (O + Qn)).data.toList = List.drop 0 win ++ List.take m rest := by
            rw [ext_list, show O + Qn - O = Qn by omega, hQn, hO]
            exact HWIN.out
          have HS3 := Lib.hid (hex ▸ hs3 : SrcB w3 A3 Qn (s.extract O (O + Qn)).data.toList)
          have HC3 := Lib.hid hc3
          clear hs3 hex hc3
          have hb1 : Qn ≤ 1024 := by omega
          have hb2 : O + Qn ≤ s.size := by omega
          have eQ : (q : Int) + (m : Int) = ((Qn : Nat) : Int) := by omega
          have eO : (o : Int) = ((O : Nat) : Int) := by omega
          have HQ := Lib.hid hQn; have HO := Lib.hid hO; have HEQ := Lib.hid eQ; have HEO := Lib.hid eO
          clear hQn hO eQ eO
          go_wp2_with fail
          rw [HEQ.out, HEO.out]
          have e1 : IntKind.i64.wrap ((O : Int) + (Qn : Int)) = (O : Int) + Qn := IntWalk.i64_in _ (by omega)
          have e2 : ((O : Int) + (Qn : Int)).toNat = O + Qn := by omega
          have e3 : (O : Int) ≤ (O : Int) + Qn := by omega
          have e4 : (O : Int) + Qn ≤ s.size := by omega
          have e5 : (0 : Int) ≤ (O : Int) + Qn := by omega
          go_quiet (first | (go_at_call 12; exact Calls.quiet_of_same (zbs_at (v := .slice A3 Qn c3) HC3.out)) | (go_at_call 11; exact Calls.quiet_of (same_draws _ A3 Qn c3 (s.extract O (O + Qn)) (HS3.out.kept ((Kept.refl [] _).drewN _) (by simp)) (by omega))))
          clear e1 e2 e3 e4 e5
          go_wp2_with fail
          go_roundw
          case rel =>
            have hQ := HQ.out
            have hO := HO.out
            refine ⟨O, Qn, j + 1, false, rfl, rfl, rfl, by go_num, by omega, by omega, by omega, ?_⟩
            rw [hQ, hO]
            exact ⟨HK3.out.drewN _, _, List.drop m rest, 0, HF3.out.kept0 ((Kept.refl _ _).drewN _), HL3.out, win_rest HWR.out HWL.out (by omega) m, fun h => absurd h (by omega)⟩
          case measure => simp [intOf]; omega
    · have hgt : 0 < j := by omega
      go_wp2_with fail
      refine (zerr HFS.out).mono ?_
      rintro e w' ⟨rfl, rfl⟩
      go_wp2_with fail
      go_ret
      refine ⟨rfl, ?_⟩
      have h1 := (HK1.out.trans HK2.out)
      exact ((h1.weaken (S' := [rb, pb]) (by simp)).trans HKW.out).weaken (by simp; omega)
set_option maxRecDepth 100000 in
set_option maxHeartbeats 4000000 in
theorem ok_some_FnFillWindowScript (w : World) (s : ByteArray) (ad : Addr) (n1 c1 : Nat) (zs : List Nat) (ea : Addr) (h : s.size + 2 * n1 ≤ 1048576) (hn4 : n1 ≤ 4096) (hsu : SrcU w (some ad) n1 zs) (hg : w.cell? ⟨0, 0, none⟩ = some (EOFv ea)) :
    Calls Tryd.prog 3 #[.string s, .slice (some ad) n1 c1] w fun e w' => e = .returned (.bool true) ∧ Kept [] w w' := by
  have HG := Lib.hid hg
  have q1 : ∀ (w : World) (a : Option Addr) (n c n' c' : Nat), (binOp .neq 22 (.slice a n c) (.slice none n' c')).run Tryd.prog w = .ok (.bool (!a.isNone)) w := fun w a n c n' c' => run_neq_slice_nil_any w _ _ a n c n' c' Tryd.underlying22
  have q2 := fun w => make_u16 n1 (by omega) w
  have hdl : decide (1048576 < (s.size : Int) + 2 * (n1 : Int)) = false := by simp; omega
  have hdl2 : decide (4096 < (n1 : Int)) = false := by simp; omega
  have HSU := Lib.hid hsu
  clear hg hsu
  go_enter Tryd.func3, Tryd.ntmps3
  go_wp2_with (go_at_call 5; refine (yes_FnFillWindowScript _ _ _ _ _ (by omega)).mono ?_; rintro e w' ⟨rfl, rfl⟩)
  clear q1 q2
  have hst : Hid ((w.alloc (.cells (zsU n1).toArray 24)).heap[w.heap.size]? = some (.cells (UsV (zs.take 0) ++ zsU (n1 - 0)).toArray 24 (0, 0))) := by
    show _ = _
    rw [heap_alloc_new]; simp [UsV]
  have hst2 : Hid (Kept [] w (w.alloc (.cells (zsU n1).toArray 24))) := (Kept.refl _ _).alloc _
  go_loopw [6] (fun i wr => ∃ k : Nat, k ≤ n1 ∧ i = .int .i64 k ∧ Hid (wr.heap[w.heap.size]? = some (.cells (UsV (zs.take k) ++ zsU (n1 - k)).toArray 24 (0, 0))) ∧ Hid (Kept [] w wr)) (fun i _ => n1 - (intOf i).toNat)
  case atStart => exact ⟨0, Nat.zero_le _, rfl, hst, hst2⟩
  case round =>
    obtain ⟨k, hk, rfl, hb, hkp⟩ := hrel
    by_cases hlt : k < n1
    · obtain ⟨x, hx⟩ : ∃ x, zs[k]? = some x := ⟨zs[k]'(by have := HSU.out.1; omega), List.getElem?_eq_getElem _⟩
      obtain ⟨g, o, had, hgl, hcc⟩ := HSU.out.2.2 (by omega)
      obtain rfl : ad = ⟨g, o, none⟩ := Option.some.inj had
      have hcs : wr.cell? ⟨g, o + k, none⟩ = some (.int .u16 (x : Int)) := by
        rw [hkp.out.cell (p := ⟨g, o + k, none⟩) hgl (by simp)]; exact hcc k x hx
      have hco : ∃ v, wr.cell? ⟨w.heap.size, k, none⟩ = some v := by
        rw [row_cell hb.out]
        have : k < (UsV (zs.take k) ++ zsU (n1 - k)).length := by have := HSU.out.1; simp [zsU, UsV]; omega
        exact ⟨_, List.getElem?_eq_getElem this⟩
      obtain ⟨v0, hco⟩ := hco
      have hfo := row_free hb.out k
      have HX := Lib.hid hx; clear hx hcc had
      go_wp2
      go_roundw
      case rel =>
        refine ⟨k + 1, by omega, by go_num, ?_, ?_⟩
        · have h1 := row_set hb.out k (.int .u16 (x : Int))
          rw [setU_step zs n1 k x HSU.out.1 HX.out] at h1
          exact h1
        · have : Kept [w.heap.size] wr (wr.setCell ⟨w.heap.size, k, none⟩ (.int .u16 (x : Int))) := (Kept.refl _ _).setCell (by simp) _
          exact (hkp.out.weaken (S' := [w.heap.size]) (by simp)).trans this |>.weaken (by simp)
      case measure => simp [intOf]; omega
    · have hkn : k = n1 := by omega
      have h1 := hb.out
      rw [hkn, List.take_of_length_le (by have := HSU.out.1; omega), Nat.sub_self] at h1
      have hsu1 : SrcU wr (some ⟨w.heap.size, 0, none⟩) n1 zs := by
        refine ⟨HSU.out.1, HSU.out.2.1, fun _ => ⟨w.heap.size, 0, rfl, heap_lt h1, fun j z hj => ?_⟩⟩
        rw [Nat.zero_add, row_cell h1]
        have hjl : j < (UsV zs).length := by simp [UsV]; exact (List.getElem?_eq_some_iff.1 hj).1
        rw [List.getElem?_append_left hjl]
        simp [UsV, hj]
      have HSU1 := Lib.hid hsu1
      have HKP := Lib.hid hkp.out
      clear h1 hkn hb hkp hsu1
      go_wp2_with (refine wpList_bytes rfl (.tmp 53) rfl s rfl ?_; intro A cap w1 hs1 hcap1 hk1 _; have HS1 := Lib.hid hs1; have HK1 := Lib.hid (HKP.out.trans hk1); have HSU2 := Lib.hid (HSU1.out.kept hk1 (by simp)); clear hs1 hk1)
      refine (newlexer w1 A s.size cap 0 s.data.toList ea HS1.out (by omega) hcap1 ((HK1.out.cell (p := ⟨0, 0, none⟩) (block_lt_of_cell HG.out) (by simp)).trans HG.out)).mono ?_
      rintro e w2 ⟨rfl, hlx, hk2⟩
      have HF := Lib.hid hlx.fresh; have HK2 := Lib.hid hk2; clear hlx hk2
      have hpb : w.heap.size ≤ w1.heap.size := HK1.out.size
      generalize hB : w1.heap.size + 3 = B at *
      generalize hrb : w1.heap.size + 1 = rb at *
      have hrb' : w.heap.size ≤ rb := by omega
      have hpr : w1.heap.size < rb := by omega
      clear hB hrb
      generalize hpbq : w1.heap.size = pb at *
      have HPB := Lib.hid hpbq; clear hpbq
      go_wp2_with fail
      clear hdl hdl2
      go_loopw [8, 9, 10, 11] (fun off wl ef i wr => ∃ (o q j : Nat) (f : Bool), off = .int .i64 o ∧ wl = .int .i64 q ∧ ef = .bool f ∧ i = .int .i64 j ∧ j ≤ n1 + 1 ∧ o + q ≤ s.size ∧ q ≤ 1024 ∧ Hid (Rel2 w2 B pb rb ea s.data.toList o q j f wr)) (fun _ _ _ i _ => n1 + 1 - (intOf i).toNat)
      case atStart => exact ⟨0, 0, 0, false, rfl, rfl, rfl, rfl, by omega, by omega, by omega, ⟨Kept.refl _ _, [], s.data.toList, 0, HF.out, rfl, rfl, fun _ => ⟨rfl, rfl, by omega⟩⟩⟩
      case round =>
        obtain ⟨o, q, j, f, rfl, rfl, rfl, rfl, hj, hoq, hq, hrel⟩ := hrel
        obtain ⟨hkw, win, rest, bsp, hfs, hwl, hwr, hj0⟩ := hrel.out
        have hrl : rest.length = s.size - o - q := by
          have := congrArg List.length hwr
          rw [List.length_append, List.length_drop, hwl] at this
          have e : s.data.toList.length = s.size := rfl
          omega
        have HFS := Lib.hid hfs; have HKW := Lib.hid hkw; have HWL := Lib.hid hwl; have HWR := Lib.hid hwr; have HJ0 := Lib.hid hj0; have HRL := Lib.hid hrl
        clear hfs hkw hwl hwr hj0 hrel hrl
        by_cases hlt : j ≤ n1
        · by_cases hjz : 0 < j
          · obtain ⟨z, hz⟩ : ∃ z, zs[j - 1]? = some z := ⟨zs[j - 1]'(by have := HSU2.out.1; omega), List.getElem?_eq_getElem _⟩
            have hz5 : z ≤ 65535 := HSU2.out.2.1 z (List.mem_of_getElem? hz)
            have hcz : wr.cell? ⟨w.heap.size, j - 1, none⟩ = some (.int .u16 (z : Int)) := by
              obtain ⟨g, o', e, hgl, hcc⟩ := HSU2.out.2.2 (by omega)
              cases e
              have h1 := (HK2.out.weaken (S' := [rb, pb]) (by simp)).trans HKW.out
              have h2 := h1.cell (p := ⟨w.heap.size, j - 1, none⟩) hgl (by have := HPB.out; simp; omega)
              rw [h2]
              have h3 := hcc (j - 1) z hz
              rwa [Nat.zero_add] at h3
            have hj1 : j - 1 < n1 := by omega
            have hm0 := Nat.mod_lt z (show 0 < q + 1 by omega)
            obtain ⟨cz, hcz2⟩ : ∃ cz, cz = z % (q + 1) := ⟨_, rfl⟩
            rw [← hcz2] at hm0
            have hmod : (z : Int) % ((q : Int) + 1) = ((cz : Nat) : Int) := by rw [hcz2]; simp
            clear hz hcz2
            by_cases hbig : q - cz < 1024
            · go_wp2_with fail
              have hc1 : cz ≤ q := by omega
              rw [hmod]
              refine (zset HFS.out cz).mono ?_
              rintro e wx ⟨rfl, hfx, hkx⟩
              have HFX := Lib.hid hfx; have HKX := Lib.hid (HKW.out.trans hkx); clear hfx hkx hmod hcz
              cases f with
              | true =>
                go_wp2_with fail
                refine (fill_no HFX.out).mono ?_
                rintro e w' ⟨rfl, rfl⟩
                have hwin : List.take q (List.drop o s.data.toList) = win := by
                  rw [← HWR.out]; exact List.take_left' HWL.out
                have HL3 := HWL; have HWIN := Lib.hid hwin; clear hwin
                go_wp2_with fail
                refine (zbsp HFX.out).mono ?_
                rintro e w' ⟨rfl, rfl⟩
                go_wp2_with fail
                refine (zoffs HFX.out).mono ?_
                rintro e w' ⟨rfl, rfl⟩
                obtain ⟨A3, c3, hc3, hs3⟩ := HFX.out.bs
                obtain ⟨Qn, hQn⟩ : ∃ Qn, Qn = q := ⟨_, rfl⟩
                obtain ⟨O, hO⟩ : ∃ O, O = o := ⟨_, rfl⟩
                rw [HL3.out, ← hQn] at hc3 hs3
                have hex : (s.extract O (O + Qn)).data.toList = win := by
                  rw [ext_list, show O + Qn - O = Qn by omega, hQn, hO]
                  exact HWIN.out
                have HS3 := Lib.hid (hex ▸ hs3 : SrcB wx A3 Qn (s.extract O (O + Qn)).data.toList)
                have HC3 := Lib.hid hc3
                clear hs3 hex hc3
                have hb1 : Qn ≤ 1024 := by omega
                have hb2 : O + Qn ≤ s.size := by omega
                have eQ : (q : Int) = ((Qn : Nat) : Int) := by omega
                have eO : (o : Int) = ((O : Nat) : Int) := by omega
                have HQ := Lib.hid hQn; have HO := Lib.hid hO; have HEQ := Lib.hid eQ; have HEO := Lib.hid eO
                clear hQn hO eQ eO
                go_wp2_with fail
                rw [HEQ.out, HEO.out]
                have e1 : IntKind.i64.wrap ((O : Int) + (Qn : Int)) = (O : Int) + Qn := IntWalk.i64_in _ (by omega)
                have e2 : ((O : Int) + (Qn : Int)).toNat = O + Qn := by omega
                have e3 : (O : Int) ≤ (O : Int) + Qn := by omega
                have e4 : (O : Int) + Qn ≤ s.size := by omega
                have e5 : (0 : Int) ≤ (O : Int) + Qn := by omega
                go_quiet (first | (go_at_call 12; exact Calls.quiet_of_same (zbs_at (v := .slice A3 Qn c3) HC3.out)) | (go_at_call 11; exact Calls.quiet_of (same_draws _ A3 Qn c3 (s.extract O (O + Qn)) (HS3.out.kept ((Kept.refl [] _).drewN _) (by simp)) (by omega))))
                clear e1 e2 e3 e4 e5
                go_wp2_with fail
                go_roundw
                case rel =>
                  have hQ := HQ.out
                  have hO := HO.out
                  refine ⟨O, Qn, j + 1, true, rfl, rfl, rfl, by go_num, by omega, by omega, by omega, ?_⟩
                  rw [hQ, hO]
                  exact ⟨HKX.out.drewN _, win, rest, cz, HFX.out.kept0 ((Kept.refl _ _).drewN _), HWL.out, HWR.out, fun h => absurd h (by omega)⟩
                case measure => simp [intOf]; omega
              | false =>
                by_cases hne : rest = []
                · have hz : s.size - o - q = 0 := by rw [← HRL.out, hne]; rfl
                  have hf0 := HFX.out
                  rw [hne] at hf0
                  have HF0 := Lib.hid hf0; have HNE := Lib.hid hne; have HZ := Lib.hid hz; clear hf0 hne hz
                  have hz0 : s.size ≤ o + q := by have := HZ.out; omega
                  go_wp2_with fail
                  refine (fill_ends HF0.out HWL.out (by omega) (by omega)).mono ?_
                  rintro e w3 ⟨rfl, hf3, hk3⟩
                  have hl3 : (List.drop cz win).length = q - cz := by have := HWL.out; simp; omega
                  have hwin : List.take (q - cz) (List.drop (o + cz) s.data.toList) = List.drop cz win := by
                    have h1 := win_step (m := 0) HWR.out HWL.out (show cz ≤ q ∧ 0 ≤ rest.length by omega)
                    simpa using h1
                  have HF3 := Lib.hid hf3; have HK3 := Lib.hid (HKX.out.trans hk3); have HL3 := Lib.hid hl3; have HWIN := Lib.hid hwin
                  clear hf3 hk3 hl3 hwin
                  go_wp2_with (refine wpList_min2 rfl (.tmp 99) (.tmp 101) rfl _ _ 0 rfl rfl (by omega) ?_)
                  refine (zbsp HF3.out).mono ?_
                  rintro e w' ⟨rfl, rfl⟩
                  go_wp2_with fail
                  refine (zoffs HF3.out).mono ?_
                  rintro e w' ⟨rfl, rfl⟩
                  obtain ⟨A3, c3, hc3, hs3⟩ := HF3.out.bs
                  obtain ⟨Qn, hQn⟩ : ∃ Qn, Qn = q - cz := ⟨_, rfl⟩
                  obtain ⟨O, hO⟩ : ∃ O, O = o + cz := ⟨_, rfl⟩
                  rw [HL3.out, ← hQn] at hc3 hs3
                  have hex : (s.extract O (O + Qn)).data.toList = List.drop cz win := by
                    rw [ext_list, show O + Qn - O = Qn by omega, hQn, hO]
                    exact HWIN.out
                  have HS3 := Lib.hid (hex ▸ hs3 : SrcB w3 A3 Qn (s.extract O (O + Qn)).data.toList)
                  have HC3 := Lib.hid hc3
                  clear hs3 hex hc3
                  have hb1 : Qn ≤ 1024 := by omega
                  have hb2 : O + Qn ≤ s.size := by omega
                  have eQ : (q : Int) - (cz : Int) = ((Qn : Nat) : Int) := by omega
                  have eO : (o : Int) + (cz : Int) = ((O : Nat) : Int) := by omega
                  have HQ := Lib.hid hQn; have HO := Lib.hid hO; have HEQ := Lib.hid eQ; have HEO := Lib.hid eO
                  clear hQn hO eQ eO
                  go_wp2_with fail
                  rw [HEQ.out, HEO.out]
                  have e1 : IntKind.i64.wrap ((O : Int) + (Qn : Int)) = (O : Int) + Qn := IntWalk.i64_in _ (by omega)
                  have e2 : ((O : Int) + (Qn : Int)).toNat = O + Qn := by omega
                  have e3 : (O : Int) ≤ (O : Int) + Qn := by omega
                  have e4 : (O : Int) + Qn ≤ s.size := by omega
                  have e5 : (0 : Int) ≤ (O : Int) + Qn := by omega
                  go_quiet (first | (go_at_call 12; exact Calls.quiet_of_same (zbs_at (v := .slice A3 Qn c3) HC3.out)) | (go_at_call 11; exact Calls.quiet_of (same_draws _ A3 Qn c3 (s.extract O (O + Qn)) (HS3.out.kept ((Kept.refl [] _).drewN _) (by simp)) (by omega))))
                  clear e1 e2 e3 e4 e5
                  go_wp2_with fail
                  go_roundw
                  case rel =>
                    have hQ := HQ.out
                    have hO := HO.out
                    refine ⟨O, Qn, j + 1, true, rfl, rfl, rfl, by go_num, by omega, by omega, by omega, ?_⟩
                    rw [hQ, hO]
                    exact ⟨HK3.out.drewN _, _, [], 0, HF3.out.kept0 ((Kept.refl _ _).drewN _), HL3.out, by have h1 := win_rest HWR.out HWL.out (show cz ≤ q by omega) 0; rw [HNE.out] at h1; simpa using h1, fun h => absurd h (by omega)⟩
                  case measure => simp [intOf]; omega
                · have HNE := Lib.hid hne; clear hne
                  go_wp2_with fail
                  refine (fill_some HFX.out HWL.out (by omega) (by omega) HNE.out).mono ?_
                  rintro e w3 ⟨m, rfl, hm, hf3, hk3⟩
                  have hm' : m = min (1024 - (q - cz)) (s.size - o - q) := by rw [hm, HRL.out]
                  have hl3 : (List.drop cz win ++ List.take m rest).length = q - cz + m := by have := HRL.out; have := HWL.out; simp; omega
                  have hwin : List.take (q - cz + m) (List.drop (o + cz) s.data.toList) = List.drop cz win ++ List.take m rest := win_step HWR.out HWL.out (by have := HRL.out; omega)
                  have HF3 := Lib.hid hf3; have HK3 := Lib.hid (HKX.out.trans hk3); have HL3 := Lib.hid hl3; have HM := Lib.hid hm'; have HWIN := Lib.hid hwin
                  have hrp : 0 < s.size - o - q := by rw [← HRL.out]; exact List.length_pos_iff.2 HNE.out
                  have hm1 : m ≤ 1024 - (q - cz) := by omega
                  have hm2 : o + q + m ≤ s.size := by omega
                  have hm3 : 1 ≤ m := by omega
                  clear hf3 hk3 hm hm' hl3 hwin
                  go_wp2_with (refine wpList_min2 rfl (.tmp 99) (.tmp 101) rfl _ _ m rfl rfl (by have := HM.out; omega) ?_)
                  refine (zbsp HF3.out).mono ?_
                  rintro e w' ⟨rfl, rfl⟩
                  go_wp2_with fail
                  refine (zoffs HF3.out).mono ?_
                  rintro e w' ⟨rfl, rfl⟩
                  obtain ⟨A3, c3, hc3, hs3⟩ := HF3.out.bs
                  obtain ⟨Qn, hQn⟩ : ∃ Qn, Qn = q - cz + m := ⟨_, rfl⟩
                  obtain ⟨O, hO⟩ : ∃ O, O = o + cz := ⟨_, rfl⟩
                  rw [HL3.out, ← hQn] at hc3 hs3
                  have hex : (s.extract O (O + Qn)).data.toList = List.drop cz win ++ List.take m rest := by
                    rw [ext_list, show O + Qn - O = Qn by omega, hQn, hO]
                    exact HWIN.out
                  have HS3 := Lib.hid (hex ▸ hs3 : SrcB w3 A3 Qn (s.extract O (O + Qn)).data.toList)
                  have HC3 := Lib.hid hc3
                  clear hs3 hex hc3
                  have hb1 : Qn ≤ 1024 := by omega
                  have hb2 : O + Qn ≤ s.size := by omega
                  have eQ : (q : Int) - (cz : Int) + (m : Int) = ((Qn : Nat) : Int) := by omega
                  have eO : (o : Int) + (cz : Int) = ((O : Nat) : Int) := by omega
                  have HQ := Lib.hid hQn; have HO := Lib.hid hO; have HEQ := Lib.hid eQ; have HEO := Lib.hid eO
                  clear hQn hO eQ eO
                  go_wp2_with fail
                  rw [HEQ.out, HEO.out]
                  have e1 : IntKind.i64.wrap ((O : Int) + (Qn : Int)) = (O : Int) + Qn := IntWalk.i64_in _ (by omega)
                  have e2 : ((O : Int) + (Qn : Int)).toNat = O + Qn := by omega
                  have e3 : (O : Int) ≤ (O : Int) + Qn := by omega
                  have e4 : (O : Int) + Qn ≤ s.size := by omega
                  have e5 : (0 : Int) ≤ (O : Int) + Qn := by omega
                  go_quiet (first | (go_at_call 12; exact Calls.quiet_of_same (zbs_at (v := .slice A3 Qn c3) HC3.out)) | (go_at_call 11; exact Calls.quiet_of (same_draws _ A3 Qn c3 (s.extract O (O + Qn)) (HS3.out.kept ((Kept.refl [] _).drewN _) (by simp)) (by omega))))
                  clear e1 e2 e3 e4 e5
                  go_wp2_with fail
                  go_roundw
                  case rel =>
                    have hQ := HQ.out
                    have hO := HO.out
                    refine ⟨O, Qn, j + 1, false, rfl, rfl, rfl, by go_num, by omega, by omega, by omega, ?_⟩
                    rw [hQ, hO]
                    exact ⟨HK3.out.drewN _, _, List.drop m rest, 0, HF3.out.kept0 ((Kept.refl _ _).drewN _), HL3.out, win_rest HWR.out HWL.out (by omega) m, fun h => absurd h (by omega)⟩
                  case measure => simp [intOf]; omega
            · obtain ⟨cc, hcc⟩ : ∃ cc, cc = q - 1023 := ⟨_, rfl⟩
              have hce : (q : Int) - 1023 = (cc : Int) := by omega
              have hc1 : cc ≤ q := by omega
              have hbig2 : q - cc < 1024 := by omega
              have HCE := Lib.hid hce; clear hce hcc
              go_wp2_with fail
              rw [HCE.out]
              refine (zset HFS.out cc).mono ?_
              rintro e wx ⟨rfl, hfx, hkx⟩
              have HFX := Lib.hid hfx; have HKX := Lib.hid (HKW.out.trans hkx); clear hfx hkx hmod hcz
              cases f with
              | true =>
                go_wp2_with fail
                refine (fill_no HFX.out).mono ?_
                rintro e w' ⟨rfl, rfl⟩
                have hwin : List.take q (List.drop o s.data.toList) = win := by
                  rw [← HWR.out]; exact List.take_left' HWL.out
                have HL3 := HWL; have HWIN := Lib.hid hwin; clear hwin
                go_wp2_with fail
                refine (zbsp HFX.out).mono ?_
                rintro e w' ⟨rfl, rfl⟩
                go_wp2_with fail
                refine (zoffs HFX.out).mono ?_
                rintro e w' ⟨rfl, rfl⟩
                obtain ⟨A3, c3, hc3, hs3⟩ := HFX.out.bs
                obtain ⟨Qn, hQn⟩ : ∃ Qn, Qn = q := ⟨_, rfl⟩
                obtain ⟨O, hO⟩ : ∃ O, O = o := ⟨_, rfl⟩
                rw [HL3.out, ← hQn] at hc3 hs3
                have hex : (s.extract O (O + Qn)).data.toList = win := by
                  rw [ext_list, show O + Qn - O = Qn by omega, hQn, hO]
                  exact HWIN.out
                have HS3 := Lib.hid (hex ▸ hs3 : SrcB wx A3 Qn (s.extract O (O + Qn)).data.toList)
                have HC3 := Lib.hid hc3
                clear hs3 hex hc3
                have hb1 : Qn ≤ 1024 := by omega
                have hb2 : O + Qn ≤ s.size := by omega
                have eQ : (q : Int) = ((Qn : Nat) : Int) := by omega
                have eO : (o : Int) = ((O : Nat) : Int) := by omega
                have HQ := Lib.hid hQn; have HO := Lib.hid hO; have HEQ := Lib.hid eQ; have HEO := Lib.hid eO
                clear hQn hO eQ eO
                go_wp2_with fail
                rw [HEQ.out, HEO.out]
                have e1 : IntKind.i64.wrap ((O : Int) + (Qn : Int)) = (O : Int) + Qn := IntWalk.i64_in _ (by omega)
                have e2 : ((O : Int) + (Qn : Int)).toNat = O + Qn := by omega
                have e3 : (O : Int) ≤ (O : Int) + Qn := by omega
                have e4 : (O : Int) + Qn ≤ s.size := by omega
                have e5 : (0 : Int) ≤ (O : Int) + Qn := by omega
                go_quiet (first | (go_at_call 12; exact Calls.quiet_of_same (zbs_at (v := .slice A3 Qn c3) HC3.out)) | (go_at_call 11; exact Calls.quiet_of (same_draws _ A3 Qn c3 (s.extract O (O + Qn)) (HS3.out.kept ((Kept.refl [] _).drewN _) (by simp)) (by omega))))
                clear e1 e2 e3 e4 e5
                go_wp2_with fail
                go_roundw
                case rel =>
                  have hQ := HQ.out
                  have hO := HO.out
                  refine ⟨O, Qn, j + 1, true, rfl, rfl, rfl, by go_num, by omega, by omega, by omega, ?_⟩
                  rw [hQ, hO]
                  exact ⟨HKX.out.drewN _, win, rest, cc, HFX.out.kept0 ((Kept.refl _ _).drewN _), HWL.out, HWR.out, fun h => absurd h (by omega)⟩
                case measure => simp [intOf]; omega
              | false =>
                by_cases hne : rest = []
                · have hz : s.size - o - q = 0 := by rw [← HRL.out, hne]; rfl
                  have hf0 := HFX.out
                  rw [hne] at hf0
                  have HF0 := Lib.hid hf0; have HNE := Lib.hid hne; have HZ := Lib.hid hz; clear hf0 hne hz
                  have hz0 : s.size ≤ o + q := by have := HZ.out; omega
                  go_wp2_with fail
                  refine (fill_ends HF0.out HWL.out (by omega) (by omega)).mono ?_
                  rintro e w3 ⟨rfl, hf3, hk3⟩
                  have hl3 : (List.drop cc win).length = q - cc := by have := HWL.out; simp; omega
                  have hwin : List.take (q - cc) (List.drop (o + cc) s.data.toList) = List.drop cc win := by
                    have h1 := win_step (m := 0) HWR.out HWL.out (show cc ≤ q ∧ 0 ≤ rest.length by omega)
                    simpa using h1
                  have HF3 := Lib.hid hf3; have HK3 := Lib.hid (HKX.out.trans hk3); have HL3 := Lib.hid hl3; have HWIN := Lib.hid hwin
                  clear hf3 hk3 hl3 hwin
                  go_wp2_with (refine wpList_min2 rfl (.tmp 99) (.tmp 101) rfl _ _ 0 rfl rfl (by omega) ?_)
                  refine (zbsp HF3.out).mono ?_
                  rintro e w' ⟨rfl, rfl⟩
                  go_wp2_with fail
                  refine (zoffs HF3.out).mono ?_
                  rintro e w' ⟨rfl, rfl⟩
                  obtain ⟨A3, c3, hc3, hs3⟩ := HF3.out.bs
                  obtain ⟨Qn, hQn⟩ : ∃ Qn, Qn = q - cc := ⟨_, rfl⟩
                  obtain ⟨O, hO⟩ : ∃ O, O = o + cc := ⟨_, rfl⟩
                  rw [HL3.out, ← hQn] at hc3 hs3
                  have hex : (s.extract O (O + Qn)).data.toList = List.drop cc win := by
                    rw [ext_list, show O + Qn - O = Qn by omega, hQn, hO]
                    exact HWIN.out
                  have HS3 := Lib.hid (hex ▸ hs3 : SrcB w3 A3 Qn (s.extract O (O + Qn)).data.toList)
                  have HC3 := Lib.hid hc3
                  clear hs3 hex hc3
                  have hb1 : Qn ≤ 1024 := by omega
                  have hb2 : O + Qn ≤ s.size := by omega
                  have eQ : (q : Int) - (cc : Int) = ((Qn : Nat) : Int) := by omega
                  have eO : (o : Int) + (cc : Int) = ((O : Nat) : Int) := by omega
                  have HQ := Lib.hid hQn; have HO := Lib.hid hO; have HEQ := Lib.hid eQ; have HEO := Lib.hid eO
                  clear hQn hO eQ eO
                  go_wp2_with fail
                  rw [HEQ.out, HEO.out]
                  have e1 : IntKind.i64.wrap ((O : Int) + (Qn : Int)) = (O : Int) + Qn := IntWalk.i64_in _ (by omega)
                  have e2 : ((O : Int) + (Qn : Int)).toNat = O + Qn := by omega
                  have e3 : (O : Int) ≤ (O : Int) + Qn := by omega
                  have e4 : (O : Int) + Qn ≤ s.size := by omega
                  have e5 : (0 : Int) ≤ (O : Int) + Qn := by omega
                  go_quiet (first | (go_at_call 12; exact Calls.quiet_of_same (zbs_at (v := .slice A3 Qn c3) HC3.out)) | (go_at_call 11; exact Calls.quiet_of (same_draws _ A3 Qn c3 (s.extract O (O + Qn)) (HS3.out.kept ((Kept.refl [] _).drewN _) (by simp)) (by omega))))
                  clear e1 e2 e3 e4 e5
                  go_wp2_with fail
                  go_roundw
                  case rel =>
                    have hQ := HQ.out
                    have hO := HO.out
                    refine ⟨O, Qn, j + 1, true, rfl, rfl, rfl, by go_num, by omega, by omega, by omega, ?_⟩
                    rw [hQ, hO]
                    exact ⟨HK3.out.drewN _, _, [], 0, HF3.out.kept0 ((Kept.refl _ _).drewN _), HL3.out, by have h1 := win_rest HWR.out HWL.out (show cc ≤ q by omega) 0; rw [HNE.out] at h1; simpa using h1, fun h => absurd h (by omega)⟩
                  case measure => simp [intOf]; omega
                · have HNE := Lib.hid hne; clear hne
                  go_wp2_with fail
                  refine (fill_some HFX.out HWL.out (by omega) (by omega) HNE.out).mono ?_
                  rintro e w3 ⟨m, rfl, hm, hf3, hk3⟩
                  have hm' : m = min (1024 - (q - cc)) (s.size - o - q) := by rw [hm, HRL.out]
                  have hl3 : (List.drop cc win ++ List.take m rest).length = q - cc + m := by have := HRL.out; have := HWL.out; simp; omega
                  have hwin : List.take (q - cc + m) (List.drop (o + cc) s.data.toList) = List.drop cc win ++ List.take m rest := win_step HWR.out HWL.out (by have := HRL.out; omega)
                  have HF3 := Lib.hid hf3; have HK3 := Lib.hid (HKX.out.trans hk3); have HL3 := Lib.hid hl3; have HM := Lib.hid hm'; have HWIN := Lib.hid hwin
                  have hrp : 0 < s.size - o - q := by rw [← HRL.out]; exact List.length_pos_iff.2 HNE.out
                  have hm1 : m ≤ 1024 - (q - cc) := by omega
                  have hm2 : o + q + m ≤ s.size := by omega
                  have hm3 : 1 ≤ m := by omega
                  clear hf3 hk3 hm hm' hl3 hwin
                  go_wp2_with (refine wpList_min2 rfl (.tmp 99) (.tmp 101) rfl _ _ m rfl rfl (by have := HM.out; omega) ?_)
                  refine (zbsp HF3.out).mono ?_
                  rintro e w' ⟨rfl, rfl⟩
                  go_wp2_with fail
                  refine (zoffs HF3.out).mono ?_
                  rintro e w' ⟨rfl, rfl⟩
                  obtain ⟨A3, c3, hc3, hs3⟩ := HF3.out.bs
                  obtain ⟨Qn, hQn⟩ : ∃ Qn, Qn = q - cc + m := ⟨_, rfl⟩
                  obtain ⟨O, hO⟩ : ∃ O, O = o + cc := ⟨_, rfl⟩
                  rw [HL3.out, ← hQn] at hc3 hs3
                  have hex : (s.extract O (O + Qn)).data.toList = List.drop cc win ++ List.take m rest := by
                    rw [ext_list, show O + Qn - O = Qn by omega, hQn, hO]
                    exact HWIN.out
                  have HS3 := Lib.hid (hex ▸ hs3 : SrcB w3 A3 Qn (s.extract O (O + Qn)).data.toList)
                  have HC3 := Lib.hid hc3
                  clear hs3 hex hc3
                  have hb1 : Qn ≤ 1024 := by omega
                  have hb2 : O + Qn ≤ s.size := by omega
                  have eQ : (q : Int) - (cc : Int) + (m : Int) = ((Qn : Nat) : Int) := by omega
                  have eO : (o : Int) + (cc : Int) = ((O : Nat) : Int) := by omega
                  have HQ := Lib.hid hQn; have HO := Lib.hid hO; have HEQ := Lib.hid eQ; have HEO := Lib.hid eO
                  clear hQn hO eQ eO
                  go_wp2_with fail
                  rw [HEQ.out, HEO.out]
                  have e1 : IntKind.i64.wrap ((O : Int) + (Qn : Int)) = (O : Int) + Qn := IntWalk.i64_in _ (by omega)
                  have e2 : ((O : Int) + (Qn : Int)).toNat = O + Qn := by omega
                  have e3 : (O : Int) ≤ (O : Int) + Qn := by omega
                  have e4 : (O : Int) + Qn ≤ s.size := by omega
                  have e5 : (0 : Int) ≤ (O : Int) + Qn := by omega
                  go_quiet (first | (go_at_call 12; exact Calls.quiet_of_same (zbs_at (v := .slice A3 Qn c3) HC3.out)) | (go_at_call 11; exact Calls.quiet_of (same_draws _ A3 Qn c3 (s.extract O (O + Qn)) (HS3.out.kept ((Kept.refl [] _).drewN _) (by simp)) (by omega))))
                  clear e1 e2 e3 e4 e5
                  go_wp2_with fail
                  go_roundw
                  case rel =>
                    have hQ := HQ.out
                    have hO := HO.out
                    refine ⟨O, Qn, j + 1, false, rfl, rfl, rfl, by go_num, by omega, by omega, by omega, ?_⟩
                    rw [hQ, hO]
                    exact ⟨HK3.out.drewN _, _, List.drop m rest, 0, HF3.out.kept0 ((Kept.refl _ _).drewN _), HL3.out, win_rest HWR.out HWL.out (by omega) m, fun h => absurd h (by omega)⟩
                  case measure => simp [intOf]; omega
          · obtain ⟨hb1, hf1, hq1⟩ := HJ0.out (by omega)
            subst hb1 hf1
            by_cases hne : rest = []
            · have hz : s.size - o - q = 0 := by rw [← HRL.out, hne]; rfl
              have hf0 := HFS.out
              rw [hne] at hf0
              have HF0 := Lib.hid hf0; have HNE := Lib.hid hne; have HZ := Lib.hid hz; clear hf0 hne hz
              have hz0 : s.size ≤ o + q := by have := HZ.out; omega
              go_wp2_with fail
              refine (fill_ends HF0.out HWL.out (by omega) (by omega)).mono ?_
              rintro e w3 ⟨rfl, hf3, hk3⟩
              have hl3 : (List.drop 0 win).length = q - 0 := by have := HWL.out; simp; omega
              have hwin : List.take (q - 0) (List.drop (o + 0) s.data.toList) = List.drop 0 win := by
                have h1 := win_step (m := 0) HWR.out HWL.out (show 0 ≤ q ∧ 0 ≤ rest.length by omega)
                simpa using h1
              have HF3 := Lib.hid hf3; have HK3 := Lib.hid (HKW.out.trans hk3); have HL3 := Lib.hid hl3; have HWIN := Lib.hid hwin
              clear hf3 hk3 hl3 hwin
              go_wp2_with (refine wpList_min2 rfl (.tmp 99) (.tmp 101) rfl _ _ 0 rfl rfl (by omega) ?_)
              refine (zbsp HF3.out).mono ?_
              rintro e w' ⟨rfl, rfl⟩
              go_wp2_with fail
              refine (zoffs HF3.out).mono ?_
              rintro e w' ⟨rfl, rfl⟩
              obtain ⟨A3, c3, hc3, hs3⟩ := HF3.out.bs
              obtain ⟨Qn, hQn⟩ : ∃ Qn, Qn = q - 0 := ⟨_, rfl⟩
              obtain ⟨O, hO⟩ : ∃ O, O = o + 0 := ⟨_, rfl⟩
              rw [HL3.out, ← hQn] at hc3 hs3
              have hex : (s.extract O (O + Qn)).data.toList = List.drop 0 win := by
                rw [ext_list, show O + Qn - O = Qn by omega, hQn, hO]
                exact HWIN.out
              have HS3 := Lib.hid (hex ▸ hs3 : SrcB w3 A3 Qn (s.extract O (O + Qn)).data.toList)
              have HC3 := Lib.hid hc3
              clear hs3 hex hc3
              have hb1 : Qn ≤ 1024 := by omega
              have hb2 : O + Qn ≤ s.size := by omega
              have eQ : (q : Int) = ((Qn : Nat) : Int) := by omega
              have eO : (o : Int) = ((O : Nat) : Int) := by omega
              have HQ := Lib.hid hQn; have HO := Lib.hid hO; have HEQ := Lib.hid eQ; have HEO := Lib.hid eO
              clear hQn hO eQ eO
              go_wp2_with fail
              rw [HEQ.out, HEO.out]
              have e1 : IntKind.i64.wrap ((O : Int) + (Qn : Int)) = (O : Int) + Qn := IntWalk.i64_in _ (by omega)
              have e2 : ((O : Int) + (Qn : Int)).toNat = O + Qn := by omega
              have e3 : (O : Int) ≤ (O : Int) + Qn := by omega
              have e4 : (O : Int) + Qn ≤ s.size := by omega
              have e5 : (0 : Int) ≤ (O : Int) + Qn := by omega
              go_quiet (first | (go_at_call 12; exact Calls.quiet_of_same (zbs_at (v := .slice A3 Qn c3) HC3.out)) | (go_at_call 11; exact Calls.quiet_of (same_draws _ A3 Qn c3 (s.extract O (O + Qn)) (HS3.out.kept ((Kept.refl [] _).drewN _) (by simp)) (by omega))))
              clear e1 e2 e3 e4 e5
              go_wp2_with fail
              go_roundw
              case rel =>
                have hQ := HQ.out
                have hO := HO.out
                refine ⟨O, Qn, j + 1, true, rfl, rfl, rfl, by go_num, by omega, by omega, by omega, ?_⟩
                rw [hQ, hO]
                exact ⟨HK3.out.drewN _, _, [], 0, HF3.out.kept0 ((Kept.refl _ _).drewN _), HL3.out, by have h1 := win_rest HWR.out HWL.out (show 0 ≤ q by omega) 0; rw [HNE.out] at h1; simpa using h1, fun h => absurd h (by omega)⟩
              case measure => simp [intOf]; omega
            · have HNE := Lib.hid hne; clear hne
              go_wp2_with fail
              refine (fill_some HFS.out HWL.out (by omega) (by omega) HNE.out).mono ?_
              rintro e w3 ⟨m, rfl, hm, hf3, hk3⟩
              have hm' : m = min (1024 - (q - 0)) (s.size - o - q) := by rw [hm, HRL.out]
              have hl3 : (List.drop 0 win ++ List.take m rest).length = q - 0 + m := by have := HRL.out; have := HWL.out; simp; omega
              have hwin : List.take (q - 0 + m) (List.drop (o + 0) s.data.toList) = List.drop 0 win ++ List.take m rest := win_step HWR.out HWL.out (by have := HRL.out; omega)
              have HF3 := Lib.hid hf3; have HK3 := Lib.hid (HKW.out.trans hk3); have HL3 := Lib.hid hl3; have HM := Lib.hid hm'; have HWIN := Lib.hid hwin
              have hrp : 0 < s.size - o - q := by rw [← HRL.out]; exact List.length_pos_iff.2 HNE.out
              have hm1 : m ≤ 1024 - (q - 0) := by omega
              have hm2 : o + q + m ≤ s.size := by omega
              have hm3 : 1 ≤ m := by omega
              clear hf3 hk3 hm hm' hl3 hwin
              go_wp2_with (refine wpList_min2 rfl (.tmp 99) (.tmp 101) rfl _ _ m rfl rfl (by have := HM.out; omega) ?_)
              refine (zbsp HF3.out).mono ?_
              rintro e w' ⟨rfl, rfl⟩
              go_wp2_with fail
              refine (zoffs HF3.out).mono ?_
              rintro e w' ⟨rfl, rfl⟩
              obtain ⟨A3, c3, hc3, hs3⟩ := HF3.out.bs
              obtain ⟨Qn, hQn⟩ : ∃ Qn, Qn = q - 0 + m := ⟨_, rfl⟩
              obtain ⟨O, hO⟩ : ∃ O, O = o + 0 := ⟨_, rfl⟩
              rw [HL3.out, ← hQn] at hc3 hs3
              have hex : (s.extract O (O + Qn)).data.toList = List.drop 0 win ++ List.take m rest := by
                rw [ext_list, show O + Qn - O = Qn by omega, hQn, hO]
                exact HWIN.out
              have HS3 := Lib.hid (hex ▸ hs3 : SrcB w3 A3 Qn (s.extract O (O + Qn)).data.toList)
              have HC3 := Lib.hid hc3
              clear hs3 hex hc3
              have hb1 : Qn ≤ 1024 := by omega
              have hb2 : O + Qn ≤ s.size := by omega
              have eQ : (q : Int) + (m : Int) = ((Qn : Nat) : Int) := by omega
              have eO : (o : Int) = ((O : Nat) : Int) := by omega
              have HQ := Lib.hid hQn; have HO := Lib.hid hO; have HEQ := Lib.hid eQ; have HEO := Lib.hid eO
              clear hQn hO eQ eO
              go_wp2_with fail
              rw [HEQ.out, HEO.out]
              have e1 : IntKind.i64.wrap ((O : Int) + (Qn : Int)) = (O : Int) + Qn := IntWalk.i64_in _ (by omega)
              have e2 : ((O : Int) + (Qn : Int)).toNat = O + Qn := by omega
              have e3 : (O : Int) ≤ (O : Int) + Qn := by omega
              have e4 : (O : Int) + Qn ≤ s.size := by omega
              have e5 : (0 : Int) ≤ (O : Int) + Qn := by omega
              go_quiet (first | (go_at_call 12; exact Calls.quiet_of_same (zbs_at (v := .slice A3 Qn c3) HC3.out)) | (go_at_call 11; exact Calls.quiet_of (same_draws _ A3 Qn c3 (s.extract O (O + Qn)) (HS3.out.kept ((Kept.refl [] _).drewN _) (by simp)) (by omega))))
              clear e1 e2 e3 e4 e5
              go_wp2_with fail
              go_roundw
              case rel =>
                have hQ := HQ.out
                have hO := HO.out
                refine ⟨O, Qn, j + 1, false, rfl, rfl, rfl, by go_num, by omega, by omega, by omega, ?_⟩
                rw [hQ, hO]
                exact ⟨HK3.out.drewN _, _, List.drop m rest, 0, HF3.out.kept0 ((Kept.refl _ _).drewN _), HL3.out, win_rest HWR.out HWL.out (by omega) m, fun h => absurd h (by omega)⟩
              case measure => simp [intOf]; omega
        · have hgt : n1 < j := by omega
          go_wp2_with fail
          refine (zerr HFS.out).mono ?_
          rintro e w' ⟨rfl, rfl⟩
          go_wp2_with fail
          go_ret
          refine ⟨rfl, ?_⟩
          have h1 := (HK1.out.trans HK2.out)
          exact ((h1.weaken (S' := [rb, pb]) (by simp)).trans HKW.out).weaken (by simp; omega)
end Go.Proofs.YtpkgpkklgkpbfaaDoor
