/-
  n010_119: the statements' own tests of bytes.
-/
import Derived.Test.YtolgahamfkaipaaFmtTg
import Derived.IntWalk
import Derived.Test.YtolgahamfkaipaaFmtTi
import Derived.Test.YtolgahamfkaipaaFmtTk
import Derived.Test.YtolgahamfkaipaaFmtTl
import Derived.Test.YtolgahamfkaipaaFmtTb
import Derived.Test.YtolgahamfkaipaaFmtConv
namespace Go.Proofs.YtolgahamfkaipaaFmt
section
open Go.RowKit Go.Stop Go.Extern

def lvOf (li : Int) : Int := if li = 0 then 1 else if li = 1 then 2 else if li = 2 then 4 else if li = 3 then 8 else 16
theorem lvOf_dia (li : Int) : Dia (lvOf li) := by
  unfold Dia lvOf
  repeat' split
  all_goals simp
theorem zlang (li : Int) (h : li = 0 ∨ li = 1 ∨ li = 2 ∨ li = 3 ∨ li = 4) (w : World) : Calls Tryf.prog 17 #[.int .i64 li] w fun e w' => e = .returned (.int .i64 (lvOf li)) ∧ w = w' := by
  rcases h with rfl | rfl | rfl | rfl | rfl
  all_goals (
    go_enter Tryf.func17, Tryf.ntmps17
    go_wp2
    go_ret
    exact ⟨rfl, rfl⟩)
def regS (n : Int) : Bool := decide (n = 39 ∨ n = 34 ∨ n = 96 ∨ n = 38 ∨ n = 124 ∨ n = 36 ∨ n = 40 ∨ n = 41 ∨ n = 59 ∨ n = 60 ∨ n = 62)
set_option maxRecDepth 100000 in
set_option maxHeartbeats 1600000 in
theorem zregS (r : Int) (w : World) : Calls Tryf.prog 13 #[.int .u8 r] w fun e w' => e = .returned (.bool (regS r)) ∧ w = w' := by
  obtain ⟨b, hb⟩ : ∃ b, b = regS r := ⟨_, rfl⟩
  rw [← hb]
  have HB := Lib.hid hb
  clear hb
  go_enter Tryf.func13, Tryf.ntmps13
  go_wp2_with fail
  all_goals (
    go_ret
    refine ⟨?_, rfl⟩
    rw [HB.out]
    unfold regS
    simp at *
    first | omega | (simp [*]; done) | (rw [Bool.eq_iff_iff]; simp; omega))
def dqS (n : Int) : Bool := decide (n = 34 ∨ n = 96 ∨ n = 36)
set_option maxRecDepth 100000 in
set_option maxHeartbeats 1600000 in
theorem zdqS (r : Int) (w : World) : Calls Tryf.prog 11 #[.int .u8 r] w fun e w' => e = .returned (.bool (dqS r)) ∧ w = w' := by
  obtain ⟨b, hb⟩ : ∃ b, b = dqS r := ⟨_, rfl⟩
  rw [← hb]
  have HB := Lib.hid hb
  clear hb
  go_enter Tryf.func11, Tryf.ntmps11
  go_wp2_with fail
  all_goals (
    go_ret
    refine ⟨?_, rfl⟩
    rw [HB.out]
    unfold dqS
    simp at *
    first | omega | (simp [*]; done) | (rw [Bool.eq_iff_iff]; simp; omega))
def ariS (n : Int) : Bool := decide (n = 43 ∨ n = 45 ∨ n = 33 ∨ n = 126 ∨ n = 42 ∨ n = 47 ∨ n = 37 ∨ n = 40 ∨ n = 41 ∨ n = 94 ∨ n = 60 ∨ n = 62 ∨ n = 58 ∨ n = 61 ∨ n = 44 ∨ n = 63 ∨ n = 124 ∨ n = 38 ∨ n = 91 ∨ n = 93 ∨ n = 35 ∨ n = 46)
set_option maxRecDepth 100000 in
set_option maxHeartbeats 1600000 in
theorem zariS (r : Int) (w : World) : Calls Tryf.prog 15 #[.int .u8 r] w fun e w' => e = .returned (.bool (ariS r)) ∧ w = w' := by
  obtain ⟨b, hb⟩ : ∃ b, b = ariS r := ⟨_, rfl⟩
  rw [← hb]
  have HB := Lib.hid hb
  clear hb
  go_enter Tryf.func15, Tryf.ntmps15
  go_wp2_with fail
  all_goals (
    go_ret
    refine ⟨?_, rfl⟩
    rw [HB.out]
    unfold ariS
    simp at *
    first | omega | (simp [*]; done) | (rw [Bool.eq_iff_iff]; simp; omega))
def cl6 (l : List UInt8) : Bool := (l.take 6).all fun x => !(x.toNat == 0 || x.toNat == 13 || x.toNat == 92)
theorem cl_of {l : List UInt8} (h : cl6 l = true) : Cl l 6 := by
  intro i x hi hx
  unfold cl6 at h
  rw [List.all_eq_true] at h
  have := h x (List.mem_of_getElem? (i := i) (by rw [List.getElem?_take, if_pos hi, hx]))
  simp at this
  omega
theorem cl6_no {l : List UInt8} {i : Nat} {x : UInt8} (hi : i < 6) (hx : l[i]? = some x) (h : x.toNat = 0 ∨ x.toNat = 13 ∨ x.toNat = 92) : cl6 l = false := by
  unfold cl6
  rw [List.all_eq_false]
  exact ⟨x, List.mem_of_getElem? (i := i) (by rw [List.getElem?_take, if_pos hi, hx]), by simp; omega⟩
theorem cl6_yes {l : List UInt8} {k : Nat} (h : ∀ j c, j < k → l[j]? = some c → c.toNat ≠ 0 ∧ c.toNat ≠ 13 ∧ c.toNat ≠ 92) (hk : k = l.length ∨ k = 6) : cl6 l = true := by
  unfold cl6
  rw [List.all_eq_true]
  intro x hx
  obtain ⟨j, hj, e⟩ := List.mem_iff_getElem.1 hx
  simp only [List.length_take] at hj
  have e2 : l[j]? = some x := by
    rw [List.getElem_take] at e
    rw [List.getElem?_eq_getElem (by omega), e]
  have := h j x (by omega) e2
  simp
  omega
theorem cl_take {l : List UInt8} {m k : Nat} (h : Cl l m) : Cl (l.take k) m := by
  intro i x hi hx
  refine h i x hi ?_
  rw [List.getElem?_take] at hx
  split at hx
  · exact hx
  · cases hx
def intOf : Value → Int
  | .int _ n => n
  | _ => 0
theorem str_at {s : ByteArray} {k : Nat} (h : k < s.size) : s.data.toList[k]? = some s[k] := by
  rw [List.getElem?_eq_getElem (by exact h)]
  rfl
set_option maxRecDepth 100000 in
set_option maxHeartbeats 800000 in
theorem zclean (s : ByteArray) (w : World) :
    Calls Tryf.prog 8 #[.string s] w fun e w' => e = .returned (.bool (cl6 s.data.toList)) ∧ w = w' := by
  go_enter Tryf.func8, Tryf.ntmps8
  go_wp2
  go_loop [2, 3] (fun _ i => ∃ k : Nat, k ≤ s.size ∧ k ≤ 6 ∧ i = .int .i64 k ∧ Hid (∀ (j : Nat) (c : UInt8), j < k → s.data.toList[j]? = some c → c.toNat ≠ 0 ∧ c.toNat ≠ 13 ∧ c.toNat ≠ 92)) (fun _ i => 6 - (intOf i).toNat)
  case atStart => exact ⟨0, Nat.zero_le _, by omega, rfl, Lib.hid (fun j c h => absurd h (by omega))⟩
  case round =>
    obtain ⟨k, hk, hk6, rfl, HN⟩ := hrel
    by_cases hlt : k < s.size
    · by_cases h6 : k < 6
      · have hat := Lib.hid (str_at hlt)
        by_cases e0 : s[k].toNat = 0
        · have HF := Lib.hid (cl6_no h6 hat.out (.inl e0))
          go_wp2
          go_ret
          rw [HF.out]
          exact ⟨rfl, rfl⟩
        · by_cases e1 : s[k].toNat = 13
          · have HF := Lib.hid (cl6_no h6 hat.out (.inr (.inl e1)))
            go_wp2
            go_ret
            rw [HF.out]
            exact ⟨rfl, rfl⟩
          · by_cases e2 : s[k].toNat = 92
            · have HF := Lib.hid (cl6_no h6 hat.out (.inr (.inr e2)))
              go_wp2
              go_ret
              rw [HF.out]
              exact ⟨rfl, rfl⟩
            · have b0 : ((s[k].toNat : Int) == 0) = false := by rw [beq_eq_false_iff_ne]; omega
              have b1 : ((s[k].toNat : Int) == 13) = false := by rw [beq_eq_false_iff_ne]; omega
              have b2 : ((s[k].toNat : Int) == 92) = false := by rw [beq_eq_false_iff_ne]; omega
              go_wp2
              go_round
              case rel => exact ⟨k + 1, by omega, by omega, by go_num, Lib.hid (fun j c hj hc => by
                by_cases e : j = k
                · subst e; rw [hat.out] at hc; rw [← Option.some.inj hc]; exact ⟨e0, e1, e2⟩
                · exact HN.out j c (by omega) hc)⟩
              case measure => simp [intOf]; omega
      · have HF := Lib.hid (cl6_yes HN.out (.inr (by omega)))
        go_wp2
        go_ret
        rw [HF.out]
        exact ⟨rfl, rfl⟩
    · have HF := Lib.hid (cl6_yes HN.out (.inl (by have : s.data.toList.length = s.size := rfl; omega)))
      go_wp2
      go_ret
      rw [HF.out]
      exact ⟨rfl, rfl⟩
end
section
open Go.RowKit Go.Stop Go.Extern

theorem fin_col {w : World} {pb : Nat} {r c lv c2 : Int} (h : Fin w pb r c lv) (e : c2 = c) : Fin w pb r c2 lv := e ▸ h
theorem zcol {w : World} {pb : Nat} {r c lv : Int} (h : Fin w pb r c lv) : Calls Tryf.prog 19 #[.pointer (some ⟨pb, 0, none⟩)] w fun e w' => e = .returned (.int .i64 c) ∧ w = w' := by
  have hc := fin_c14 h
  clear h
  go_enter Tryf.func19, Tryf.ntmps19
  go_wp2
  go_ret
  exact ⟨rfl, rfl⟩
theorem zcur {w : World} {pb : Nat} {r c lv : Int} (h : Fin w pb r c lv) : Calls Tryf.prog 24 #[.pointer (some ⟨pb, 0, none⟩)] w fun e w' => e = .returned (.int .i32 r) ∧ w = w' := by
  have hc := fin_c3 h
  clear h
  go_enter Tryf.func24, Tryf.ntmps24
  go_wp2
  go_ret
  exact ⟨rfl, rfl⟩
theorem zrune {w : World} {B pb rb fb : Nat} {ea : Addr} {F : Interp} {lv : Int} {u : List UInt8} (h : LexC w B pb rb fb ea F lv 0 u 0 1 6) (hB : 0 < B) :
    Calls Tryf.prog 18 #[.pointer (some ⟨pb, 0, none⟩)] w fun e w' => e = .returned (.int .i32 (nxt u)) ∧ Fin w' pb (nxt u) 1 lv ∧ (nxt u < 128 → LexC w' B pb rb fb ea F lv (nxt u) u.tail 1 1 5) ∧ Kr B pb rb w w' := by
  have HR := Lib.hid (rune_c h hB (by decide) (by decide))
  clear h hB
  go_enter Tryf.func18, Tryf.ntmps18
  go_wp2_with (go_at_call 29; refine HR.out.mono ?_; rintro e w1 ⟨rfl, hf, hl, hk⟩; have HF := Lib.hid hf; have HL := Lib.hid hl; have HK := Lib.hid hk; clear hf hl hk)
  go_ret
  exact ⟨rfl, HF.out, HL.out, HK.out⟩
theorem reg_all {w : World} {B pb rb fb : Nat} {ea : Addr} {F : Interp} {lv r : Int} {u : List UInt8} {c : Int} (hr : regS r = true) (h : LexC w B pb rb fb ea F lv r u 1 c 5) (hB : 0 < B) : Calls Tryf.prog 30 #[.pointer (some ⟨pb, 0, none⟩), .int .i32 r] w (TokP (regT lv r) r u w B pb rb c lv) := by
  unfold regS at hr
  rcases of_decide_eq_true hr with rfl | rfl | rfl | rfl | rfl | rfl | rfl | rfl | rfl | rfl | rfl
  · exact reg_39 h hB
  · exact reg_34 h hB
  · exact reg_96 h hB
  · exact reg_38 h hB
  · exact reg_124 h hB
  · exact reg_36 h hB
  · exact reg_40 h hB
  · exact reg_41 h hB
  · exact reg_59 h hB
  · exact reg_60 h hB
  · exact reg_62 h hB
theorem zreg {w : World} {B pb rb fb : Nat} {ea : Addr} {F : Interp} {lv r : Int} {u : List UInt8} {c : Int} (hr : regS r = true) (hl : r < 128 → LexC w B pb rb fb ea F lv r u 1 c 5) (hB : 0 < B) : Calls Tryf.prog 20 #[.pointer (some ⟨pb, 0, none⟩), .int .i32 r] w (TokP (regT lv r) r u w B pb rb c lv) := by
  have HR := Lib.hid (reg_all hr (hl (by unfold regS at hr; have := of_decide_eq_true hr; omega)) hB)
  clear hl hB
  go_enter Tryf.func20, Tryf.ntmps20
  go_wp2_with (go_at_call 30; refine HR.out.mono ?_; rintro e w1 hT1; have HE := Lib.hid hT1.1; obtain rfl := HE.out; have HT1 := Lib.hid hT1; clear hT1)
  go_ret
  exact HT1.out
theorem dq_all {w : World} {B pb rb fb : Nat} {ea : Addr} {F : Interp} {lv r : Int} {u : List UInt8} {c : Int} (hr : dqS r = true) (h : LexC w B pb rb fb ea F lv r u 1 c 5) (hB : 0 < B) : Calls Tryf.prog 31 #[.pointer (some ⟨pb, 0, none⟩), .int .i32 r] w (TokP (dqT lv r) r u w B pb rb c lv) := by
  unfold dqS at hr
  rcases of_decide_eq_true hr with rfl | rfl | rfl
  · exact dq_34 h hB
  · exact dq_96 h hB
  · exact dq_36 h hB
theorem zdq {w : World} {B pb rb fb : Nat} {ea : Addr} {F : Interp} {lv r : Int} {u : List UInt8} {c : Int} (hr : dqS r = true) (hl : r < 128 → LexC w B pb rb fb ea F lv r u 1 c 5) (hB : 0 < B) : Calls Tryf.prog 21 #[.pointer (some ⟨pb, 0, none⟩), .int .i32 r] w (TokP (dqT lv r) r u w B pb rb c lv) := by
  have HR := Lib.hid (dq_all hr (hl (by unfold dqS at hr; have := of_decide_eq_true hr; omega)) hB)
  clear hl hB
  go_enter Tryf.func21, Tryf.ntmps21
  go_wp2_with (go_at_call 31; refine HR.out.mono ?_; rintro e w1 hT1; have HE := Lib.hid hT1.1; obtain rfl := HE.out; have HT1 := Lib.hid hT1; clear hT1)
  go_ret
  exact HT1.out
set_option maxRecDepth 100000 in
theorem param_no {w : World} {B pb rb : Nat} {lv r : Int} {u : List UInt8} {c : Int} (hr : ¬ (r = 125 ∨ r = 58 ∨ r = 43 ∨ r = 45 ∨ r = 63 ∨ r = 61 ∨ r = 37 ∨ r = 35 ∨ r = 33 ∨ r = 93 ∨ r = 47 ∨ r = 94 ∨ r = 44 ∨ r = 64 ∨ r = 42)) (hf : Fin w pb r c lv) : Calls Tryf.prog 32 #[.pointer (some ⟨pb, 0, none⟩), .int .i32 r] w (TokP (parT r) r u w B pb rb c lv) := by
  have HF := Lib.hid hf
  simp only [not_or] at hr
  have HT : Hid (parT r = .ret (if r = 1114112 then 1 else 0)) := Lib.hid (by
    unfold parT
    simp only [hr.1, hr.2.1, hr.2.2.1, hr.2.2.2.1, hr.2.2.2.2.1, hr.2.2.2.2.2.1, hr.2.2.2.2.2.2.1, hr.2.2.2.2.2.2.2.1, hr.2.2.2.2.2.2.2.2.1, hr.2.2.2.2.2.2.2.2.2.1, hr.2.2.2.2.2.2.2.2.2.2.1, hr.2.2.2.2.2.2.2.2.2.2.2.1, hr.2.2.2.2.2.2.2.2.2.2.2.2.1, hr.2.2.2.2.2.2.2.2.2.2.2.2.2.1, hr.2.2.2.2.2.2.2.2.2.2.2.2.2.2, if_false]
    split <;> rfl)
  obtain ⟨h0, h1, h2, h3, h4, h5, h6, h7, h8, h9, h10, h11, h12, h13, h14⟩ := hr
  clear hf
  go_enter Tryf.func32, Tryf.ntmps32
  go_wp2_with fail
  all_goals (
    go_ret
    exact tokP_of 0 (by rw [HT.out]; first | (simp [Tree.run, *]; done) | (simp at *; simp [Tree.run, *]; done)) HF.out (by omega) (Kr.refl _ _ _ _))
theorem param_all {w : World} {B pb rb fb : Nat} {ea : Addr} {F : Interp} {lv r : Int} {u : List UInt8} {c : Int} (hf : Fin w pb r c lv) (hl : r < 128 → LexC w B pb rb fb ea F lv r u 1 c 5) (hB : 0 < B) : Calls Tryf.prog 32 #[.pointer (some ⟨pb, 0, none⟩), .int .i32 r] w (TokP (parT r) r u w B pb rb c lv) := by
  by_cases hr : r = 125 ∨ r = 58 ∨ r = 43 ∨ r = 45 ∨ r = 63 ∨ r = 61 ∨ r = 37 ∨ r = 35 ∨ r = 33 ∨ r = 93 ∨ r = 47 ∨ r = 94 ∨ r = 44 ∨ r = 64 ∨ r = 42
  · have hl' := hl (by omega)
    rcases hr with rfl | rfl | rfl | rfl | rfl | rfl | rfl | rfl | rfl | rfl | rfl | rfl | rfl | rfl | rfl
    · exact param_125 hl' hB
    · exact param_58 hl' hB
    · exact param_43 hl' hB
    · exact param_45 hl' hB
    · exact param_63 hl' hB
    · exact param_61 hl' hB
    · exact param_37 hl' hB
    · exact param_35 hl' hB
    · exact param_33 hl' hB
    · exact param_93 hl' hB
    · exact param_47 hl' hB
    · exact param_94 hl' hB
    · exact param_44 hl' hB
    · exact param_64 hl' hB
    · exact param_42 hl' hB
  · exact param_no hr hf
theorem zparam {w : World} {B pb rb fb : Nat} {ea : Addr} {F : Interp} {lv r : Int} {u : List UInt8} {c : Int} (hf : Fin w pb r c lv) (hl : r < 128 → LexC w B pb rb fb ea F lv r u 1 c 5) (hB : 0 < B) : Calls Tryf.prog 22 #[.pointer (some ⟨pb, 0, none⟩), .int .i32 r] w (TokP (parT r) r u w B pb rb c lv) := by
  have HR := Lib.hid (param_all hf hl hB)
  clear hf hl hB
  go_enter Tryf.func22, Tryf.ntmps22
  go_wp2_with (go_at_call 32; refine HR.out.mono ?_; rintro e w1 hT1; have HE := Lib.hid hT1.1; obtain rfl := HE.out; have HT1 := Lib.hid hT1; clear hT1)
  go_ret
  exact HT1.out
theorem arithm_all {w : World} {B pb rb fb : Nat} {ea : Addr} {F : Interp} {lv r : Int} {u : List UInt8} {c : Int} (hr : ariS r = true) (h : LexC w B pb rb fb ea F lv r u 1 c 5) (hB : 0 < B) : Calls Tryf.prog 33 #[.pointer (some ⟨pb, 0, none⟩), .int .i32 r] w (TokP (ariT lv r) r u w B pb rb c lv) := by
  unfold ariS at hr
  rcases of_decide_eq_true hr with rfl | rfl | rfl | rfl | rfl | rfl | rfl | rfl | rfl | rfl | rfl | rfl | rfl | rfl | rfl | rfl | rfl | rfl | rfl | rfl | rfl | rfl
  · exact arithm_43 h hB
  · exact arithm_45 h hB
  · exact arithm_33 h hB
  · exact arithm_126 h hB
  · exact arithm_42 h hB
  · exact arithm_47 h hB
  · exact arithm_37 h hB
  · exact arithm_40 h hB
  · exact arithm_41 h hB
  · exact arithm_94 h hB
  · exact arithm_60 h hB
  · exact arithm_62 h hB
  · exact arithm_58 h hB
  · exact arithm_61 h hB
  · exact arithm_44 h hB
  · exact arithm_63 h hB
  · exact arithm_124 h hB
  · exact arithm_38 h hB
  · exact arithm_91 h hB
  · exact arithm_93 h hB
  · exact arithm_35 h hB
  · exact arithm_46 h hB
theorem zarithm {w : World} {B pb rb fb : Nat} {ea : Addr} {F : Interp} {lv r : Int} {u : List UInt8} {c : Int} (hr : ariS r = true) (hl : r < 128 → LexC w B pb rb fb ea F lv r u 1 c 5) (hB : 0 < B) : Calls Tryf.prog 23 #[.pointer (some ⟨pb, 0, none⟩), .int .i32 r] w (TokP (ariT lv r) r u w B pb rb c lv) := by
  have HR := Lib.hid (arithm_all hr (hl (by unfold ariS at hr; have := of_decide_eq_true hr; omega)) hB)
  clear hl hB
  go_enter Tryf.func23, Tryf.ntmps23
  go_wp2_with (go_at_call 33; refine HR.out.mono ?_; rintro e w1 hT1; have HE := Lib.hid hT1.1; obtain rfl := HE.out; have HT1 := Lib.hid hT1; clear hT1)
  go_ret
  exact HT1.out
end
section
open Go.RowKit Go.Stop Go.Extern

theorem dqT_most (lv r : Int) : (dqT lv r).AtMost 4 := by
  unfold dqT dolP
  repeat' (first
    | exact Tree.AtMost.ret _ _
    | exact one_most _ _
    | refine ite_most ?_ ?_
    | refine Tree.AtMost.read _ _ (fun a => ?_))
theorem parT_most (r : Int) : (parT r).AtMost 4 := by
  unfold parT two
  repeat' (first
    | exact Tree.AtMost.ret _ _
    | exact one_most _ _
    | refine ite_most ?_ ?_
    | refine Tree.AtMost.read _ _ (fun a => ?_))
set_option maxHeartbeats 4000000 in
theorem ariT_most (lv r : Int) : (ariT lv r).AtMost 4 := by
  unfold ariT two dbl
  repeat' (first
    | exact Tree.AtMost.ret _ _
    | exact one_most _ _
    | refine ite_most ?_ ?_
    | refine Tree.AtMost.read _ _ (fun a => ?_))
/-- What the lexer finds in the world. -/
structure Wd (w : World) (ea : Addr) (F : Interp) : Prop where
  hg : w.cell? ⟨0, 0, none⟩ = some (EOFv ea)
  hT : Tabs w
  hF : F.answers w.tape
theorem Wd.kept {w w' : World} {ea : Addr} {F : Interp} (h : Wd w ea F) (k : Kept [] w w') : Wd w' ea F := by
  refine ⟨(k.cell (p := ⟨0, 0, none⟩) (block_lt_of_cell h.hg) (by simp)).trans h.hg, h.hT.kept k (by simp), ?_⟩
  have := h.hF
  rw [← k.tape] at this
  exact this
set_option maxRecDepth 100000 in
set_option maxHeartbeats 1600000 in
theorem run_reg {w : World} {ea : Addr} {F : Interp} {li : Int} {s : ByteArray} {t j n : Int} (hd : Wd w ea F) (hli : li = 0 ∨ li = 1 ∨ li = 2 ∨ li = 3 ∨ li = 4) (hs : s.size ≤ 1048576) (hcl : Cl s.data.toList 6) (hst : regS (nxt s.data.toList) = true) (hR : (regT (lvOf li) (nxt s.data.toList)).run (nxt s.data.toList) s.data.toList.tail 0 = (t, j, n)) :
    Calls Tryf.prog 9 #[.int .i64 0, .int .i64 li, .string s] w fun e w' => e = .returned (.tuple #[.int .u32 t, .int .i64 j, .int .i32 n]) ∧ Kept [] w w' := by
  have HR := Lib.hid hR
  have hj : 0 ≤ j ∧ j ≤ 4 := by
    have h := run_count (regT_most _ _ : (regT (lvOf li) (nxt s.data.toList)).AtMost 4) (nxt s.data.toList) s.data.toList.tail 0
    rw [hR] at h
    simp only at h
    omega
  obtain ⟨j1, j2⟩ := hj
  have HD := Lib.hid hd
  have HCL := Lib.hid hcl
  have HLI := Lib.hid hli
  clear hd hR hcl hli
  go_enter Tryf.func9, Tryf.ntmps9
  go_wp2_with (first
    | (go_at_call 17; refine (zlang _ HLI.out _).mono ?_; rintro e w' ⟨rfl, rfl⟩)
    | (refine wpList_bytes rfl _ rfl s rfl ?_; intro A2 cap w2 hs2 hcap2 hk2 _; have HS2 := Lib.hid hs2; have HK2 := Lib.hid hk2; have HC2 := Lib.hid hcap2; have HD2 := Lib.hid (HD.out.kept hk2); clear hs2 hk2 hcap2)
    | (go_at_call 16; refine (newlexer_c (lvOf_dia _) HS2.out (by omega) HC2.out HD2.out.hg HD2.out.hT HD2.out.hF HCL.out).mono ?_; rintro e w3 ⟨B, pb, rb, fb, rfl, hl3, q1, q2, q3, hk3⟩; have HL3 := Lib.hid hl3; have HK3 := Lib.hid hk3; have HBB := Lib.hid (show 0 < B from Nat.lt_of_lt_of_le (block_lt_of_cell HD2.out.hg) q3); have HQ := Lib.hid (And.intro q1 (And.intro q2 q3)); clear hl3 hk3 q1 q2 q3)
    | (go_at_call 18; refine (zrune HL3.out HBB.out).mono ?_; rintro e w4 ⟨rfl, hf4, hl4, hk4⟩; have HF4 := Lib.hid hf4; have HL4 := Lib.hid hl4; have HK4 := Lib.hid hk4; clear hf4 hl4 hk4)
    | (go_at_call 19; refine (zcol HF5.out).mono ?_; rintro e w' ⟨rfl, rfl⟩)
    | (go_at_call 19; refine (zcol HF4.out).mono ?_; rintro e w' ⟨rfl, rfl⟩)
    | (go_at_call 20; refine (zreg hst HL4.out HBB.out).mono ?_; intro e w5 hT5; unfold TokP at hT5; rw [HR.out] at hT5; obtain ⟨rfl, hf5, hk5⟩ := hT5; have HF5 := Lib.hid hf5; have HK5 := Lib.hid hk5; clear hf5 hk5)
    | (go_at_call 24; refine (zcur HF5.out).mono ?_; rintro e w' ⟨rfl, rfl⟩))
  have hw : 1 + j - 1 = j := by omega
  rw [hw]
  go_ret3
  obtain ⟨q1, q2, q3⟩ := HQ.out
  obtain ⟨S4, k4, hS4⟩ := HK4.out.trans HK5.out
  exact ⟨rfl, (((HK2.out.trans HK3.out).weaken (S' := S4) (by simp)).trans k4).weaken (fun x hx => .inr (by have := HK2.out.size; rcases hS4 x hx with h | h | h <;> omega))⟩
set_option maxRecDepth 100000 in
set_option maxHeartbeats 1600000 in
theorem run_dq {w : World} {ea : Addr} {F : Interp} {li : Int} {s : ByteArray} {t j n : Int} (hd : Wd w ea F) (hli : li = 0 ∨ li = 1 ∨ li = 2 ∨ li = 3 ∨ li = 4) (hs : s.size ≤ 1048576) (hcl : Cl s.data.toList 6) (hst : dqS (nxt s.data.toList) = true) (hR : (dqT (lvOf li) (nxt s.data.toList)).run (nxt s.data.toList) s.data.toList.tail 0 = (t, j, n)) :
    Calls Tryf.prog 9 #[.int .i64 1, .int .i64 li, .string s] w fun e w' => e = .returned (.tuple #[.int .u32 t, .int .i64 j, .int .i32 n]) ∧ Kept [] w w' := by
  have HR := Lib.hid hR
  have hj : 0 ≤ j ∧ j ≤ 4 := by
    have h := run_count (dqT_most _ _ : (dqT (lvOf li) (nxt s.data.toList)).AtMost 4) (nxt s.data.toList) s.data.toList.tail 0
    rw [hR] at h
    simp only at h
    omega
  obtain ⟨j1, j2⟩ := hj
  have HD := Lib.hid hd
  have HCL := Lib.hid hcl
  have HLI := Lib.hid hli
  clear hd hR hcl hli
  go_enter Tryf.func9, Tryf.ntmps9
  go_wp2_with (first
    | (go_at_call 17; refine (zlang _ HLI.out _).mono ?_; rintro e w' ⟨rfl, rfl⟩)
    | (refine wpList_bytes rfl _ rfl s rfl ?_; intro A2 cap w2 hs2 hcap2 hk2 _; have HS2 := Lib.hid hs2; have HK2 := Lib.hid hk2; have HC2 := Lib.hid hcap2; have HD2 := Lib.hid (HD.out.kept hk2); clear hs2 hk2 hcap2)
    | (go_at_call 16; refine (newlexer_c (lvOf_dia _) HS2.out (by omega) HC2.out HD2.out.hg HD2.out.hT HD2.out.hF HCL.out).mono ?_; rintro e w3 ⟨B, pb, rb, fb, rfl, hl3, q1, q2, q3, hk3⟩; have HL3 := Lib.hid hl3; have HK3 := Lib.hid hk3; have HBB := Lib.hid (show 0 < B from Nat.lt_of_lt_of_le (block_lt_of_cell HD2.out.hg) q3); have HQ := Lib.hid (And.intro q1 (And.intro q2 q3)); clear hl3 hk3 q1 q2 q3)
    | (go_at_call 18; refine (zrune HL3.out HBB.out).mono ?_; rintro e w4 ⟨rfl, hf4, hl4, hk4⟩; have HF4 := Lib.hid hf4; have HL4 := Lib.hid hl4; have HK4 := Lib.hid hk4; clear hf4 hl4 hk4)
    | (go_at_call 19; refine (zcol HF5.out).mono ?_; rintro e w' ⟨rfl, rfl⟩)
    | (go_at_call 19; refine (zcol HF4.out).mono ?_; rintro e w' ⟨rfl, rfl⟩)
    | (go_at_call 21; refine (zdq hst HL4.out HBB.out).mono ?_; intro e w5 hT5; unfold TokP at hT5; rw [HR.out] at hT5; obtain ⟨rfl, hf5, hk5⟩ := hT5; have HF5 := Lib.hid hf5; have HK5 := Lib.hid hk5; clear hf5 hk5)
    | (go_at_call 24; refine (zcur HF5.out).mono ?_; rintro e w' ⟨rfl, rfl⟩))
  have hw : 1 + j - 1 = j := by omega
  rw [hw]
  go_ret3
  obtain ⟨q1, q2, q3⟩ := HQ.out
  obtain ⟨S4, k4, hS4⟩ := HK4.out.trans HK5.out
  exact ⟨rfl, (((HK2.out.trans HK3.out).weaken (S' := S4) (by simp)).trans k4).weaken (fun x hx => .inr (by have := HK2.out.size; rcases hS4 x hx with h | h | h <;> omega))⟩
set_option maxRecDepth 100000 in
set_option maxHeartbeats 1600000 in
theorem run_param {w : World} {ea : Addr} {F : Interp} {li : Int} {s : ByteArray} {t j n : Int} (hd : Wd w ea F) (hli : li = 0 ∨ li = 1 ∨ li = 2 ∨ li = 3 ∨ li = 4) (hs : s.size ≤ 1048576) (hcl : Cl s.data.toList 6) (hR : (parT (nxt s.data.toList)).run (nxt s.data.toList) s.data.toList.tail 0 = (t, j, n)) :
    Calls Tryf.prog 9 #[.int .i64 2, .int .i64 li, .string s] w fun e w' => e = .returned (.tuple #[.int .u32 t, .int .i64 j, .int .i32 n]) ∧ Kept [] w w' := by
  have HR := Lib.hid hR
  have hj : 0 ≤ j ∧ j ≤ 4 := by
    have h := run_count (parT_most _ : (parT (nxt s.data.toList)).AtMost 4) (nxt s.data.toList) s.data.toList.tail 0
    rw [hR] at h
    simp only at h
    omega
  obtain ⟨j1, j2⟩ := hj
  have HD := Lib.hid hd
  have HCL := Lib.hid hcl
  have HLI := Lib.hid hli
  clear hd hR hcl hli
  go_enter Tryf.func9, Tryf.ntmps9
  go_wp2_with (first
    | (go_at_call 17; refine (zlang _ HLI.out _).mono ?_; rintro e w' ⟨rfl, rfl⟩)
    | (refine wpList_bytes rfl _ rfl s rfl ?_; intro A2 cap w2 hs2 hcap2 hk2 _; have HS2 := Lib.hid hs2; have HK2 := Lib.hid hk2; have HC2 := Lib.hid hcap2; have HD2 := Lib.hid (HD.out.kept hk2); clear hs2 hk2 hcap2)
    | (go_at_call 16; refine (newlexer_c (lvOf_dia _) HS2.out (by omega) HC2.out HD2.out.hg HD2.out.hT HD2.out.hF HCL.out).mono ?_; rintro e w3 ⟨B, pb, rb, fb, rfl, hl3, q1, q2, q3, hk3⟩; have HL3 := Lib.hid hl3; have HK3 := Lib.hid hk3; have HBB := Lib.hid (show 0 < B from Nat.lt_of_lt_of_le (block_lt_of_cell HD2.out.hg) q3); have HQ := Lib.hid (And.intro q1 (And.intro q2 q3)); clear hl3 hk3 q1 q2 q3)
    | (go_at_call 18; refine (zrune HL3.out HBB.out).mono ?_; rintro e w4 ⟨rfl, hf4, hl4, hk4⟩; have HF4 := Lib.hid hf4; have HL4 := Lib.hid hl4; have HK4 := Lib.hid hk4; clear hf4 hl4 hk4)
    | (go_at_call 19; refine (zcol HF5.out).mono ?_; rintro e w' ⟨rfl, rfl⟩)
    | (go_at_call 19; refine (zcol HF4.out).mono ?_; rintro e w' ⟨rfl, rfl⟩)
    | (go_at_call 22; refine (zparam HF4.out HL4.out HBB.out).mono ?_; intro e w5 hT5; unfold TokP at hT5; rw [HR.out] at hT5; obtain ⟨rfl, hf5, hk5⟩ := hT5; have HF5 := Lib.hid hf5; have HK5 := Lib.hid hk5; clear hf5 hk5)
    | (go_at_call 24; refine (zcur HF5.out).mono ?_; rintro e w' ⟨rfl, rfl⟩))
  have hw : 1 + j - 1 = j := by omega
  rw [hw]
  go_ret3
  obtain ⟨q1, q2, q3⟩ := HQ.out
  obtain ⟨S4, k4, hS4⟩ := HK4.out.trans HK5.out
  exact ⟨rfl, (((HK2.out.trans HK3.out).weaken (S' := S4) (by simp)).trans k4).weaken (fun x hx => .inr (by have := HK2.out.size; rcases hS4 x hx with h | h | h <;> omega))⟩
set_option maxRecDepth 100000 in
set_option maxHeartbeats 1600000 in
theorem run_arithm {w : World} {ea : Addr} {F : Interp} {li : Int} {s : ByteArray} {t j n : Int} (hd : Wd w ea F) (hli : li = 0 ∨ li = 1 ∨ li = 2 ∨ li = 3 ∨ li = 4) (hs : s.size ≤ 1048576) (hcl : Cl s.data.toList 6) (hst : ariS (nxt s.data.toList) = true) (hR : (ariT (lvOf li) (nxt s.data.toList)).run (nxt s.data.toList) s.data.toList.tail 0 = (t, j, n)) :
    Calls Tryf.prog 9 #[.int .i64 3, .int .i64 li, .string s] w fun e w' => e = .returned (.tuple #[.int .u32 t, .int .i64 j, .int .i32 n]) ∧ Kept [] w w' := by
  have HR := Lib.hid hR
  have hj : 0 ≤ j ∧ j ≤ 4 := by
    have h := run_count (ariT_most _ _ : (ariT (lvOf li) (nxt s.data.toList)).AtMost 4) (nxt s.data.toList) s.data.toList.tail 0
    rw [hR] at h
    simp only at h
    omega
  obtain ⟨j1, j2⟩ := hj
  have HD := Lib.hid hd
  have HCL := Lib.hid hcl
  have HLI := Lib.hid hli
  clear hd hR hcl hli
  go_enter Tryf.func9, Tryf.ntmps9
  go_wp2_with (first
    | (go_at_call 17; refine (zlang _ HLI.out _).mono ?_; rintro e w' ⟨rfl, rfl⟩)
    | (refine wpList_bytes rfl _ rfl s rfl ?_; intro A2 cap w2 hs2 hcap2 hk2 _; have HS2 := Lib.hid hs2; have HK2 := Lib.hid hk2; have HC2 := Lib.hid hcap2; have HD2 := Lib.hid (HD.out.kept hk2); clear hs2 hk2 hcap2)
    | (go_at_call 16; refine (newlexer_c (lvOf_dia _) HS2.out (by omega) HC2.out HD2.out.hg HD2.out.hT HD2.out.hF HCL.out).mono ?_; rintro e w3 ⟨B, pb, rb, fb, rfl, hl3, q1, q2, q3, hk3⟩; have HL3 := Lib.hid hl3; have HK3 := Lib.hid hk3; have HBB := Lib.hid (show 0 < B from Nat.lt_of_lt_of_le (block_lt_of_cell HD2.out.hg) q3); have HQ := Lib.hid (And.intro q1 (And.intro q2 q3)); clear hl3 hk3 q1 q2 q3)
    | (go_at_call 18; refine (zrune HL3.out HBB.out).mono ?_; rintro e w4 ⟨rfl, hf4, hl4, hk4⟩; have HF4 := Lib.hid hf4; have HL4 := Lib.hid hl4; have HK4 := Lib.hid hk4; clear hf4 hl4 hk4)
    | (go_at_call 19; refine (zcol HF5.out).mono ?_; rintro e w' ⟨rfl, rfl⟩)
    | (go_at_call 19; refine (zcol HF4.out).mono ?_; rintro e w' ⟨rfl, rfl⟩)
    | (go_at_call 23; refine (zarithm hst HL4.out HBB.out).mono ?_; intro e w5 hT5; unfold TokP at hT5; rw [HR.out] at hT5; obtain ⟨rfl, hf5, hk5⟩ := hT5; have HF5 := Lib.hid hf5; have HK5 := Lib.hid hk5; clear hf5 hk5)
    | (go_at_call 24; refine (zcur HF5.out).mono ?_; rintro e w' ⟨rfl, rfl⟩))
  have hw : 1 + j - 1 = j := by omega
  rw [hw]
  go_ret3
  obtain ⟨q1, q2, q3⟩ := HQ.out
  obtain ⟨S4, k4, hS4⟩ := HK4.out.trans HK5.out
  exact ⟨rfl, (((HK2.out.trans HK3.out).weaken (S' := S4) (by simp)).trans k4).weaken (fun x hx => .inr (by have := HK2.out.size; rcases hS4 x hx with h | h | h <;> omega))⟩
end
end Go.Proofs.YtolgahamfkaipaaFmt
