/-
  FnQuotedHdocWordReturnsBodyVerbatim: every input; its helpers (a byte in a slice, a line in a body, two slices joined).
-/
import Derived.Test.YtnjaeooblfihbaaFmtVr
import Derived.Test.YtnjaeooblfihbaaFmtVn
namespace Go.Proofs.YtnjaeooblfihbaaFmt
open Go.RowKit

theorem SrcB.keep0 {w w' : World} {A : Option Addr} {n : Nat} {l : List UInt8} (h : SrcB w A n l) (k : Kept [] w w') : SrcB w' A n l := ⟨h.1, fun h0 => by
  obtain ⟨g, o, e, hg, hc⟩ := h.2 h0
  exact ⟨g, o, e, Nat.lt_of_lt_of_le hg k.size, fun j x hj => (k.cell (p := ⟨g, o + j, none⟩) hg (by simp)).trans (hc j x hj)⟩⟩

/-- It says yes or no; where no, p holds. -/
def SayN (p : Prop) (w w' : World) (e : Ending) : Prop := ∃ b, e = .returned (.bool b) ∧ Kept [] w w' ∧ (b = false → p)
theorem SayN.yes {p : Prop} {w w' : World} (k : Kept [] w w') : SayN p w w' (.returned (.bool true)) := ⟨true, rfl, k, fun h => by cases h⟩
theorem SayN.no {p : Prop} {w w' : World} (k : Kept [] w w') (h : p) : SayN p w w' (.returned (.bool false)) := ⟨false, rfl, k, fun _ => h⟩

set_option maxRecDepth 100000 in
set_option maxHeartbeats 1600000 in
theorem zhas {w : World} {A : Option Addr} {n c : Nat} {l : List UInt8} (h : SrcB w A n l) (hs : n ≤ 10000000) :
    Calls Tryf.prog 18 #[.slice A n c, .int .u8 10] w fun e w' => SayN ((10 : UInt8) ∉ l) w w' e := by
  have H1 := Lib.hid h
  clear h
  go_enter Tryf.func18, Tryf.ntmps18
  go_wp2
  go_loopw [5] (fun i wr => ∃ k : Nat, k ≤ n ∧ i = .int .i64 k ∧ Hid (Kept [] w wr) ∧ Hid (∀ j, j < k → l[j]? ≠ some 10)) (fun i _ => n - (intOf i).toNat)
  case atStart => exact ⟨0, Nat.zero_le _, rfl, Lib.hid (Kept.refl _ _), Lib.hid (fun j hj => by omega)⟩
  case round =>
    obtain ⟨k, hk, rfl, HK, HJ⟩ := hrel
    by_cases hlt : k < n
    · obtain ⟨g, o, rfl, hg, hc⟩ := H1.out.2 (by omega)
      obtain ⟨x, hx⟩ : ∃ x, l[k]? = some x := ⟨l[k]'(by rw [H1.out.1]; exact hlt), List.getElem?_eq_getElem _⟩
      have c1 := (HK.out.cell (p := ⟨g, o + k, none⟩) hg (by simp)).trans (hc k x hx)
      unfold By at c1
      by_cases h10 : x = 10
      · subst h10
        have c1' : wr.cell? ⟨g, o + k, none⟩ = some (.int .u8 10) := c1
        clear hc hx c1
        go_wp2
        try (go_quiet (fail); go_wp2)
        go_returns
        exact SayN.yes (by first | exact HK.out | exact HK.out.trans ((Kept.refl _ _).drewN _) | exact HK.out.drew)
      · have hne : ((x.toNat : Int) == 10) = false := by
          have : ¬ x.toNat = 10 := fun e => h10 (UInt8.toNat_inj.1 e)
          simp; omega
        have HJ2 := Lib.hid (show ∀ j, j < k + 1 → l[j]? ≠ some 10 from fun j b => by
          rcases Nat.lt_or_ge j k with q | q
          · exact HJ.out j q
          · obtain rfl : j = k := by omega
            rw [hx]
            exact fun e => h10 (Option.some.inj e))
        obtain ⟨X, hX⟩ : ∃ X : Int, X = x.toNat := ⟨_, rfl⟩
        rw [← hX] at c1 hne
        clear hc hx hX h10
        go_wp2
        try (go_quiet (fail); go_wp2)
        go_roundw
        case rel => exact ⟨k + 1, by omega, by go_num, by first | exact HK | exact Lib.hid (HK.out.trans ((Kept.refl _ _).drewN _)) | exact Lib.hid HK.out.drew, HJ2⟩
        case measure => simp [intOf]; omega
    · obtain rfl : k = n := by omega
      have HN := Lib.hid (show (10 : UInt8) ∉ l from fun hm => by
        obtain ⟨j, hj, e⟩ := List.getElem_of_mem hm
        exact HJ.out j (by rw [H1.out.1] at hj; exact hj) (by rw [List.getElem?_eq_getElem hj, e]))
      go_wp2
      go_returns
      exact SayN.no HK.out HN.out

set_option maxRecDepth 100000 in
set_option maxHeartbeats 3200000 in
theorem zbody {w : World} {A1 A2 : Option Addr} {n m c d : Nat} {s stop : List UInt8} (h1 : SrcB w A1 n s) (h2 : SrcB w A2 m stop) (hs : n ≤ 10000000) (hm : m ≤ 10000000) (hnc : n ≤ c) (hcm : c ≤ 9223372036854775807) (hend : s[n - 1]? = some 10) :
    Calls Tryf.prog 19 #[.slice A1 n c, .slice A2 m d] w fun e w' => SayN (∀ b, ¬ Hit s stop b) w w' e := by
  have H1 := Lib.hid h1; have H2 := Lib.hid h2; have HEND := Lib.hid hend
  clear h1 h2 hend
  go_enter Tryf.func19, Tryf.ntmps19
  go_wp2
  go_loopw [5] (fun i wr => ∃ k : Nat, k ≤ n + 1 ∧ i = .int .i64 k ∧ Hid (Kept [] w wr) ∧ Hid (Free s stop k ∧ (k < n → LineAt s k))) (fun i _ => n + 1 - (intOf i).toNat)
  case atStart => exact ⟨0, Nat.zero_le _, rfl, Lib.hid (Kept.refl _ _), Lib.hid ⟨free_zero _ _, fun _ => .inl rfl⟩⟩
  case round =>
    obtain ⟨k, hk, rfl, HK, HF⟩ := hrel
    by_cases hlt : k < n
    · obtain ⟨g, o, rfl, hg, hc⟩ := H1.out.2 (by omega)
      have HC := Lib.hid hc
      clear hc
      go_wp2
      go_loopw [6] (fun i wr => ∃ j : Nat, k ≤ j ∧ j ≤ n ∧ i = .int .i64 j ∧ Hid (Kept [] w wr) ∧ Hid (∀ i, k ≤ i → i < j → s[i]? ≠ some 10)) (fun i _ => n - (intOf i).toNat)
      case atStart => exact ⟨k, Nat.le_refl _, by omega, rfl, HK, Lib.hid (fun i a b => by omega)⟩
      case round =>
        obtain ⟨j, hkj, hj, rfl, HK2, HJ⟩ := hrel
        have HSUB := Lib.hid (show ∀ W, Kept [] w W → SrcB W (some ⟨g, o + k, none⟩) (j - k) ((s.drop k).take (j - k)) from fun W kW => ⟨by have := H1.out.1; simp; omega, fun _ => ⟨g, o + k, rfl, Nat.lt_of_lt_of_le hg kW.size, fun i x hi => by
          have hi2 : i < j - k := by have := (List.getElem?_eq_some_iff.1 hi).1; simp at this; omega
          rw [List.getElem?_take_of_lt hi2, List.getElem?_drop] at hi
          rw [Nat.add_assoc]
          exact (kW.cell (p := ⟨g, o + (k + i), none⟩) hg (by simp)).trans (HC.out (k + i) x hi)⟩⟩)
        have H2K := Lib.hid (show ∀ W, Kept [] w W → SrcB W A2 m stop from fun W kW => H2.out.keep0 kW)
        have hck : ¬ c = k := by omega
        have hck2 : ¬ k = c := by omega
        have hkj2 : (k : Int) ≤ j := by omega
        have hjc : (j : Int) ≤ c := by omega
        have hkc : (k : Int) ≤ c := by omega
        by_cases hjn : j < n
        · obtain ⟨x, hx⟩ : ∃ x, s[j]? = some x := ⟨s[j]'(by rw [H1.out.1]; exact hjn), List.getElem?_eq_getElem _⟩
          have c1 := (HK2.out.cell (p := ⟨g, o + j, none⟩) hg (by simp)).trans (HC.out j x hx)
          unfold By at c1
          by_cases h10 : x = 10
          · subst h10
            have hl := line_at HJ.out hkj (.inr hx)
            have c1' : wr.cell? ⟨g, o + j, none⟩ = some (.int .u8 10) := c1
            clear c1
            by_cases he : (s.drop k).take (j - k) = stop
            · have HEQ := Lib.hid (fun W kW => zbeq_eq (c := c - k) (d := d) (HSUB.out W kW) (H2K.out W kW) (by omega) he)
              clear hl he hx
              go_wp2_with (go_at_call 24; refine (HEQ.out _ (by first | exact HK2.out | exact HK2.out.trans ((Kept.refl _ _).drewN _) | exact HK2.out.drew)).mono ?_; rintro e w7 ⟨rfl, k7⟩; have K7 := Lib.hid k7; clear k7)
              go_returns
              exact SayN.yes (HK2.out.trans K7.out)
            · have hnext := free_next HF.out.1 (by rw [hl]; exact he)
              have hll : (lineOf (s.drop k)).length = j - k := by rw [hl]; have := H1.out.1; simp; omega
              rw [hll, show k + (j - k) + 1 = j + 1 by omega] at hnext
              have HF2 := Lib.hid (show Free s stop (j + 1) ∧ (j + 1 < n → LineAt s (j + 1)) from ⟨hnext, fun hq => .inr ⟨by omega, by simpa using hx⟩⟩)
              have HEQ := Lib.hid (fun W kW => zbeq_ne (c := c - k) (d := d) (HSUB.out W kW) (H2K.out W kW) (by omega) hm he)
              clear hl he hnext hll hx
              go_wp2_with (go_at_call 24; refine (HEQ.out _ (by first | exact HK2.out | exact HK2.out.trans ((Kept.refl _ _).drewN _) | exact HK2.out.drew)).mono ?_; rintro e w7 ⟨rfl, k7⟩; have K7 := Lib.hid k7; clear k7)
              go_roundw
              case rel => exact ⟨j + 1, by omega, by go_num, Lib.hid (HK2.out.trans K7.out), HF2⟩
              case measure => simp [intOf]; omega
          · have hne : ((x.toNat : Int) != 10) = true := by
              have : ¬ x.toNat = 10 := fun e => h10 (UInt8.toNat_inj.1 e)
              simp; omega
            have HJ2 := Lib.hid (show ∀ i, k ≤ i → i < j + 1 → s[i]? ≠ some 10 from fun i a b => by
              rcases Nat.lt_or_ge i j with q | q
              · exact HJ.out i a q
              · obtain rfl : i = j := by omega
                rw [hx]
                exact fun e => h10 (Option.some.inj e))
            obtain ⟨X, hX⟩ : ∃ X : Int, X = x.toNat := ⟨_, rfl⟩
            rw [← hX] at c1 hne
            have hne2 : ¬ X = 10 := by simpa using hne
            clear hx hX h10
            go_wp2
            go_roundw
            case rel => exact ⟨j + 1, by omega, by omega, by go_num, by first | exact HK2 | exact Lib.hid (HK2.out.trans ((Kept.refl _ _).drewN _)) | exact Lib.hid HK2.out.drew, HJ2⟩
            case measure => simp [intOf]; omega
        · obtain rfl : j = n := by omega
          exact absurd HEND.out (HJ.out (j - 1) (by omega) (by omega))
    · have hnn : s.length ≤ k := by rw [H1.out.1]; omega
      have HN := Lib.hid (free_none HF.out.1 hnn)
      go_wp2
      go_returns
      exact SayN.no HK.out HN.out

/-- make([]byte, 0, n). -/
theorem make_0 (n : Nat) (hn : n < 1000000000) (w : World) :
    (Instr.makeSlice 22 (.int .i64 0) (.int .i64 n)).run Tryf.prog w = .ok (.slice (some ⟨w.heap.size, 0, none⟩) 0 n) (w.alloc (.cells (zs n).toArray 5)) := by
  obtain ⟨i, h1, h2, h3, h4⟩ := u8_info
  rw [run_make w _ _ i _ u8_und h1 h2 .i64 .i64 0 n (by omega) (by omega) (by rw [h4]; omega) (by omega)]
  simp [h3, made_u8]
/-- append of bytes where there is room. -/
theorem app_fit {w : World} {A : Option Addr} {g m c N r : Nat} {l p : List UInt8} (ty : TypeId) (hg : w.heap[g]? = some (.cells (Bys l ++ zs r).toArray 5 (0, 0))) (hN : N = l.length + r) (hs : SrcB w A m p) (hm : m ≤ r) :
    ∃ W, (Builtin.append_ #[22, 22] ty #[.slice (some ⟨g, 0, none⟩) l.length N, .slice A m c]).run Tryf.prog w = .ok (.slice (some ⟨g, 0, none⟩) (l.length + m) N) W ∧ W.heap[g]? = some (.cells (Bys (l ++ p) ++ zs (r - m)).toArray 5 (0, 0)) ∧ Kept [g] w W := by
  obtain ⟨i, hi, hz, h1, hby⟩ := u8_info
  by_cases h0 : m = 0
  · subst h0
    obtain rfl : p = [] := List.eq_nil_of_length_eq_zero hs.1
    refine ⟨w, ?_, by simpa using hg, Kept.refl _ _⟩
    have hle : l.length ≤ N := by omega
    cases A <;> simp [Builtin.append_, run_underlying u8_und, sizeOf, typeInfo, hi, Builtin.lenOf, Builtin.firstCells, hle, storeCells, loadCells, loadCellsFrom]
  · obtain ⟨b, o, rfl, hb, hc⟩ := hs.2 (by omega)
    have hp := hs.1
    have hnl : (Bys p).length = m * i.size := by rw [h1, Bys_length, hp, Nat.mul_one]
    have hr := run_append_room (P := Tryf.prog) w 22 ty 5 i u8_und hi g l.length N _ hg ⟨b, o, none⟩ m c (Bys p) hnl (fun j u hu => by
      simp only [Bys, List.getElem?_map, Option.map_eq_some_iff] at hu
      obtain ⟨x, hx, rfl⟩ := hu
      rw [addr_add]
      exact hc j x hx) (Bys_one _) (by omega) (by rw [h1, Bys_length, hp]; simp [Bys_length, zs]; omega)
    refine ⟨_, hr, ?_, (Kept.refl _ _).setRow (by simp) _⟩
    have e : (Bys l ++ zs r).toArray.toList.take (l.length * i.size) ++ Bys p ++ (Bys l ++ zs r).toArray.toList.drop (l.length * i.size + (Bys p).length) = Bys (l ++ p) ++ zs (r - m) := by
      rw [h1, Nat.mul_one, Bys_length, hp]
      rw [show ((Bys l ++ zs r).toArray.toList) = Bys l ++ zs r from rfl, List.take_left' (Bys_length l), List.drop_append, List.drop_of_length_le (by rw [Bys_length]; omega), Bys_length, show l.length + m - l.length = m by omega, List.nil_append]
      simp [Bys, zs]
    rw [setRow_heap w g _ _ _ _ hg, e]

theorem wpList_app_run {w w' : World} {ops : Array Oper} {rest : List Oper} {o : Oper} {a : Act} {Q : Exit → Act → World → Prop} (hgd : o.guard = none) (s x : Operand)
    (ho : o.op = .call { callee := .builtin .append, args := #[s, x], argTypes := #[22, 22] }) (v u r : Value) (hs : a.eval s = v) (hx : a.eval x = u)
    (hr : (Builtin.append_ #[22, 22] o.type #[v, u]).run Tryf.prog w = .ok r w') (h : wpList Tryf.prog ops Q rest (a.put o.dst r) w') : wpList Tryf.prog ops Q (o :: rest) a w := by
  refine wpList_plain hgd fun K hK => ?_
  unfold Oper.wp execOp
  simp only [ho, resolve, invoke, builtin, Sem.run_bind, Sem.run_pure, Result.andThen_ok, List.map_toArray, List.map_cons, List.map_nil, hs, hx, hr]
  exact hK _ _ h

set_option maxRecDepth 100000 in
set_option maxHeartbeats 1600000 in
theorem zconcat {w : World} {A1 A2 : Option Addr} {n m c d : Nat} {l1 l2 : List UInt8} (h1 : SrcB w A1 n l1) (h2 : SrcB w A2 m l2) (hn : n ≤ 10000000) (hm : m ≤ 10000000) :
    Calls Tryf.prog 14 #[.slice A1 n c, .slice A2 m d] w fun e w' => e = .returned (.slice (some ⟨w.heap.size, 0, none⟩) (n + m) (n + m)) ∧ w'.heap[w.heap.size]? = some (.cells (Bys (l1 ++ l2)).toArray 5 (0, 0)) ∧ Kept [] w w' := by
  have q1 := fun w => make_0 (n + m) (by omega) w
  have kA : Kept [] w (w.alloc (.cells (zs (n + m)).toArray 5)) := (Kept.refl _ _).alloc _
  obtain ⟨W1, q2, hW1, k1⟩ := app_fit (l := []) (N := n + m) (r := n + m) (c := c) 22 (heap_alloc_new w (.cells (zs (n + m)).toArray 5)) (by simp) (h1.keep0 kA) (by omega)
  have kB : Kept [] w W1 := ((kA.weaken (by simp)).trans k1).weaken (fun x hx => .inr (by simp at hx; omega))
  obtain ⟨W2, q3, hW2, k2⟩ := app_fit (N := n + m) (c := d) 22 hW1 (by have := h1.1; simp; omega) (h2.keep0 kB) (by omega)
  have kC : Kept [] w W2 := ((kB.weaken (by simp)).trans k2).weaken (fun x hx => .inr (by simp at hx; omega))
  have hl : ([] ++ l1).length = n := by simpa using h1.1
  rw [hl] at q3
  rw [show n + m - n - m = 0 by omega] at hW2
  have HW := Lib.hid hW2; have HK := Lib.hid kC
  simp only [List.length_nil, Nat.zero_add] at q2
  have HA1 := Lib.hid q2; have HA2 := Lib.hid q3
  clear q2 q3
  clear h1 h2 hW1 hW2 k1 k2 kA kB kC hl
  have q1' : ∀ w : World, (Instr.makeSlice 22 (.int .i64 0) (.int .i64 ((n : Int) + m))).run Tryf.prog w = .ok (.slice (some ⟨w.heap.size, 0, none⟩) 0 (n + m)) (w.alloc (.cells (zs (n + m)).toArray 5)) := fun w => by rw [← q1 w]; norm_cast
  go_enter Tryf.func14, Tryf.ntmps14
  go_wp2_with (first
    | (refine wpList_app_run rfl _ _ rfl _ _ _ rfl rfl HA1.out ?_)
    | (refine wpList_app_run rfl _ _ rfl _ _ _ rfl rfl HA2.out ?_))
  go_ret
  exact ⟨rfl, by simpa [zs] using HW.out, HK.out⟩

set_option maxRecDepth 100000 in
theorem zb_ret (w : World) (A1 A2 A3 : Option Addr) (n c m d p e : Nat) (hn : n ≤ 9223372036854775807) (hm : m ≤ 9223372036854775807) (hp : p ≤ 9223372036854775807) :
    Calls Tryf.prog 17 #[.slice A1 n c, .slice A2 m d, .slice A3 p e] w fun e w' => SayP (n + m + p ≤ 1048576) w w' e := by
  by_cases h1 : (1048576 : Int) < n
  · go_enter Tryf.func17, Tryf.ntmps17
    go_wp2
    go_ret
    exact SayP.no (Kept.refl _ _)
  by_cases h2 : (1048576 : Int) < m
  · go_enter Tryf.func17, Tryf.ntmps17
    go_wp2
    go_ret
    exact SayP.no (Kept.refl _ _)
  by_cases h3 : (1048576 : Int) < n + m
  · go_enter Tryf.func17, Tryf.ntmps17
    go_wp2
    go_ret
    exact SayP.no (Kept.refl _ _)
  by_cases h4 : (1048576 : Int) < p
  · go_enter Tryf.func17, Tryf.ntmps17
    go_wp2
    go_ret
    exact SayP.no (Kept.refl _ _)
  by_cases h5 : (1048576 : Int) < n + m + p
  · go_enter Tryf.func17, Tryf.ntmps17
    go_wp2
    go_ret
    exact SayP.no (Kept.refl _ _)
  · have hs := Lib.hid (show n + m + p ≤ 1048576 by omega)
    go_enter Tryf.func17, Tryf.ntmps17
    go_wp2
    go_ret
    exact SayP.yes (Kept.refl _ _) hs.out

theorem lineOf_mem {l t : List UInt8} (h : (10 : UInt8) ∈ l) : lineOf (l ++ t) = lineOf l := by
  induction l with
  | nil => cases h
  | cons x l ih =>
    rw [List.cons_append, lineOf, lineOf]
    by_cases hx : x = 10
    · rw [if_pos hx, if_pos hx]
    · rw [if_neg hx, if_neg hx, ih (by
        rcases List.mem_cons.1 h with e | e
        · exact absurd e.symm hx
        · exact e)]
/-- The body comes back: the stop word's line is the first. -/
theorem first_body {body stop tail : List UInt8} (h0 : body ≠ []) (hend : body[body.length - 1]? = some 10) (h10 : (10 : UInt8) ∉ stop) (hno : ∀ b, ¬ Hit body stop b) : First ((body ++ stop) ++ (10 :: tail)) stop body.length := by
  have hl := List.length_pos_iff.2 h0
  refine ⟨⟨by simp; omega, .inr ⟨hl, ?_⟩, ?_⟩, fun b hb hh => hno b ⟨hb, ?_, ?_⟩⟩
  · rw [List.append_assoc, List.getElem?_append_left (by omega)]
    exact hend
  · rw [List.append_assoc, List.drop_left]
    exact lineOf_stop h10
  · rcases hh.2.1 with e | ⟨e1, e2⟩
    · exact .inl e
    · rw [List.append_assoc, List.getElem?_append_left (by omega)] at e2
      exact .inr ⟨e1, e2⟩
  · have h := hh.2.2
    rw [List.append_assoc, List.drop_append_of_le_length (by omega), lineOf_mem] at h
    · exact h
    · refine List.mem_of_getElem? (i := body.length - 1 - b) ?_
      rw [List.getElem?_drop, show b + (body.length - 1 - b) = body.length - 1 by omega]
      exact hend

theorem zpost_body {body stop tail : List UInt8} {w w' : World} {e : Ending} (h : ZPost ((body ++ stop) ++ (10 :: tail)) stop w w' e) (hf : First ((body ++ stop) ++ (10 :: tail)) stop body.length) (h0 : 0 < body.length) : e = .returned (.tuple #[.bool true, .string ⟨body.toArray⟩, .bool true]) ∧ Kept [] w w' := by
  obtain ⟨k, ⟨b, hb, rfl⟩ | ⟨hno, _⟩⟩ := h
  · obtain rfl := first_one hf hb
    refine ⟨?_, k⟩
    rw [decide_eq_true h0, if_pos h0, List.append_assoc, List.take_left]
  · exact absurd hf.1 (hno _)


theorem ten_src (w : World) : SrcB (w.alloc (.cells #[.int .u8 10] 5)) (some ⟨w.heap.size, 0, none⟩) 1 [10] :=
  SrcB.row (l := [10]) (n := 1) (heap_alloc_new w (.cells (Bys [10]).toArray 5)) rfl

theorem ten_cat (w : World) {A : Option Addr} {m d : Nat} {l : List UInt8} (h : SrcB (w.alloc (.cells #[.int .u8 10] 5)) A m l) (hm : m ≤ 10000000) :
    Calls Tryf.prog 14 #[.slice (some ⟨w.heap.size, 0, none⟩) 1 1, .slice A m d] (w.alloc (.cells #[.int .u8 10] 5)) fun e w' => e = .returned (.slice (some ⟨w.heap.size + 1, 0, none⟩) (1 + m) (1 + m)) ∧ SrcB w' (some ⟨w.heap.size + 1, 0, none⟩) (1 + m) ([10] ++ l) ∧ Kept [] (w.alloc (.cells #[.int .u8 10] 5)) w' := by
  refine (zconcat (c := 1) (d := d) (ten_src w) h (by omega) hm).mono ?_
  have hz : (w.alloc (.cells #[.int .u8 10] 5)).heap.size = w.heap.size + 1 := by simp
  rw [hz]
  rintro e w' ⟨rfl, hr, hk⟩
  exact ⟨rfl, SrcB.row hr (by rw [List.length_append, h.1]; rfl), hk⟩

set_option maxRecDepth 1000000 in
set_option maxHeartbeats 6400000 in
theorem law_FnQuotedHdocWordReturnsBodyVerbatim {w : World} {A1 A2 A3 : Option Addr} {n c m d p e : Nat} {body stop tail : List UInt8} {ea : Addr} (h1 : SrcB w A1 n body) (h2 : SrcB w A2 m stop) (h3 : SrcB w A3 p tail) (hA1 : A1 = none → n = 0 ∧ c = 0) (hA3 : A3 = none → p = 0 ∧ e = 0) (hn : n ≤ 9223372036854775807) (hm : m ≤ 9223372036854775807) (hp : p ≤ 9223372036854775807) (hnc : n ≤ c) (hcm : c ≤ 9223372036854775807) (hg : w.cell? ⟨0, 0, none⟩ = some (EOFv ea)) (hT : Tabs w) :
    Calls Tryf.prog 5 #[.slice A1 n c, .slice A2 m d, .slice A3 p e] w fun e w' => e = .returned (.bool true) ∧ Kept [] w w' := by
  have HZ := Lib.hid (zb_ret w A1 A2 A3 n c m d p e hn hm hp)
  have H1 := Lib.hid h1; have H2 := Lib.hid h2; have H3 := Lib.hid h3; have HA1 := Lib.hid hA1; have HA3 := Lib.hid hA3; have HG := Lib.hid hg; have HT := Lib.hid hT
  clear h1 h2 h3 hA1 hA3 hg hT hn hm hp
  by_cases hnm : n + m + p ≤ 1048576
  · by_cases h0 : n = 0
    · subst h0
      go_enter Tryf.func5, Tryf.ntmps5
      go_wp2_with (first
        | (go_at_call 17; refine HZ.out.mono ?_; rintro e w1 ⟨b, rfl, k1, hb⟩; have K1 := Lib.hid k1; clear k1 hb; cases b)
        | fail)
      all_goals (go_ret; exact ⟨rfl, K1.out⟩)
    · obtain ⟨g, o, rfl, hg0, hc⟩ := H1.out.2 (by omega)
      obtain ⟨k, hk⟩ : ∃ k, n = k + 1 := ⟨n - 1, by omega⟩
      obtain ⟨x, hx⟩ : ∃ x, body[k]? = some x := ⟨body[k]'(by rw [H1.out.1]; omega), List.getElem?_eq_getElem _⟩
      have cX := hc k x hx
      unfold By at cX
      have HKN := Lib.hid hk
      have hn1 : 0 < n := by omega
      have hn2 : (0 : Int) < n := by omega
      have hnb : ((n : Int) == 0) = false := by simp; omega
      have hn3 : (n : Int) - 1 < n := by omega
      have hn4 : (0 : Int) ≤ (n : Int) - 1 := by omega
      have hn5 : ((n : Int) - 1).toNat = k := by omega
      have hn6 : (n : Int) - 1 = k := by omega
      have hn7 : k < n := by omega
      clear hc h0 hk
      by_cases h10 : x = 10
      · subst h10
        have cX' : w.cell? ⟨g, o + k, none⟩ = some (.int .u8 10) := cX
        have HX10 := Lib.hid hx
        clear cX hx
        have cX := cX'
        clear cX'
        go_enter Tryf.func5, Tryf.ntmps5
        go_wp2_with (first
          | (go_at_call 17; refine HZ.out.mono ?_; rintro e w1 ⟨b, rfl, k1, hb⟩; have K1 := Lib.hid k1; have cx := (k1.cell (p := ⟨g, o + k, none⟩) hg0 (by simp)).trans cX; clear k1 hb; cases b)
          | (go_at_call 8; refine (zstop (H2.out.keep0 K1.out)).mono ?_; rintro e w2 ⟨b, rfl, k2, hb⟩; have K2 := Lib.hid (K1.out.trans k2); have HO := Lib.hid hb; clear k2 hb; cases b)
          | (go_at_call 18; refine (zhas (H2.out.keep0 K2.out) (by omega)).mono ?_; rintro e w3 ⟨b, rfl, k3, hb⟩; have K3 := Lib.hid (K2.out.trans k3); have H10 := Lib.hid hb; clear k3 hb; cases b)
          | (go_at_call 19; refine (zbody (H1.out.keep0 K3.out) (H2.out.keep0 K3.out) (by omega) (by omega) hnc hcm (by have := HKN.out; rw [show n - 1 = k by omega]; exact HX10.out)).mono ?_; rintro e w4 ⟨b, rfl, k4, hb⟩; have K4 := Lib.hid (K3.out.trans k4); have HNO := Lib.hid hb; clear k4 hb; cases b)
          | fail)
        all_goals first
          | (go_ret; exact ⟨rfl, by first | exact K4.out | exact K3.out | exact K2.out | exact K1.out⟩)
          | skip
        have h20 : n ≤ 10000000 := by omega
        have h21 : m ≤ 10000000 := by omega
        have h22 : p ≤ 10000000 := by omega
        have h0b : 0 < body.length := by rw [H1.out.1]; omega
        have HFB := Lib.hid (first_body (tail := tail) (List.length_pos_iff.1 h0b) (by have := HKN.out; rw [H1.out.1, show n - 1 = k by omega]; exact HX10.out) (H10.out (by simp)) (HNO.out (by simp)))
        have HST := Lib.hid (HO.out (by simp))
        have H0B := Lib.hid h0b
        have HC1 := H1; have HC3 := H3
        clear HO H10 HNO h0b
        go_wp2_with (first
          | (go_at_call 9; refine (zclone (HC1.out.keep0 K4.out) (by omega) HA1.out).mono ?_; clear HC1; rintro e w5 ⟨A5, rfl, s5, k5⟩; have S5 := Lib.hid s5; have K5 := Lib.hid (K4.out.trans k5); clear s5 k5)
          | (go_at_call 10; refine (nnclone (H2.out.keep0 K5.out) (by omega)).mono ?_; rintro e w6 ⟨rfl, r6, k6⟩; have R6 := Lib.hid r6; have S6 := Lib.hid (S5.out.keep0 k6); have K6 := Lib.hid (K5.out.trans k6); clear r6 k6)
          | (go_at_call 9; refine (zclone (HC3.out.keep0 K6.out) (by omega) HA3.out).mono ?_; clear HC3; rintro e w7 ⟨A7, rfl, s7, k7⟩; have S7 := Lib.hid s7; have T7 := Lib.hid (S6.out.keep0 k7); have U7 := Lib.hid ((SrcB.row R6.out H2.out.1).keep0 k7); have Q7 := Lib.hid k7; have K7 := Lib.hid (K6.out.trans k7); clear s7 k7)
          | (go_at_call 14; refine (zconcat T7.out U7.out (by omega) (by omega)).mono ?_; rintro e w8 ⟨rfl, r8, k8⟩; have kq := k8.trans ((Kept.refl [] w8).alloc (.cells #[.int .u8 10] 5)); have S8 := Lib.hid ((SrcB.row r8 (show (body ++ stop).length = n + m by rw [List.length_append, H1.out.1, H2.out.1])).keep0 ((Kept.refl [] w8).alloc (.cells #[.int .u8 10] 5)));  have T8 := Lib.hid (S7.out.keep0 kq); have V8 := Lib.hid (T7.out.keep0 kq); have U8 := Lib.hid (U7.out.keep0 kq); have Q8 := Lib.hid (Q7.out.trans kq); have K8 := Lib.hid (K7.out.trans kq); clear r8 k8 kq T7)
          | (go_at_call 14; refine (ten_cat w8 T8.out (by omega)).mono ?_; rintro e w9 ⟨rfl, r9, k9⟩; have S9 := Lib.hid (S8.out.keep0 k9); have N9 := Lib.hid r9; have V9 := Lib.hid (V8.out.keep0 k9); have U9 := Lib.hid (U8.out.keep0 k9); have Q9 := Lib.hid (Q8.out.trans k9); have K9 := Lib.hid (K8.out.trans k9); clear r9 k9 T8)
          | (go_at_call 14; refine (zconcat S9.out N9.out (by omega) (by omega)).mono ?_; rintro e wa ⟨rfl, ra, ka⟩; have SA := Lib.hid (SrcB.row ra (show ((body ++ stop) ++ ([10] ++ tail)).length = n + m + (1 + p) by rw [List.length_append, List.length_append, List.length_append, H1.out.1, H2.out.1, H3.out.1]; rfl)); have VA := Lib.hid (V9.out.keep0 ka); have UA := Lib.hid (U9.out.keep0 ka); have QA := Lib.hid (Q9.out.trans ka); have KA := Lib.hid (K9.out.trans ka); clear ra ka)
          | (go_at_call 7; refine (zlexable SA.out (by omega)).mono ?_; rintro e wb ⟨b, rfl, kb, hb⟩; have KB := Lib.hid (KA.out.trans kb); have KAB := Lib.hid kb; have HX := Lib.hid hb; clear kb hb; cases b)
          | fail)
        · go_ret
          exact ⟨rfl, KB.out⟩
        have hmm := H2.out.1
        subst hmm
        have hvd := HX.out (by simp)
        have SB := Lib.hid (SA.out.keep0 KAB.out)
        have VB := Lib.hid (VA.out.keep0 KAB.out)
        have hgl : 0 < w.heap.size := block_lt_of_cell HG.out
        have hbs : ∀ j x, stop[j]? = some x → wb.cell? ⟨w5.heap.size, j, none⟩ = some (By x) := fun j x hj => ((QA.out.trans KAB.out).cell (p := ⟨w5.heap.size, j, none⟩) (heap_lt R6.out) (by simp)).trans (by rw [row_cell R6.out, Bys, List.getElem?_map, hj]; rfl)
        have HQ := Lib.hid (zz_qh (d := stop.length) SB.out (by omega) (Nat.le_refl _) hbs (Nat.lt_of_lt_of_le (heap_lt R6.out) (QA.out.trans KAB.out).size) ((KB.out.cell (p := ⟨0, 0, none⟩) hgl (by simp)).trans HG.out) (HT.out.kept KB.out (by simp)) hvd.1 hvd.2 HST.out)
        have HCV := Lib.hid (fun (W : World) (kW : Kept [] wb W) => conv_src (c := n) (VB.out.keep0 kW))
        clear hvd hbs HX
        go_wp2_with (go_at_call 11; refine HQ.out.mono ?_; rintro e wc hpost; obtain ⟨rfl, kc⟩ := zpost_body hpost HFB.out H0B.out; have KC := Lib.hid (KB.out.trans kc); have hcv := HCV.out _ kc; have hcvd := (fun n => HCV.out (wc.drewN n) (kc.drewN n)); clear hpost kc)
        go_ret
        exact ⟨rfl, KC.out⟩
      · have hne : ((x.toNat : Int) != 10) = true := by
          have : ¬ x.toNat = 10 := fun e => h10 (UInt8.toNat_inj.1 e)
          simp; omega
        obtain ⟨X, hX⟩ : ∃ X : Int, X = x.toNat := ⟨_, rfl⟩
        rw [← hX] at cX hne
        have hne2 : ¬ X = 10 := by simpa using hne
        clear hx hX h10
        go_enter Tryf.func5, Tryf.ntmps5
        go_wp2_with (first
          | (go_at_call 17; refine HZ.out.mono ?_; rintro e w1 ⟨b, rfl, k1, hb⟩; have K1 := Lib.hid k1; have cx := (k1.cell (p := ⟨g, o + k, none⟩) hg0 (by simp)).trans cX; clear k1 hb; cases b)
          | fail)
        all_goals (go_ret; exact ⟨rfl, K1.out⟩)
  · go_enter Tryf.func5, Tryf.ntmps5
    go_wp2_with (go_at_call 17; refine HZ.out.mono ?_; rintro e w1 ⟨b, rfl, k1, hb⟩; have K1 := Lib.hid k1; have hbf : b = false := (by cases b; rfl; exact absurd (hb rfl) hnm); subst hbf; clear k1 hb)
    go_ret
    exact ⟨rfl, K1.out⟩
end Go.Proofs.YtnjaeooblfihbaaFmt
