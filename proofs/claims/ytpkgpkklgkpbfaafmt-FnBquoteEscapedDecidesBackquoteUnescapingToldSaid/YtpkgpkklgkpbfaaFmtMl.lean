/-
  n010_110's zzPlainRunes, walked.
-/
import Derived.Test.YtpkgpkklgkpbfaaFmtMk
import Derived.Test.YtpkgpkklgkpbfaaFmtHV
import Derived.LoopTactic
import Derived.Laws.Rows
namespace Go.Proofs.YtpkgpkklgkpbfaaFmt
open Go.RowKit

/-- The runes of l, NULs dropped; none where l holds a backslash, a carriage return or no valid UTF-8. -/
def plF : Nat → List UInt8 → Option (List Int)
  | 0, _ => none
  | _ + 1, [] => some []
  | n + 1, x :: u =>
    if x = 92 ∨ x = 13 then none
    else if (zD (x :: u)).2.2 = false then none
    else (plF n ((x :: u).drop (zD (x :: u)).2.1.toNat)).map (fun l => if (zD (x :: u)).1 = 0 then l else (zD (x :: u)).1 :: l)

theorem zD_facts {l : List UInt8} (hl : l ≠ []) : (1 ≤ (zD l).2.1 ∧ (zD l).2.1 ≤ l.length) ∧ 0 ≤ (zD l).1 ∧ (zD l).1 ≤ 1114111 := by
  have h0 : 0 < l.length := List.length_pos_iff.2 hl
  have b0 := byAt_lt l 0
  unfold zD
  split
  · exact ⟨⟨by show (1 : Int) ≤ 1; omega, by show (1 : Int) ≤ l.length; omega⟩, by show (0 : Int) ≤ byAt l 0; omega, by show (byAt l 0 : Int) ≤ 1114111; omega⟩
  · split
    · rename_i h
      obtain ⟨⟨a, n⟩, hd⟩ : ∃ q, dcN l = q := ⟨_, rfl⟩
      rw [hd] at h ⊢
      obtain ⟨_, _, h3, h4, h5, h6, _⟩ := dec_facts (byAt_lt l 0) (byAt_lt l 1) (byAt_lt l 2) (byAt_lt l 3) hd h
      exact ⟨⟨by show (1 : Int) ≤ n; have : 2 ≤ n := h; omega, by show (n : Int) ≤ l.length; omega⟩, by show (0 : Int) ≤ a; omega, by show (a : Int) ≤ 1114111; omega⟩
    · exact ⟨⟨by show (1 : Int) ≤ 1; omega, by show (1 : Int) ≤ l.length; omega⟩, by show (0 : Int) ≤ 0; omega, by show (0 : Int) ≤ 1114111; omega⟩

theorem make_i32 (tot : Nat) (ht : tot ≤ 10000000) (w : World) : (Instr.makeSlice 25 (.int .i64 0) (.int .i64 tot)).run Tryf.prog w = .ok (.slice (some ⟨w.heap.size, 0, none⟩) 0 tot) (w.alloc (.cells (List.replicate tot (.int .i32 0)).toArray 21)) := by
  obtain ⟨hu, ⟨i, h1, h2, h3, h4⟩, _⟩ := i32_el
  have hb : tot * i.bytes ≤ tot * 16 := Nat.mul_le_mul_left _ h4
  have hb2 : i.bytes * tot ≤ 16 * tot := Nat.mul_le_mul_right _ h4
  have := run_make w _ _ i _ hu h1 h2 .i64 .i64 0 tot (by omega) (by omega) (by omega) (by omega)
  rw [this]
  have hm : madeCells (Value.int .i32 0).cells tot = (List.replicate tot (Value.int .i32 0)).toArray := by
    apply Array.ext
    · simp [madeCells, Value.cells]
    · intro i h1 h2
      simp [madeCells, Value.cells, Nat.mod_one]
  simp [h3, hm]
theorem own_i32 (tot : Nat) (ht : tot ≤ 10000000) (w : World) : OwnV 21 (w.alloc (.cells (List.replicate tot (.int .i32 0)).toArray 21)) (.slice (some ⟨w.heap.size, 0, none⟩) 0 tot) [] :=
  ⟨rfl, .inr ⟨w.heap.size, tot, _, rfl, Nat.zero_le _, heap_alloc_new w _, Nat.zero_le _, by unfold maxLen; omega, by simp, by simp⟩⟩

def i32V (l : List Int) : List Value := l.map (Value.int .i32)
/-- The runes so far, at byte k. -/
def PlI (w : World) (s : ByteArray) (G : Option (List Int)) (k : Nat) (A : Option Addr) (n c : Nat) (wr : World) : Prop :=
  ∃ acc f, n = acc.length ∧ s.size - k < f ∧ G = (plF f (s.data.toList.drop k)).map (acc ++ ·) ∧ OwnV 21 wr (.slice A n c) (i32V acc) ∧ (∀ g ∈ (Value.slice A n c).ownBlock, w.heap.size ≤ g) ∧ Kept [] w wr ∧ n ≤ k

def intOfW : Value → Int
  | .int _ n => n
  | _ => 0

theorem pl_cons (s : ByteArray) {k : Nat} (h : k < s.size) : s.data.toList.drop k = s[k] :: s.data.toList.drop (k + 1) := by
  have e : s.data.toList.length = s.size := rfl
  rw [List.drop_eq_getElem_cons (by omega)]
  congr 1

theorem oneI (x : Value) (h : ∃ i, x = Value.int .i32 i) : x.oneCell' = true := by obtain ⟨i, rfl⟩ := h; rfl

set_option maxRecDepth 100000 in
set_option maxHeartbeats 8000000 in
theorem zplainO (w : World) (s : ByteArray) (hs : s.size ≤ 10000000) (G : Option (List Int)) (hG : G = plF (s.size + 1) s.data.toList) :
    Calls Tryf.prog 10 #[.string s] w fun e w' => (G = none ∧ e = .returned (.tuple #[.slice none 0 0, .bool false]) ∧ Kept [] w w') ∨ ∃ R A n c, G = some R ∧ e = .returned (.tuple #[.slice A n c, .bool true]) ∧ OwnV 21 w' (.slice A n c) (i32V R) ∧ (∀ g ∈ (Value.slice A n c).ownBlock, w.heap.size ≤ g) ∧ n = R.length ∧ Kept [] w w' := by
  have hmk := fun w => make_i32 s.size hs w
  have HI0 : Hid (PlI w s G 0 (some ⟨w.heap.size, 0, none⟩) 0 s.size (w.alloc (.cells (List.replicate s.size (.int .i32 0)).toArray 21))) := Lib.hid ⟨[], s.size + 1, rfl, by omega, by rw [hG]; simp, own_i32 s.size hs w, fun g hg => by cases hg; exact Nat.le_refl _, (Kept.refl _ _).alloc _, Nat.le_refl _⟩
  clear hG
  go_enter Tryf.func10, Tryf.ntmps10
  go_wp2
  go_loopw [4, 5, 6, 7, 8, 9] (fun v i _ _ _ _ wr => ∃ (k : Nat) (A : Option Addr) (n c : Nat), k ≤ s.size ∧ i = .int .i64 k ∧ v = .slice A n c ∧ Hid (PlI w s G k A n c wr)) (fun _ i _ _ _ _ _ => s.size - (intOfW i).toNat)
  case atStart => exact ⟨0, _, _, _, Nat.zero_le _, rfl, rfl, HI0⟩
  case round =>
    obtain ⟨k, A, n, c, hk, rfl, rfl, HI⟩ := hrel
    by_cases hlt : k < s.size
    · obtain ⟨acc, f, hn, hf, hg, ho, hob, hkw, hnk⟩ := HI.out
      obtain ⟨f, rfl⟩ : ∃ f', f = f' + 1 := ⟨f - 1, by omega⟩
      have hcs := pl_cons s hlt
      have hl : (s.data.toList.drop k).length = s.size - k := by rw [List.length_drop]; rfl
      have hne : s.data.toList.drop k ≠ [] := by rw [hcs]; simp
      obtain ⟨⟨z1, z2⟩, z3, z4⟩ := zD_facts hne
      have HZ := Lib.hid (fun w => zdec s k hs hlt _ rfl w)
      rw [hcs, plF, ← hcs] at hg
      obtain ⟨F, hF⟩ : ∃ F, F = zD (s.data.toList.drop k) := ⟨_, rfl⟩
      rw [← hF] at hg HZ z1 z2 z3 z4
      obtain ⟨r, m, ok⟩ := F
      have HZ2 : Hid (∀ w, Calls Tryf.prog 17 #[.string s, .int .i64 k] w fun e w' => e = .returned (.tuple #[.int .i32 r, .int .i64 m, .bool ok]) ∧ Kept [] w w') := HZ
      obtain ⟨m', rfl⟩ : ∃ m' : Nat, m = m' := ⟨m.toNat, by have z1' : (1 : Int) ≤ m := z1; omega⟩
      have z1' : (1 : Int) ≤ m' := z1
      have z2' : (m' : Int) ≤ (s.data.toList.drop k).length := z2
      rw [hl] at z2'
      obtain ⟨x0, hx0⟩ : ∃ x0 : Int, ((s[k]'hlt).toNat : Int) = x0 := ⟨_, rfl⟩
      by_cases hbad : s[k] = 92 ∨ s[k] = 13
      · rw [if_pos hbad] at hg
        have HG := Lib.hid (show G = none by rw [hg]; rfl)
        have HK := Lib.hid hkw
        have hxx : x0 = 92 ∨ x0 = 13 := by rcases hbad with e | e <;> rw [← hx0, e] <;> decide
        clear hg ho hob hkw hcs hl hne z1 z2 z3 z4 z1' z2' HZ HZ2 hF hbad HI hn hf hnk
        rcases hxx with rfl | rfl
        all_goals (
          go_wp2
          go_returns
          exact .inl ⟨HG.out, rfl, HK.out⟩)
      · rw [if_neg hbad] at hg
        have hx1 : (x0 == 92) = false := by
          have : ¬ (s[k]'hlt).toNat = 92 := fun e => hbad (.inl (UInt8.toNat_inj.1 e))
          simp; omega
        have hx2 : (x0 == 13) = false := by
          have : ¬ (s[k]'hlt).toNat = 13 := fun e => hbad (.inr (UInt8.toNat_inj.1 e))
          simp; omega
        cases ok with
        | false =>
          have HG := Lib.hid (show G = none by rw [hg]; rfl)
          have HK := Lib.hid hkw
          clear hg ho hob hkw hcs hl hne z1 z2 z3 z4 z1' z2' HZ hF hbad HI hn hf hnk
          go_wp2_with (go_at_call 17; refine (HZ2.out _).mono ?_; rintro e w2 ⟨rfl, hk2⟩; have HK2 := Lib.hid hk2; clear hk2)
          go_returns
          exact .inl ⟨HG.out, rfl, HK.out.trans HK2.out⟩
        | true =>
          have hg2 : G = ((plF f ((s.data.toList.drop k).drop m')).map (fun l => if r = 0 then l else r :: l)).map (acc ++ ·) := by
            rw [hg]
            show Option.map _ (if true = false then none else _) = _
            rw [if_neg (by simp)]
            rfl
          rw [List.drop_drop] at hg2
          by_cases hr0 : r = 0
          · subst hr0
            have HG2 := Lib.hid (show G = (plF f (s.data.toList.drop (k + m'))).map (acc ++ ·) by rw [hg2, Option.map_map]; rfl)
            have HO := Lib.hid ho; have HOB := Lib.hid hob; have HK := Lib.hid hkw; have HN := Lib.hid hn
            clear hg hg2 ho hob hkw hcs hl hne z1 z2 z3 z4 HZ hF hbad HI hn
            go_wp2_with (go_at_call 17; refine (HZ2.out _).mono ?_; rintro e w2 ⟨rfl, hk2⟩; have HK2 := Lib.hid hk2; clear hk2)
            go_roundw
            case rel => exact ⟨k + m', A, n, c, by omega, by go_num, rfl, Lib.hid ⟨acc, f, HN.out, by omega, HG2.out, HO.out.kept HK2.out (by simp), HOB.out, HK.out.trans HK2.out, by omega⟩⟩
            case measure => simp [intOfW]; omega
          · have HG2 := Lib.hid (show G = (plF f (s.data.toList.drop (k + m'))).map ((acc ++ [r]) ++ ·) by
              rw [hg2, Option.map_map]
              congr 1
              funext l
              simp [hr0])
            have hr1 : (r != 0) = true := by simpa using hr0
            have HO := Lib.hid ho; have HOB := Lib.hid hob; have HK := Lib.hid hkw; have HN := Lib.hid hn
            have hal : (i32V acc).length = n := by rw [hn, i32V, List.length_map]
            have HAL := Lib.hid hal
            clear hg hg2 ho hob hkw hcs hl hne z1 z2 z3 z4 HZ hF hbad HI hn hr0 hal
            go_wp2_with (first
              | (go_at_call 17; refine (HZ2.out _).mono ?_; rintro e w2 ⟨rfl, hk2⟩; have HK2 := Lib.hid hk2; have HOW := Lib.hid ((HO.out.kept hk2 (by simp)).kept ((Kept.refl [] w2).alloc (.cells #[.int .i32 r] 21)) (by simp)); clear hk2)
              | (at_builtin; refine wpList_appv i32_el rfl _ _ rfl rfl rfl HOW.out (OwnV.lit w2 [.int .i32 r] (by simp)).rd (by simp; rfl) (by rw [HAL.out]; simp; omega) ?_; intro v' w3 ho3 hb3 hk3; obtain ⟨A3, c3, hv3, _, _, _, _, _⟩ := ho3.rd; rw [List.length_append, HAL.out, show [Value.int .i32 r].length = 1 from rfl] at hv3; subst hv3; have HO3 := Lib.hid ho3; have HB3 := Lib.hid hb3; have HK3 := Lib.hid hk3; clear ho3 hb3 hk3))
            go_roundw
            case rel =>
              have hz : (w2.alloc (.cells #[.int .i32 r] 21)).heap.size = w2.heap.size + 1 := by simp
              have hw2 := HK.out.size; have hw3 := HK2.out.size
              have kk : Kept [] w _ := HK.out.trans (HK2.out.trans ((Kept.refl [] w2).alloc (.cells #[.int .i32 r] 21)))
              have kf : Kept [] w w3 := ((kk.weaken (S' := (Value.slice A n c).ownBlock.toList) (by simp)).trans HK3.out).weaken (fun x hx => .inr (HOB.out x (by
                cases h : (Value.slice A n c).ownBlock with
                | none => rw [h] at hx; simp at hx
                | some g => rw [h] at hx; simp at hx; subst hx; rfl)))
              exact ⟨k + m', A3, n + 1, c3, by omega, by go_num, rfl, Lib.hid ⟨acc ++ [r], f, by rw [List.length_append, ← HN.out]; rfl, by omega, HG2.out, by rw [i32V, List.map_append]; exact HO3.out, fun g hg => (HB3.out g hg).elim (fun h => HOB.out g h) (fun h => by omega), kf, by omega⟩⟩
            case measure => simp [intOfW]; omega
    · obtain rfl : k = s.size := by omega
      obtain ⟨acc, f, hn, hf, hg, ho, hob, hkw, hnk⟩ := HI.out
      obtain ⟨f, rfl⟩ : ∃ f', f = f' + 1 := ⟨f - 1, by omega⟩
      have hnil : s.data.toList.drop s.size = [] := List.drop_eq_nil_of_le (Nat.le_refl _)
      rw [hnil, plF] at hg
      have HG := Lib.hid (show G = some acc by rw [hg]; simp)
      have HR := Lib.hid ho; have HB := Lib.hid hob
      have HK := Lib.hid hkw; have HN := Lib.hid hn
      clear hg ho hob hkw HI hn
      go_wp2
      go_returns
      exact .inr ⟨acc, A, n, c, HG.out, rfl, HR.out, HB.out, HN.out, HK.out⟩

theorem zplain (w : World) (s : ByteArray) (hs : s.size ≤ 10000000) (G : Option (List Int)) (hG : G = plF (s.size + 1) s.data.toList) :
    Calls Tryf.prog 10 #[.string s] w fun e w' => (G = none ∧ e = .returned (.tuple #[.slice none 0 0, .bool false]) ∧ Kept [] w w') ∨ ∃ R A n c, G = some R ∧ e = .returned (.tuple #[.slice A n c, .bool true]) ∧ RdV (w.heap.size ≤ ·) w' (.slice A n c) (i32V R) ∧ n = R.length ∧ Kept [] w w' :=
  (zplainO w s hs G hG).mono fun _ _ h => h.elim .inl fun ⟨R, A, n, c, h1, h2, ho, hob, h3, h4⟩ => .inr ⟨R, A, n, c, h1, h2, ho.rd.weaken (Q := (w.heap.size ≤ ·)) (fun g _ h => hob g h), h3, h4⟩
end Go.Proofs.YtpkgpkklgkpbfaaFmt
