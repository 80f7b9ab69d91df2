/-
  (*Word).Lit of a word of literals; expand.Braces.
-/
import Derived.Test.YtnnedmjkhjgbcaaFmtHE
import Derived.Test.YtnnedmjkhjgbcaaFmtJoin
namespace Go.Proofs.YtnnedmjkhjgbcaaFmt
open Go.RowKit

theorem Kept.ofBelow {w w' : World} (h : Below w.heap.size w w') : Kept [] w w' := ⟨h.os, h.tape, h.output, h.size, fun k hk _ => h.block k hk⟩

/-- The bytes of a list of strings, one behind the other. -/
def catB (ss : List ByteArray) : ByteArray := ⟨(ss.flatMap (·.data.toList)).toArray⟩
theorem join_cat (ss : List ByteArray) : Lib.join (ss.map (·.data.toList)) [] = ss.flatMap (·.data.toList) := by
  cases ss with
  | nil => rfl
  | cons x r =>
    rw [List.map_cons, Lib.join_cons, List.flatMap_cons]
    congr 1
    unfold Lib.joinTail
    rw [List.flatMap, List.map_map]
    congr 1

/-- The part x is a literal of text s. -/
def LitAt (w : World) (x : Value) (s : ByteArray) : Prop := ∃ b, x = litV b ∧ w.cell? ⟨b, 4, none⟩ = some (.string s)
theorem mk_strs (w : World) : (Instr.makeSlice 38 (.int .i64 0) (.int .i64 1)).run Tryf.prog w = .ok (.slice (some ⟨w.heap.size, 0, none⟩) 0 1) (w.alloc (.cells #[.string ⟨#[]⟩] 9)) := by kernel_rfl
theorem own_strs (w : World) : OwnV 9 (w.alloc (.cells #[.string ⟨#[]⟩] 9)) (.slice (some ⟨w.heap.size, 0, none⟩) 0 1) [] :=
  ⟨rfl, .inr ⟨w.heap.size, 1, #[.string ⟨#[]⟩], rfl, Nat.zero_le _, heap_alloc_new w _, Nat.zero_le _, by unfold maxLen; omega, rfl, rfl⟩⟩

/-- The literals so far. -/
def Lits (w wr : World) (A : Option Addr) (k m : Nat) (ss : List ByteArray) : Prop :=
  OwnV 9 wr (.slice A k m) ((ss.take k).map Value.string) ∧ (∀ g ∈ (Value.slice A k m).ownBlock, w.heap.size ≤ g) ∧ Kept [] w wr

set_option maxRecDepth 100000 in
set_option maxHeartbeats 800000 in
theorem lit_any {w : World} {pw : Nat} {v : Value} {ls : List Value} {P : Nat → Prop} (ss : List ByteArray) (hword : WordAt w pw v) (hrow : RdV P w v ls) (hlen : ss.length = ls.length) (hpos : 0 < ls.length) (hl6 : ls.length ≤ 1000000) (hlit : ∀ (k : Nat) x, ls[k]? = some x → ∃ s, ss[k]? = some s ∧ LitAt w x s) (hsz : (ss.flatMap (·.data.toList)).length ≤ 1000000000) :
    Calls Tryf.prog 11 #[.pointer (some ⟨pw, 0, none⟩)] w fun e w' => e = .returned (.string (catB ss)) ∧ Kept [] w w' := by
  obtain ⟨A, c, rfl, a1, a2, a3, a5, a4⟩ := hrow
  obtain ⟨g, o, rfl, hg, _, hcell⟩ := a4 hpos
  obtain ⟨n, hn⟩ : ∃ n, n = ls.length := ⟨_, rfl⟩
  rw [← hn] at hword a1 hl6 hpos
  have c1 := row0 hword
  have hz := heap_lt hword
  have HJ := Lib.hid (fun (w2 : World) (bk m : Nat) (hr : OwnV 9 w2 (.slice (some ⟨bk, 0, none⟩) n m) (ss.map Value.string)) => (show Calls Tryf.prog 15 #[.slice (some ⟨bk, 0, none⟩) n m, .string ⟨#[]⟩] w2 fun e w' => e = .returned (.string (catB ss)) ∧ Kept [] w2 w' by
    have hl : ss.length = n := by omega
    obtain ⟨A', c', e, h1, h2, _, _, h4⟩ := hr.rd
    cases e
    obtain ⟨g', o', e, hg', _, hc⟩ := h4 (by rw [List.length_map]; omega)
    cases e
    have := Tryf.strings_Join bk 0 m ss ⟨#[]⟩ w2 (fun j x hx => hc j _ (by rw [List.getElem?_map, hx]; rfl)) hg' (by omega) (by rw [List.length_map] at h1; exact h1) (by show (Lib.join _ []).length ≤ _; rw [join_cat]; omega)
    rw [hl] at this
    refine this.mono ?_
    rintro e w' ⟨rfl, hb⟩
    refine ⟨?_, Kept.ofBelow hb⟩
    show Ending.returned (.string ⟨(Lib.join _ []).toArray⟩) = _
    rw [join_cat]
    rfl))
  have HC := Lib.hid (fun (k : Nat) (hk : k < n) => (show ∃ b s, w.cell? ⟨g, o + k, none⟩ = some (litV b) ∧ ss[k]? = some s ∧ w.cell? ⟨b, 4, none⟩ = some (.string s) ∧ b < w.heap.size by
    obtain ⟨s, hs, b, hb, hc⟩ := hlit k _ (List.getElem?_eq_getElem (by omega))
    exact ⟨b, s, by rw [hcell k _ (List.getElem?_eq_getElem (by omega)), hb], hs, hc, block_lt_of_cell hc⟩))
  have HL : Hid (ss.length = n) := Lib.hid (by omega)
  unfold maxLen at a2
  have hmk := mk_strs
  have ho0 := Lib.hid (own_strs w)
  clear hword a3 a4 a5 hcell hlit hn hlen hsz
  go_enter Tryf.func11, Tryf.ntmps11
  go_wp2_with fail
  go_loopw [2, 3, 14] (fun q l i wr => ∃ k : Nat, k ≤ n ∧ i = .int .i64 k ∧ q = .string ⟨#[]⟩ ∧ ∃ A m, l = .slice A k m ∧ Hid (Lits w wr A k m ss)) (fun _ _ i _ => n - (intOf i).toNat)
  case atStart => exact ⟨0, Nat.zero_le _, rfl, rfl, _, _, rfl, Lib.hid ⟨ho0.out, fun g hg => by cases hg; exact Nat.le_refl _, (Kept.refl _ _).alloc _⟩⟩
  case round =>
    obtain ⟨k, hk, rfl, rfl, A1, m1, rfl, HLS⟩ := hrel
    by_cases hlt : k < n
    · obtain ⟨b, s, h1, h2, h3, hb⟩ := HC.out k hlt
      have hkw := HLS.out.2.2
      have d0 : wr.cell? ⟨g, o + k, none⟩ = some (.iface 30 (.pointer (some ⟨b, 0, none⟩))) := (hkw.cell (p := ⟨g, o + k, none⟩) hg (by simp)).trans h1
      have d1 : wr.cell? ⟨b, 4, none⟩ = some (.string s) := (hkw.cell (p := ⟨b, 4, none⟩) hb (by simp)).trans h3
      have hta := ta_lit_lit b
      have HOW := Lib.hid (HLS.out.1.kept ((Kept.refl [] wr).alloc (.cells #[.string s] 9)) (by simp))
      have HS := Lib.hid h2
      have hln : ((ss.take k).map Value.string).length = k := by rw [List.length_map, List.length_take, HL.out]; omega
      have HLN := Lib.hid hln
      clear h1 h2 h3 hkw hln
      go_wp2_with (at_builtin; refine wpList_app str_el rfl _ _ rfl rfl rfl HOW.out (OwnV.lit wr [.string s] (by simp)).rd (by simp; rfl) (by rw [HLN.out]; simp; omega) ?_; intro v' w2 ho hb' hk'; obtain ⟨A2, m2, hv2, _⟩ := ho.rd; rw [List.length_append, HLN.out, show [Value.string s].length = 1 from rfl] at hv2; subst hv2; have HO2 := Lib.hid ho; have HB2 := Lib.hid hb'; have HK2 := Lib.hid hk'; clear ho hb' hk')
      go_roundw
      case rel => exact ⟨k + 1, by omega, by go_num, rfl, _, _, rfl, Lib.hid (by
        obtain ⟨q1, q2, q3⟩ := HLS.out
        refine ⟨?_, fun g hg => ?_, ?_⟩
        · have e : (ss.take (k + 1)).map Value.string = (ss.take k).map Value.string ++ [.string s] := by
            rw [List.take_add_one, HS.out]
            simp
          rw [e]
          exact HO2.out
        · rcases HB2.out g hg with h | h
          · exact q2 g h
          · have := q3.size
            simp at h
            omega
        · exact (q3.alloc _).own HK2.out (fun x hx => q2 x (mem_own hx)))⟩
      case measure => simp [intOf]; omega
    · obtain rfl : k = n := by omega
      obtain ⟨q1, q2, q3⟩ := HLS.out
      rw [List.take_of_length_le (by rw [HL.out]; exact Nat.le_refl _)] at q1
      obtain ⟨A', c', e, h1, h2, _, _, h4⟩ := q1.rd
      obtain ⟨bk, o2, e2, _, hob, _⟩ := h4 (by rw [List.length_map, HL.out]; omega)
      have HQ3 := Lib.hid q3
      have hA1 : A1 = some ⟨bk, o2, none⟩ := by cases e; exact e2
      have ho2 : o2 = 0 := by
        rcases q1.2 with ⟨hh, _⟩ | ⟨g', cap, cur, hh, _⟩
        · rw [hA1] at hh; cases hh
        · rw [hA1] at hh; cases hh; rfl
      subst ho2
      subst hA1
      have HJJ := Lib.hid (HJ.out wr bk m1 q1)
      clear q1 q2 q3 e h1 h2 h4 e2 hob
      go_wp2_with (go_at_call 15; refine HJJ.out.mono ?_; rintro e w2 ⟨rfl, hk2⟩; dsimp only; have HK2 := Lib.hid hk2; clear hk2)
      go_ret
      exact ⟨rfl, HQ3.out.trans HK2.out⟩
end Go.Proofs.YtnnedmjkhjgbcaaFmt
