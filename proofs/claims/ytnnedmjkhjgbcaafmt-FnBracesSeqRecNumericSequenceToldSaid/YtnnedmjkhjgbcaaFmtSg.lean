/-
  bracesSeqRec at a brace that is a numeric sequence: one contract.
-/
import Derived.Test.YtnnedmjkhjgbcaaFmtSf0d
import Derived.Test.YtnnedmjkhjgbcaaFmtSf1u
import Derived.Test.YtnnedmjkhjgbcaaFmtSf2u
import Derived.Test.YtnnedmjkhjgbcaaFmtSf3u
import Derived.Test.YtnnedmjkhjgbcaaFmtSf1d
import Derived.Test.YtnnedmjkhjgbcaaFmtSf2d
import Derived.Test.YtnnedmjkhjgbcaaFmtSf3d
namespace Go.Proofs.YtnnedmjkhjgbcaaFmt
open Go.RowKit

/-- The j-th number. -/
def vF (f t : Int) (s j : Nat) : Int := if f ≤ t then f + ((j * s : Nat) : Int) else f - ((j * s : Nat) : Int)
theorem sV_le {p : Int} (hs : Bool) (h1 : -2305843009213693952 ≤ p) (h2 : p ≤ 2305843009213693952) : sV p hs ≤ 2305843009213693952 := by
  unfold sV; split <;> omega
theorem sV_neg {p : Int} (h : p < 0) : -p = (sV p true : Int) := by
  unfold sV; rw [if_pos ⟨rfl, by omega⟩]; omega
theorem sV_zero {p : Int} (h : p = 0) : sV p true = 1 := by
  unfold sV; rw [if_neg (by simp [h])]
theorem sV_posi {p : Int} (h : 0 < p) : p = (sV p true : Int) := by
  unfold sV; rw [if_pos ⟨rfl, by omega⟩]; omega
theorem sV_no (p : Int) : sV p false = 1 := by unfold sV; simp

/-- The sequence's word, where it lies. -/
structure SeqW (w : World) (hs : Bool) (a b : ByteArray) (f t p : Int) (la lb bb pw ge ce e0 e1 e2 : Nat) (v : Value) : Prop where
  hla : w.cell? ⟨la, 4, none⟩ = some (.string a)
  hlb : w.cell? ⟨lb, 4, none⟩ = some (.string b)
  word : WordAt w pw v
  row : RdV (· < w.heap.size) w v [litV la, brV bb, litV lb]
  br : w.heap[bb]? = some (.cells #[.bool true, .slice (some ⟨ge, 0, none⟩) (if hs then 3 else 2) ce] 34 (0, 0))
  hce : (if hs then 3 else 2) ≤ ce ∧ ce ≤ 9223372036854775807
  p0 : w.cell? ⟨ge, 0, none⟩ = some (.pointer (some ⟨e0, 0, none⟩))
  p1 : w.cell? ⟨ge, 1, none⟩ = some (.pointer (some ⟨e1, 0, none⟩))
  p2 : hs = true → w.cell? ⟨ge, 2, none⟩ = some (.pointer (some ⟨e2, 0, none⟩))
  l0 : ∀ W, Kept [] w W → Calls Tryf.prog 11 #[.pointer (some ⟨e0, 0, none⟩)] W fun e w' => e = .returned (.string (sItoa f)) ∧ Kept [] W w'
  l1 : ∀ W, Kept [] w W → Calls Tryf.prog 11 #[.pointer (some ⟨e1, 0, none⟩)] W fun e w' => e = .returned (.string (sItoa t)) ∧ Kept [] W w'
  l2 : hs = true → ∀ W, Kept [] w W → Calls Tryf.prog 11 #[.pointer (some ⟨e2, 0, none⟩)] W fun e w' => e = .returned (.string (sItoa p)) ∧ Kept [] W w'
  tab : Tab w

theorem bsr_num {w0 w : World} {B gb cb cnt la lb bb pw ge ce e0 e1 e2 : Nat} {a b : ByteArray} {T : Nat → Value} {f t p : Int} {v : Value} (hs : Bool) (E : NE w0 B gb cb cnt la lb a b) (hold : Old B w0 w) (hB : B ≤ gb) (hJ : NJ B gb T 0 [gb] w)
    (hword : WordAt w pw v) (hpw : pw ≠ gb) (hrow : RdV (· ≠ gb) w v [litV la, brV bb, litV lb]) (hbr : w.heap[bb]? = some (.cells #[.bool true, .slice (some ⟨ge, 0, none⟩) (if hs then 3 else 2) ce] 34 (0, 0))) (hce : (if hs then 3 else 2) ≤ ce ∧ ce ≤ 9223372036854775807)
    (hp0 : w.cell? ⟨ge, 0, none⟩ = some (.pointer (some ⟨e0, 0, none⟩))) (hp1 : w.cell? ⟨ge, 1, none⟩ = some (.pointer (some ⟨e1, 0, none⟩)))
    (HL0 : ∀ W, Kept [] w W → Calls Tryf.prog 11 #[.pointer (some ⟨e0, 0, none⟩)] W fun e w' => e = .returned (.string (sItoa f)) ∧ Kept [] W w')
    (HL1 : ∀ W, Kept [] w W → Calls Tryf.prog 11 #[.pointer (some ⟨e1, 0, none⟩)] W fun e w' => e = .returned (.string (sItoa t)) ∧ Kept [] W w')
    (hp2 : hs = true → w.cell? ⟨ge, 2, none⟩ = some (.pointer (some ⟨e2, 0, none⟩))) (HL2 : hs = true → ∀ W, Kept [] w W → Calls Tryf.prog 11 #[.pointer (some ⟨e2, 0, none⟩)] W fun e w' => e = .returned (.string (sItoa p)) ∧ Kept [] W w')
    (hI : InL f t p) (hcnt : cntV f t p hs = cnt) (hT : ∀ j, j < cnt → T j = .string (catB [a, sItoa (vF f t (sV p hs) j), b])) (hsz : ∀ j, j < cnt → (catB [a, sItoa (vF f t (sV p hs) j), b]).size ≤ 1000000000) (htab : Tab w) (hgt : 2 ≠ gb) :
    Calls Tryf.prog 14 #[.pointer (some ⟨pw, 0, none⟩), .func (.func 10) #[] #[.pointer (some ⟨gb, 0, none⟩), .pointer (some ⟨cb, 0, none⟩)]] w fun e w' => e = .returned (.bool true) ∧ ∃ F', NJ B gb T cnt F' w' ∧ Kept [gb] w w' := by
  obtain ⟨hI1, hI2, hI3, hI4, hI5, hI6⟩ := hI
  have hpos := sV_pos p hs
  have hle := sV_le hs hI5 hI6
  unfold cntV at hcnt
  unfold vF at hT hsz
  by_cases hft : f ≤ t
  · simp only [if_pos hft] at hT hsz
    cases hs with
    | false => exact bsr_seq0u (d := (t - f).natAbs) (s := sV p false) E hold hB hJ hword hpw hrow hbr hce hp0 hp1 HL0 HL1 hI1 hI2 hI3 hI4 hft (by omega) (sV_no p) hpos hle hcnt hT hsz htab hgt
    | true =>
      rcases Int.lt_trichotomy p 0 with hp | hp | hp
      · exact bsr_seq1u (d := (t - f).natAbs) (s := sV p true) E hold hB hJ hword hpw hrow hbr hce hp0 hp1 HL0 HL1 (hp2 rfl) (HL2 rfl) hI5 hI6 hI1 hI2 hI3 hI4 hft (by omega) hp (sV_neg hp) hpos hle hcnt hT hsz htab hgt
      · exact bsr_seq2u (d := (t - f).natAbs) (s := sV p true) E hold hB hJ hword hpw hrow hbr hce hp0 hp1 HL0 HL1 (hp2 rfl) (HL2 rfl) hI5 hI6 hI1 hI2 hI3 hI4 hft (by omega) hp (sV_zero hp) hpos hle hcnt hT hsz htab hgt
      · exact bsr_seq3u (d := (t - f).natAbs) (s := sV p true) E hold hB hJ hword hpw hrow hbr hce hp0 hp1 HL0 HL1 (hp2 rfl) (HL2 rfl) hI5 hI6 hI1 hI2 hI3 hI4 hft (by omega) hp (sV_posi hp) hpos hle hcnt hT hsz htab hgt
  · simp only [if_neg hft] at hT hsz
    cases hs with
    | false => exact bsr_seq0d (d := (t - f).natAbs) (s := sV p false) E hold hB hJ hword hpw hrow hbr hce hp0 hp1 HL0 HL1 hI1 hI2 hI3 hI4 hft (by omega) (sV_no p) hpos hle hcnt hT hsz htab hgt
    | true =>
      rcases Int.lt_trichotomy p 0 with hp | hp | hp
      · exact bsr_seq1d (d := (t - f).natAbs) (s := sV p true) E hold hB hJ hword hpw hrow hbr hce hp0 hp1 HL0 HL1 (hp2 rfl) (HL2 rfl) hI5 hI6 hI1 hI2 hI3 hI4 hft (by omega) hp (sV_neg hp) hpos hle hcnt hT hsz htab hgt
      · exact bsr_seq2d (d := (t - f).natAbs) (s := sV p true) E hold hB hJ hword hpw hrow hbr hce hp0 hp1 HL0 HL1 (hp2 rfl) (HL2 rfl) hI5 hI6 hI1 hI2 hI3 hI4 hft (by omega) hp (sV_zero hp) hpos hle hcnt hT hsz htab hgt
      · exact bsr_seq3d (d := (t - f).natAbs) (s := sV p true) E hold hB hJ hword hpw hrow hbr hce hp0 hp1 HL0 HL1 (hp2 rfl) (HL2 rfl) hI5 hI6 hI1 hI2 hI3 hI4 hft (by omega) hp (sV_posi hp) hpos hle hcnt hT hsz htab hgt

theorem call_num {w : World} {cb cnt la lb bb pw ge ce e0 e1 e2 gb : Nat} {a b : ByteArray} {f t p : Int} {v : Value} {hs : Bool} (h : SeqW w hs a b f t p la lb bb pw ge ce e0 e1 e2 v) (hgb : w.heap.size = gb) (hcb : w.cell? ⟨cb, 0, none⟩ = some (.int .u64 cnt)) (hcm : cnt ≤ 65536)
    (hI : InL f t p) (hcnt : cntV f t p hs = cnt) (hsz : ∀ j, j < cnt → (catB [a, sItoa (vF f t (sV p hs) j), b]).size ≤ 1000000000) :
    Calls Tryf.prog 14 #[.pointer (some ⟨pw, 0, none⟩), .func (.func 10) #[] #[.pointer (some ⟨gb, 0, none⟩), .pointer (some ⟨cb, 0, none⟩)]] (w.alloc (.cells #[.slice none 0 0] 38)) fun e w' => e = .returned (.bool true) ∧ ∃ A m, w'.heap[gb]? = some (.cells #[.slice A cnt m] 38 (0, 0)) ∧ OwnV 9 w' (.slice A cnt m) ((List.range cnt).map fun j => Value.string (catB [a, sItoa (vF f t (sV p hs) j), b])) ∧ Kept [] w w' := by
  subst hgb
  have k0 : Kept [] w (w.alloc (.cells #[.slice none 0 0] 38)) := (Kept.refl _ _).alloc _
  have lt : ∀ {g : Nat} {i : Nat} {x : Value}, w.cell? ⟨g, i, none⟩ = some x → g < w.heap.size := fun h => block_lt_of_cell h
  have kc : ∀ {g i : Nat} {x : Value}, w.cell? ⟨g, i, none⟩ = some x → (w.alloc (.cells #[.slice none 0 0] 38)).cell? ⟨g, i, none⟩ = some x := fun {g i x} h => (k0.cell (p := ⟨g, i, none⟩) (lt h) (by simp)).trans h
  have hpw := heap_lt h.word
  refine (bsr_num (w0 := w) (B := w.heap.size) (T := fun j => Value.string (catB [a, sItoa (vF f t (sV p hs) j), b])) hs ⟨h.hla, lt h.hla, h.hlb, lt h.hlb, hcb, lt hcb, hcm⟩ ⟨k0.size, fun g hg => k0.block g hg (by simp)⟩ (Nat.le_refl _) ⟨none, 0, heap_alloc_new w _, OwnV.nil _ _, rfl, Nat.le_refl _, fun g hg => by cases hg⟩ (h.word.kept k0 (by simp)) (by omega)
    ((h.row.kept k0 (by simp)).weaken (fun g _ hg => by have hg' : g < w.heap.size := hg; omega)) ((k0.block _ (heap_lt h.br) (by simp)).trans h.br) h.hce (kc h.p0) (kc h.p1) (fun W k => h.l0 W (k0.trans k)) (fun W k => h.l1 W (k0.trans k)) (fun e => kc (h.p2 e)) (fun e W k => h.l2 e W (k0.trans k)) hI hcnt (fun j _ => rfl) hsz (h.tab.kept k0 (by simp)) ?_).mono ?_
  · have := h.tab
    unfold Tab Lib.TabIs World.var? at this
    have hg : Tryf.prog.globalNamed "internal/strconv.uint64pow10" = some 2 := by kernel_rfl
    rw [hg] at this
    simp only [Option.bind_some] at this
    intro e
    rw [e, Array.getElem?_eq_none (Nat.le_refl _)] at this
    cases this
  · rintro e w' ⟨rfl, F', ⟨A, m, h1, h2, _, _, _⟩, hk⟩
    exact ⟨rfl, A, m, h1, h2, (k0.weaken (by simp)).trans hk |>.weaken (fun x hx => .inr (by simp at hx; omega))⟩
end Go.Proofs.YtnnedmjkhjgbcaaFmt
