/-
  n010_145: FnAdvanceLitHdocStopsAtItsWord: the law.
-/
import Derived.Test.YtejlgdiepjiodaaFmtQr2
namespace Go.Proofs.YtejlgdiepjiodaaFmt
open Go.RowKit

theorem zz_word {w : World} {b st x : ByteArray} {ea : Addr} {t : Int} (hs : b.size + st.size + x.size ≤ 1048576) (h1 : allZ b = true) (h2 : allZ st = true) (g2 : hbz b 36 = false) (g3 : hbz b 96 = false) (g4 : hbz st 36 = false) (g5 : hbz st 96 = false) (g6 : hbz st 10 = false) (hl : b.data.toList = [] ∨ b.data.toList.getLast? = some 10) (gs : slz b st = false) (ht : t = if b.data.toList = [] then 2 else 4) (hg : w.cell? ⟨0, 0, none⟩ = some (EOFv ea)) :
    Calls Tryf.prog 21 #[.string (b ++ st ++ ⟨#[10]⟩ ++ x), .string st] w fun e w' => e = .returned (.tuple #[.int .u32 t, .string b, .int .i32 10, .bool true]) ∧ Kept [] w w' := by
  have hb : ∀ y ∈ b.data.toList, plainH y := fun y hy => ⟨allH_plain h1 y hy, hbz_no g2 y hy, hbz_no g3 y hy⟩
  have hst : ∀ y ∈ st.data.toList, plainH y ∧ y ≠ 10 := fun y hy => ⟨⟨allH_plain h2 y hy, hbz_no g4 y hy, hbz_no g5 y hy⟩, hbz_no g6 y hy⟩
  obtain ⟨k1, k2⟩ := hd_law (x := x.data.toList) hb hst gs hl
  have hsz : (b ++ st ++ ⟨#[10]⟩ ++ x).size < 10000000 := by
    have e : ∀ c : ByteArray, c.size = c.data.toList.length := fun _ => rfl
    rw [e, cat_x]
    simp
    have := e b; have := e st; have := e x
    simp at *
    omega
  have := zz_hdr (s := b ++ st ++ ⟨#[10]⟩ ++ x) (st := st) (by rw [cat_x]; exact k2) hsz hg
  rw [cat_x, k1] at this
  rw [ht]
  exact this

theorem law_FnAdvanceLitHdocStopsAtItsWord (w : World) (b st x y : ByteArray) (ea : Addr) (h1 : b.size ≤ 9223372036854775807) (h2 : st.size ≤ 9223372036854775807) (h3 : x.size ≤ 9223372036854775807) (h4 : y.size ≤ 9223372036854775807) (hg : w.cell? ⟨0, 0, none⟩ = some (EOFv ea)) : Calls Tryf.prog 8 #[.string b, .string st, .string x, .string y] w fun e w' => e = .returned (.bool true) ∧ Kept [] w w' := by
  cases h : (acc 0 [b.size, st.size, x.size, y.size]).isSome with
  | false => exact skip1_hs w b st x y h1 h2 h3 h4 h
  | true =>
  cases g0 : allZ b with
  | false => exact skip2_hs w b st x y h g0
  | true =>
  cases g1 : allZ st with
  | false => exact skip3_hs w b st x y h g0 g1
  | true =>
  cases g2 : hbz b 36 with
  | true => exact skip4_hs w b st x y h g0 g1 g2
  | false =>
  cases g3 : hbz b 96 with
  | true => exact skip5_hs w b st x y h g0 g1 g2 g3
  | false =>
  cases g4 : hbz st 36 with
  | true => exact skip6_hs w b st x y h g0 g1 g2 g3 g4
  | false =>
  cases g5 : hbz st 96 with
  | true => exact skip7_hs w b st x y h g0 g1 g2 g3 g4 g5
  | false =>
  cases g6 : hbz st 10 with
  | true => exact skip8_hs w b st x y h g0 g1 g2 g3 g4 g5 g6
  | false =>
  obtain ⟨s1, s2, s3, s4, s5⟩ := acc_four h
  have elen : b.data.toList.length = b.size := rfl
  have up : ∀ w1, Kept [] w w1 → w1.cell? ⟨0, 0, none⟩ = some (EOFv ea) := fun w1 k => (k.cell (p := ⟨0, 0, none⟩) (block_lt_of_cell hg) (by simp)).trans hg
  by_cases hz : b.size = 0
  · have hnil : b.data.toList = [] := List.eq_nil_of_length_eq_zero (by omega)
    cases gs : slz b st with
    | true => exact skip11_hs w b st x y h g0 g1 g2 g3 g4 g5 g6 hz gs
    | false =>
      refine ok0_hs w b st x y h g0 g1 g2 g3 g4 g5 g6 hz gs (by rw [toList_eq, hnil]; rfl) (zz_word (by omega) g0 g1 g2 g3 g4 g5 g6 (.inl hnil) gs (by rw [if_pos hnil]) hg) (fun w1 k => zz_word (by omega) g0 g1 g2 g3 g4 g5 g6 (.inl hnil) gs (by rw [if_pos hnil]) (up w1 k))
  · obtain ⟨m, hm⟩ : ∃ m, b.size = m + 1 := ⟨b.size - 1, by omega⟩
    have hlt : m < b.size := by omega
    have hne : b.data.toList ≠ [] := fun e => hz (by rw [← elen, e]; rfl)
    by_cases hl : (((b[m]).toNat : Int)) = 10
    · have hl2 : b.data.toList.getLast? = some 10 := by
        rw [List.getLast?_eq_getElem?, elen, hm, Nat.add_sub_cancel, str_at2 hlt]
        congr 1
        exact UInt8.toNat_inj.1 (by show b[m].toNat = 10; omega)
      cases gs : slz b st with
      | true => exact skip10_hs w b st x y h g0 g1 g2 g3 g4 g5 g6 hm hlt hl gs
      | false =>
        refine ok1_hs w b st x y h g0 g1 g2 g3 g4 g5 g6 hm hlt hl gs ?_ (zz_word (by omega) g0 g1 g2 g3 g4 g5 g6 (.inr hl2) gs (by rw [if_neg hne]) hg) (fun w1 k => zz_word (by omega) g0 g1 g2 g3 g4 g5 g6 (.inr hl2) gs (by rw [if_neg hne]) (up w1 k))
        rw [toList_eq]
        cases hd : b.data.toList with
        | nil => exact absurd hd hne
        | cons => rfl
    · exact skip9_hs w b st x y h g0 g1 g2 g3 g4 g5 g6 hm hlt hl
end Go.Proofs.YtejlgdiepjiodaaFmt
