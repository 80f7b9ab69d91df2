/-
  isLitRedir on ASCII bytes.
-/
import Derived.Test.YtejlgdiepjiodaaFmtQv
import Derived.BigQuiet
namespace Go.Proofs.YtejlgdiepjiodaaFmt
open Go.RowKit

theorem srcB_kept {w w' : World} {A : Option Addr} {n : Nat} {l : List UInt8} (h : SrcB w A n l) (k : Kept [] w w') : SrcB w' A n l := by
  obtain ⟨h1, h2⟩ := h
  refine ⟨h1, fun h0 => ?_⟩
  obtain ⟨g, o, e, hg, hc⟩ := h2 h0
  exact ⟨g, o, e, Nat.lt_of_lt_of_le hg k.size, fun j y hj => (k.cell (p := ⟨g, o + j, none⟩) hg (by simp)).trans (hc j y hj)⟩

theorem last_at {l : List UInt8} {m : Nat} (h : l.length = m + 1) : l[m]? = l.getLast? := by
  rw [List.getLast?_eq_getElem?, h, Nat.add_sub_cancel]

set_option maxRecDepth 100000 in
set_option maxHeartbeats 1600000 in
theorem litredir {w : World} {pb g o cc m : Nat} {L : List UInt8} {a0 : UInt8} (c2087 : w.cell? ⟨pb, 2087, none⟩ = some (.slice (some ⟨g, o, none⟩) (m + 2) cc)) (hcc : m + 2 ≤ cc) (c20 : w.cell? ⟨pb, 20, none⟩ = some (.int .i64 2))
    (hcell : ∀ j y, L[j]? = some y → w.cell? ⟨g, o + j, none⟩ = some (By y)) (hL : L.length = m + 1) (h0 : L[0]? = some a0) (hm : m + 1 ≤ 1000000000) (hu : ∀ y ∈ L, y.toNat < 128) (F : Bool) (hF : F = litR L) :
    Calls Tryf.prog 45 #[.pointer (some ⟨pb, 0, none⟩)] w fun e w' => e = .returned (.bool F) ∧ Kept [] w w' := by
  have hgl : g < w.heap.size := block_lt_of_cell (hcell 0 a0 h0)
  have d0 := hcell 0 a0 h0
  rw [Nat.add_zero] at d0
  unfold By at d0
  have hh : L.head? = some a0 := by rw [List.head?_eq_getElem?]; exact h0
  obtain ⟨z, hz⟩ : ∃ z, L[m]? = some z := ⟨_, List.getElem?_eq_getElem (by omega)⟩
  have dz := hcell m z hz
  unfold By at dz
  have hlast : L.getLast? = some z := by rw [← last_at hL]; exact hz
  have hsrc : SrcB w (some ⟨g, o, none⟩) (m + 1) L := ⟨hL, fun _ => ⟨g, o, rfl, hgl, hcell⟩⟩
  by_cases hb : a0 = 123 ∧ z = 125
  · obtain ⟨rfl, rfl⟩ := hb
    have hm1 : 1 ≤ m := by
      cases m with
      | zero => rw [h0] at hz; cases hz
      | succ m => omega
    have hnl : ((L.drop 1).dropLast).length = m - 1 := by simp; omega
    have hsrc2 : SrcB w (some ⟨g, o + 1, none⟩) (m - 1) ((L.drop 1).dropLast) := by
      refine ⟨hnl, fun _ => ⟨g, o + 1, rfl, hgl, fun j y hj => ?_⟩⟩
      rw [Nat.add_assoc]
      refine hcell (1 + j) y ?_
      rw [List.dropLast_eq_take, List.getElem?_take] at hj
      split at hj
      · rw [List.getElem?_drop] at hj; exact hj
      · cases hj
    have hcv := fun k => conv_src (c := cc - 1) (srcB_kept hsrc2 ((Kept.refl [] w).drewN k))
    obtain ⟨S, hS⟩ : ∃ S : ByteArray, S = ⟨((L.drop 1).dropLast).toArray⟩ := ⟨_, rfl⟩
    have hSl : S.data.toList = (L.drop 1).dropLast := by rw [hS]
    simp only [← hS] at hcv
    have HV := Lib.hid (fun w => validname w S (by have e : S.size = S.data.toList.length := rfl; rw [e, hSl, hnl]; omega) (fun y hy => hu y (by rw [hSl] at hy; exact List.mem_of_mem_drop ((List.dropLast_sublist _).subset hy))) F (by rw [hF, litR, if_pos ⟨hh, hlast⟩, hSl]))
    have gm : ((m : Int) + 1 - 1) = m := by omega
    clear hF hu hcell h0 hz hh hlast hsrc hsrc2 hS hSl hnl hL
    go_enter Tryf.func45, Tryf.ntmps45
    go_wp2_with fail
    go_quiet (fail)
    go_wp2_with (first
      | (go_at_call 44; refine (in_9 _).mono ?_; rintro e w' ⟨rfl, rfl⟩)
      | (go_at_call 56; refine (HV.out _).mono ?_; rintro e w' ⟨rfl, hk⟩; have HK := Lib.hid hk; clear hk))
    go_ret
    exact ⟨rfl, ((Kept.refl _ _).drewN _).trans HK.out⟩
  · have HN := Lib.hid (fun (w' : World) (k : Kept [] w w') => number (c := cc) w' (A := some ⟨g, o, none⟩) (n := m + 1) (l := L) ⟨hL, fun _ => ⟨g, o, rfl, Nat.lt_of_lt_of_le hgl k.size, fun j y hj => (k.cell (p := ⟨g, o + j, none⟩) hgl (by simp)).trans (hcell j y hj)⟩⟩ (by omega) hu F (by rw [hF, litR, if_neg (by rw [hh, hlast]; simpa using hb)]))
    have HK0 : ∀ k, Hid (Kept [] w (w.drewN k)) := fun k => Lib.hid ((Kept.refl _ _).drewN _)
    by_cases ha : a0 = 123
    · subst ha
      have gz : ((z.toNat : Int) == 125) = false := by
        have : ¬ z.toNat = 125 := fun e => hb ⟨rfl, UInt8.toNat_inj.1 e⟩
        simp; omega
      clear hF hu hcell h0 hz hh hlast hsrc hL hb
      go_enter Tryf.func45, Tryf.ntmps45
      go_wp2_with fail
      go_quiet (fail)
      go_wp2_with (go_at_call 57; refine (HN.out _ (HK0 _).out).mono ?_; rintro e w' ⟨rfl, hk⟩; have HK := Lib.hid hk; clear hk)
      go_ret
      exact ⟨rfl, ((Kept.refl _ _).drewN _).trans HK.out⟩
    · have g0 : ((a0.toNat : Int) == 123) = false := by
        have : ¬ a0.toNat = 123 := fun e => ha (UInt8.toNat_inj.1 e)
        simp; omega
      clear hF hu hcell h0 hz hh hlast hsrc hL hb ha
      go_enter Tryf.func45, Tryf.ntmps45
      go_wp2_with fail
      go_quiet (fail)
      go_wp2_with (go_at_call 57; refine (HN.out _ (HK0 _).out).mono ?_; rintro e w' ⟨rfl, hk⟩; have HK := Lib.hid hk; clear hk)
      go_ret
      exact ⟨rfl, ((Kept.refl _ _).drewN _).trans HK.out⟩
end Go.Proofs.YtejlgdiepjiodaaFmt
