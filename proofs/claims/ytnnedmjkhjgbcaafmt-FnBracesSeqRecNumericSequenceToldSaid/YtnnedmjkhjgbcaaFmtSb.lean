/-
  zzItoa: the decimal numeral of an int64.
-/
import Derived.Test.YtnnedmjkhjgbcaaFmtSa
import Derived.Test.YtnnedmjkhjgbcaaFmtHI
import Derived.IntWalk
namespace Go.Proofs.YtnnedmjkhjgbcaaFmt
open Go.RowKit Go.Lib

/-- The digits so far lie at the buffer's end. -/
def Buf (w wr : World) (u0 t k : Nat) : Prop := ∃ (L : List Value) (tl : List UInt8), wr.heap[w.heap.size]? = some (.cells L.toArray 44 (0, 0)) ∧ L.length = 24 ∧ L.drop k = Bys tl ∧ dd t ++ tl = dd u0 ∧ t < 10 ^ (k - 4) ∧ 4 ≤ k ∧ k ≤ 24 ∧ Kept [] w wr
theorem buf_set {w wr : World} {L : List Value} {T : TypeId} {k : Nat} {tl : List UInt8} {c : UInt8} (h : wr.heap[w.heap.size]? = some (.cells L.toArray T (0, 0))) (hl : k < L.length) (hd : L.drop (k + 1) = Bys tl) (hk : Kept [] w wr) :
    (wr.setCell ⟨w.heap.size, k, none⟩ (.int .u8 (c.toNat : Nat))).heap[w.heap.size]? = some (.cells (L.set k (.int .u8 (c.toNat : Nat))).toArray T (0, 0)) ∧ (L.set k (.int .u8 (c.toNat : Nat))).length = L.length ∧ (L.set k (.int .u8 (c.toNat : Nat))).drop k = Bys (c :: tl) ∧ Kept [] w (wr.setCell ⟨w.heap.size, k, none⟩ (.int .u8 (c.toNat : Nat))) := by
  refine ⟨row_set h k _, by simp, ?_, ?_⟩
  · rw [List.drop_eq_getElem_cons (by simpa using hl), List.getElem_set_self, List.drop_set_of_lt (by omega), hd]
    rfl
  · exact ((hk.weaken (S' := [w.heap.size]) (by simp)).setCell (by simp) _).weaken (fun x hx => .inr (by simp at hx; omega))
theorem buf_step {w wr : World} {u0 t k q r : Nat} (h : Buf w wr u0 t (k + 1)) (ht : 0 < t) (hq : t / 10 = q) (hr : t % 10 = r) : Buf w (wr.setCell ⟨w.heap.size, k, none⟩ (.int .u8 (48 + (r : Int)))) u0 q k := by
  obtain ⟨L, tl, h1, h2, h3, h4, h5, h6, h7, h8⟩ := h
  have hr10 : r < 10 := by omega
  have ec : (48 + (r : Int)) = (((UInt8.ofNat (48 + r)).toNat : Nat) : Int) := by rw [dgt hr10]; omega
  rw [ec]
  obtain ⟨g1, g2, g3, g4⟩ := buf_set (c := UInt8.ofNat (48 + r)) h1 (by omega) h3 h8
  have hk4 : 4 ≤ k := by
    rcases Nat.lt_or_ge k 4 with h | h
    · rw [show k + 1 - 4 = 0 by omega] at h5; omega
    · exact h
  refine ⟨_, _, g1, by rw [g2, h2], g3, ?_, ?_, hk4, by omega, g4⟩
  · rw [← h4, dd_step ht, hq, hr]; simp
  · rw [show k + 1 - 4 = (k - 4) + 1 by omega, Nat.pow_succ] at h5
    omega
theorem buf_conv {w wr : World} {L : List Value} {T : TypeId} {k : Nat} {tl : List UInt8} (h : wr.heap[w.heap.size]? = some (.cells L.toArray T (0, 0))) (hd : L.drop k = Bys tl) (hl : L.length = 24) : (convert 45 9 (.slice (some ⟨w.heap.size, k, none⟩) (24 - k) (24 - k))).run Tryf.prog wr = .ok (.string ⟨tl.toArray⟩) wr := by
  have hu : Tryf.prog.underlying 9 = some .string := by kernel_rfl
  have h8 : Tryf.prog.underlying 5 = some (.int .u8) := by kernel_rfl
  have hs : Tryf.prog.underlying 45 = some (.slice 5) := by kernel_rfl
  have hlen : tl.length = 24 - k := by
    have := congrArg List.length hd
    rw [List.length_drop, hl] at this
    simp [Bys] at this
    omega
  rw [← hlen]
  refine run_convert_bytes_back (P := Tryf.prog) wr 45 9 5 ⟨w.heap.size, k, none⟩ _ tl hs h8 hu ?_
  intro j hj
  rw [addr_add]
  show wr.cell? ⟨w.heap.size, k + j, none⟩ = _
  rw [row_cell h]
  have := congrArg (fun l => l[j]?) hd
  simp only [List.getElem?_drop] at this
  rw [this]
  simp [Bys, By, List.getElem?_eq_getElem hj]

theorem u8_size (w : World) : (sizeOf (Tryf.prog.elem 44)).run Tryf.prog w = .ok 1 w := by kernel_rfl
theorem sl24 (b k : Nat) (hk : k < 24) (w' : World) : (Instr.sliceAt 44 (.pointer (some ⟨b, 0, none⟩)) (some (.int .i64 k)) none none).run Tryf.prog w' = .ok (.slice (some ⟨b, k, none⟩) (24 - k) (24 - k)) w' := by
  have h24 : Tryf.prog.arrayLen 44 = 24 := by kernel_rfl
  rw [run_sliceAt_array_l w' _ _ (by kernel_rfl) .i64 k (by omega) (by rw [h24]; omega), u8_size, h24]
  show Result.ok _ _ = _
  unfold slicedAt
  rw [if_neg (by omega), addr_add]
  simp

theorem buf_start (w : World) {u0 : Nat} (h : u0 < 18446744073709551616) : Buf w (w.alloc (.cells #[.int .u8 0, .int .u8 0, .int .u8 0, .int .u8 0, .int .u8 0, .int .u8 0, .int .u8 0, .int .u8 0, .int .u8 0, .int .u8 0, .int .u8 0, .int .u8 0, .int .u8 0, .int .u8 0, .int .u8 0, .int .u8 0, .int .u8 0, .int .u8 0, .int .u8 0, .int .u8 0, .int .u8 0, .int .u8 0, .int .u8 0, .int .u8 0] 44)) u0 u0 24 :=
  ⟨[.int .u8 0, .int .u8 0, .int .u8 0, .int .u8 0, .int .u8 0, .int .u8 0, .int .u8 0, .int .u8 0, .int .u8 0, .int .u8 0, .int .u8 0, .int .u8 0, .int .u8 0, .int .u8 0, .int .u8 0, .int .u8 0, .int .u8 0, .int .u8 0, .int .u8 0, .int .u8 0, .int .u8 0, .int .u8 0, .int .u8 0, .int .u8 0], [], heap_alloc_new w _, rfl, rfl, by simp, by omega, by omega, by omega, (Kept.refl _ _).alloc _⟩

set_option maxRecDepth 100000 in
set_option maxHeartbeats 1600000 in
theorem itoa_neg {w : World} {v : Int} (h : v < 0) (h1 : -9223372036854775808 ≤ v) :
    Calls Tryf.prog 7 #[.int .i64 v] w fun e w' => e = .returned (.string (sItoa v)) ∧ Kept [] w w' := by
  obtain ⟨u0, hu0⟩ : ∃ u : Nat, v = -(u : Int) := ⟨v.natAbs, by omega⟩
  subst hu0
  have hu1 : 0 < u0 := by omega
  have hu2 : u0 ≤ 9223372036854775808 := by omega
  have hw : IntKind.u64.wrap (-IntKind.u64.wrap (-(u0 : Int))) = (u0 : Int) := by simp [IntKind.wrap, IntKind.signed, IntKind.bits]; omega
  have hs : sItoa (-(u0 : Int)) = ⟨(45 :: decDigits u0).toArray⟩ := by
    unfold sItoa itoa
    rw [if_pos (by omega)]
    simp
  rw [hs]
  have HS := Lib.hid hs
  have hst := Lib.hid (buf_start w (u0 := u0) (by omega))
  clear hs
  go_enter Tryf.func7, Tryf.ntmps7
  go_wp2_with fail
  go_loopw [4, 6] (fun u i wr => ∃ t k : Nat, i = .int .i64 k ∧ u = .int .u64 t ∧ t ≤ 9223372036854775808 ∧ 4 ≤ k ∧ k ≤ 24 ∧ Hid (Buf w wr u0 t k)) (fun u _ _ => (intOf u).toNat)
  case atStart => exact ⟨u0, 24, rfl, by first | rfl | rw [hw], by omega, by omega, by omega, hst⟩
  case round =>
    obtain ⟨t, k, hi, rfl, ht, hk4, hk24, HB⟩ := hrel
    by_cases h0 : 0 < t
    · obtain ⟨L, tl, g1, g2, g3, g4, g5, g6, g7, g8⟩ := HB.out
      obtain ⟨kk, hkk⟩ : ∃ kk, k = kk + 1 := ⟨k - 1, by omega⟩
      subst hkk
      subst hi
      obtain ⟨x, hx⟩ : ∃ x, L[kk]? = some x := ⟨_, List.getElem?_eq_getElem (by omega)⟩
      have hc := (row_cell g1 kk).trans hx
      have hfz := row_free g1 kk
      obtain ⟨q, hq⟩ : ∃ q, t / 10 = q := ⟨_, rfl⟩
      obtain ⟨r, hr⟩ : ∃ r, t % 10 = r := ⟨_, rfl⟩
      have hb := Lib.hid (buf_step HB.out h0 hq hr)
      have hkk4 : 4 ≤ kk := hb.out.choose_spec.choose_spec.2.2.2.2.2.1
      have r10 : r < 10 := by omega
      have d1 : (t : Int) / 10 = q := by omega
      have d2 : (t : Int).tdiv 10 = q := by rw [Int.tdiv_eq_ediv_of_nonneg (by omega)]; omega
      have d3 : (t : Int) % 10 = r := by omega
      have d4 : (t : Int).tmod 10 = r := by rw [Int.tmod_eq_emod_of_nonneg (by omega)]; omega
      have hqt : q < t := by omega
      rw [show ((kk + 1 : Nat) : Int) = (kk : Int) + 1 from by omega]
      clear g1 g2 g3 g4 g5 g6 g7 g8 hx hq hr
      go_wp2_with fail
      go_roundw
      case rel => exact ⟨q, kk, by go_num, by go_num, by omega, by omega, by omega, hb⟩
      case measure => simp [intOf]; omega
    · obtain rfl : t = 0 := by omega
      obtain ⟨L, tl, h1', h2', h3', h4', h5', h6', h7', h8'⟩ := HB.out
      have e4 : tl = decDigits u0 := by rw [← dd_dec hu1, ← h4']; rfl
      subst e4
      subst hi
      clear h4' h5' HB
      have hfz := row_free h1' (k - 1)
      obtain ⟨kk, hkk⟩ : ∃ kk, k = kk + 1 := ⟨k - 1, by omega⟩
      subst hkk
      obtain ⟨x, hx⟩ : ∃ x, L[kk]? = some x := ⟨_, List.getElem?_eq_getElem (by omega)⟩
      have hc := (row_cell h1' kk).trans hx
      obtain ⟨g1, g2, g3, g4⟩ := buf_set (c := 45) h1' (by omega) h3' h8'
      have e45 : (((45 : UInt8).toNat : Nat) : Int) = 45 := rfl
      have hcv := buf_conv g1 g3 (by rw [g2, h2'])
      rw [e45] at hcv g4
      have G4 := Lib.hid g4
      have ei : ((kk + 1 : Nat) : Int) = (kk : Int) + 1 := by omega
      rw [ei]
      have hk24 : kk < 24 := by omega
      rw [show kk + 1 - 1 = kk by omega] at hfz
      have hsl := sl24 w.heap.size kk hk24
      clear h1' h2' h3' h7' h8' hx g1 g2 g3 g4 ei e45
      go_wp2_with fail
      go_ret
      exact ⟨rfl, G4.out⟩

set_option maxRecDepth 100000 in
set_option maxHeartbeats 1600000 in
theorem itoa_pos {w : World} {v : Int} (h : 0 < v) (h1 : v ≤ 9223372036854775807) :
    Calls Tryf.prog 7 #[.int .i64 v] w fun e w' => e = .returned (.string (sItoa v)) ∧ Kept [] w w' := by
  obtain ⟨u0, rfl⟩ : ∃ u : Nat, v = (u : Int) := ⟨v.toNat, by omega⟩
  have hu1 : 0 < u0 := by omega
  have hs : sItoa (u0 : Int) = ⟨(decDigits u0).toArray⟩ := by
    unfold sItoa itoa
    rw [if_neg (by omega)]
    simp
  rw [hs]
  have HS := Lib.hid hs
  have hst := Lib.hid (buf_start w (u0 := u0) (by omega))
  clear hs
  go_enter Tryf.func7, Tryf.ntmps7
  go_wp2_with fail
  go_loopw [4, 6] (fun u i wr => ∃ t k : Nat, i = .int .i64 k ∧ u = .int .u64 t ∧ t ≤ 9223372036854775808 ∧ 4 ≤ k ∧ k ≤ 24 ∧ Hid (Buf w wr u0 t k)) (fun u _ _ => (intOf u).toNat)
  case atStart => exact ⟨u0, 24, rfl, rfl, by omega, by omega, by omega, hst⟩
  case round =>
    obtain ⟨t, k, hi, rfl, ht, hk4, hk24, HB⟩ := hrel
    by_cases h0 : 0 < t
    · obtain ⟨L, tl, g1, g2, g3, g4, g5, g6, g7, g8⟩ := HB.out
      obtain ⟨kk, hkk⟩ : ∃ kk, k = kk + 1 := ⟨k - 1, by omega⟩
      subst hkk
      subst hi
      obtain ⟨x, hx⟩ : ∃ x, L[kk]? = some x := ⟨_, List.getElem?_eq_getElem (by omega)⟩
      have hc := (row_cell g1 kk).trans hx
      have hfz := row_free g1 kk
      obtain ⟨q, hq⟩ : ∃ q, t / 10 = q := ⟨_, rfl⟩
      obtain ⟨r, hr⟩ : ∃ r, t % 10 = r := ⟨_, rfl⟩
      have hb := Lib.hid (buf_step HB.out h0 hq hr)
      have hkk4 : 4 ≤ kk := hb.out.choose_spec.choose_spec.2.2.2.2.2.1
      have r10 : r < 10 := by omega
      have d1 : (t : Int) / 10 = q := by omega
      have d2 : (t : Int).tdiv 10 = q := by rw [Int.tdiv_eq_ediv_of_nonneg (by omega)]; omega
      have d3 : (t : Int) % 10 = r := by omega
      have d4 : (t : Int).tmod 10 = r := by rw [Int.tmod_eq_emod_of_nonneg (by omega)]; omega
      have hqt : q < t := by omega
      rw [show ((kk + 1 : Nat) : Int) = (kk : Int) + 1 from by omega]
      clear g1 g2 g3 g4 g5 g6 g7 g8 hx hq hr
      go_wp2_with fail
      go_roundw
      case rel => exact ⟨q, kk, by go_num, by go_num, by omega, by omega, by omega, hb⟩
      case measure => simp [intOf]; omega
    · obtain rfl : t = 0 := by omega
      obtain ⟨L, tl, h1', h2', h3', h4', h5', h6', h7', h8'⟩ := HB.out
      have e4 : tl = decDigits u0 := by rw [← dd_dec hu1, ← h4']; rfl
      subst e4
      subst hi
      clear h4' h5' HB
      have hcv := buf_conv h1' h3' h2'
      have G4 := Lib.hid h8'
      have hk24 : k < 24 := by
        rcases Nat.lt_or_ge k 24 with h | h
        · exact h
        · rw [List.drop_of_length_le (by omega)] at h3'
          exfalso
          have : decDigits u0 = [] := by
            have := congrArg List.length h3'
            simp [Bys] at this
            exact List.eq_nil_of_length_eq_zero this.symm
          obtain ⟨c, r, e, _⟩ := dec_head u0
          rw [e] at this
          cases this
      have hsl := sl24 w.heap.size k hk24
      clear h1' h2' h3' h7' h8'
      go_wp2_with fail
      go_ret
      exact ⟨rfl, G4.out⟩

theorem itoa_zero (w : World) : Calls Tryf.prog 7 #[.int .i64 0] w fun e w' => e = .returned (.string (sItoa 0)) ∧ Kept [] w w' := by
  have hs : sItoa 0 = ⟨#[48]⟩ := by unfold sItoa itoa; rw [if_neg (by omega), decDigits, dif_pos (by simp)]; rfl
  rw [hs]
  clear hs
  go_enter Tryf.func7, Tryf.ntmps7
  go_wp2_with fail
  go_ret
  exact ⟨rfl, Kept.refl _ _⟩
theorem itoa_any (w : World) (v : Int) (h1 : -9223372036854775808 ≤ v) (h2 : v ≤ 9223372036854775807) : Calls Tryf.prog 7 #[.int .i64 v] w fun e w' => e = .returned (.string (sItoa v)) ∧ Kept [] w w' := by
  rcases Int.lt_trichotomy v 0 with h | h | h
  · exact itoa_neg h h1
  · subst h; exact itoa_zero w
  · exact itoa_pos h h2
end Go.Proofs.YtnnedmjkhjgbcaaFmt
