/-
  n010_113: small writes that stay in the writer, Reset, and the concatenation.
-/
import Derived.Test.YtmoglhggnodkoaaDoorColA
namespace Go.Proofs.YtmoglhggnodkoaaDoor
open Go.RowKit

set_option maxRecDepth 100000 in
set_option maxHeartbeats 800000 in
theorem colwrite_gen {w : World} {wb rb b : Nat} {col : Int} {ls : Bool} {row : Option Nat} {bs pend : List UInt8} (h : Sk w wb rb b col ls row bs pend) (sg so n c : Nat) (p : List UInt8) (hpl : p.length = n) (hsg : 0 < n → sg < w.heap.size) (hp : ∀ j x, p[j]? = some x → w.cell? ⟨sg, so + j, none⟩ = some (By x))
    (hA : sg ∉ wb :: rb :: b :: row.toList) (hnc : n ≤ c) (hlim : n ≤ 100000000000) (hc1 : 0 ≤ col) (hc2 : col ≤ 100000000000) (Q : World → Prop)
    (hq : ∀ w1, Sk w1 wb rb b (foldC col ls p).1 (foldC col ls p).2 row bs pend → Kept [b] w w1 → Calls Tryd.prog 36 #[.pointer (some ⟨wb, 0, none⟩), .slice (some ⟨sg, so, none⟩) n c] w1 fun e w' => e = .returned (.tuple #[.int .i64 n, .nilIface]) ∧ Q w') :
    Calls Tryd.prog 31 #[.pointer (some ⟨b, 0, none⟩), .slice (some ⟨sg, so, none⟩) n c] w fun e w' => e = .returned (.tuple #[.int .i64 n, .nilIface]) ∧ Q w' := by
  have HQ := Lib.hid hq; clear hq
  have hst : Hid (Sk w wb rb b (foldC col ls (p.take 0)).1 (foldC col ls (p.take 0)).2 row bs pend ∧ Kept [b] w w) := ⟨h, Kept.refl _ _⟩
  have HPL := Lib.hid hpl; have HSG := Lib.hid hsg; have HA := Lib.hid hA; have HP := Lib.hid hp
  clear h hpl hsg hA hp
  go_enter Tryd.func31, Tryd.ntmps31
  go_wp2_with fail
  go_loopw [10] (fun i wr => ∃ k : Nat, k ≤ n ∧ i = .int .i64 k ∧ Hid (Sk wr wb rb b (foldC col ls (p.take k)).1 (foldC col ls (p.take k)).2 row bs pend ∧ Kept [b] w wr)) (fun i _ => n - (intOf i).toNat)
  case atStart => exact ⟨0, Nat.zero_le _, rfl, hst⟩
  case round =>
    obtain ⟨k, hk, rfl, hrel⟩ := hrel
    clear hst
    by_cases hlt : k < n
    · obtain ⟨x, hx⟩ : ∃ x, p[k]? = some x := ⟨p[k]'(by have := HPL.out; omega), List.getElem?_eq_getElem _⟩
      have hsb : sg ≠ b := by intro e; apply HA.out; simp [e]
      have hcs : wr.cell? ⟨sg, so + k, none⟩ = some (.int .u8 x.toNat) := (hrel.out.2.cell (p := ⟨sg, so + k, none⟩) (HSG.out (by omega)) (by simp; exact hsb)).trans (HP.out k x hx)
      have hb := foldC_bound (p.take k) col ls hc1
      have hbl : (p.take k).length ≤ k := by simp; omega
      have hcon := addbyte hrel.out.1 x (by omega) (by omega)
      rw [← show foldC col ls (p.take (k + 1)) = stepC ((foldC col ls (p.take k)).1, (foldC col ls (p.take k)).2) x by rw [take_snoc hx, foldC_snoc]] at hcon
      have HCON := Lib.hid hcon; have HK := Lib.hid hrel.out.2
      clear hcon hrel hb hbl hx
      go_wp2_with fail
      refine HCON.out.mono ?_
      rintro e w' ⟨rfl, h1, h2⟩
      have HR : Hid (Sk w' wb rb b (foldC col ls (p.take (k + 1))).1 (foldC col ls (p.take (k + 1))).2 row bs pend ∧ Kept [b] w w') := ⟨h1, HK.out.trans h2⟩
      clear h1 h2 HCON
      go_wp2_with fail
      go_roundw
      case rel => exact ⟨k + 1, by omega, by go_num, HR⟩
      case measure => simp [intOf]; omega
    · have hkn : k = n := by omega
      subst hkn
      have h1 := hrel.out.1
      rw [List.take_of_length_le (by have := HPL.out; omega)] at h1
      have hc0 := sk_c0 h1
      have hk1 := hrel.out.2
      have hcon := HQ.out _ h1 hk1
      have HCON := Lib.hid hcon; have HK := Lib.hid hk1
      clear hcon h1 hk1 hrel
      go_wp2_with fail
      refine HCON.out.mono ?_
      rintro e w' ⟨rfl, h2⟩
      have HR := Lib.hid h2; clear h2 HCON HQ
      go_wp2_with fail
      go_ret2
      exact ⟨rfl, HR.out⟩

set_option maxRecDepth 100000 in
set_option maxHeartbeats 800000 in
theorem colwriteString_gen {w : World} {wb rb b : Nat} {col : Int} {ls : Bool} {row : Option Nat} {bs pend : List UInt8} (h : Sk w wb rb b col ls row bs pend) (s : ByteArray) (n : Nat) (p : List UInt8) (hps : p = s.data.toList) (hpl : p.length = n)
    (hlim : n ≤ 100000000000) (hc1 : 0 ≤ col) (hc2 : col ≤ 100000000000) (Q : World → Prop)
    (hq : ∀ w1, Sk w1 wb rb b (foldC col ls p).1 (foldC col ls p).2 row bs pend → Kept [b] w w1 → Calls Tryd.prog 35 #[.pointer (some ⟨wb, 0, none⟩), .string s] w1 fun e w' => e = .returned (.tuple #[.int .i64 n, .nilIface]) ∧ Q w') :
    Calls Tryd.prog 26 #[.pointer (some ⟨b, 0, none⟩), .string s] w fun e w' => e = .returned (.tuple #[.int .i64 n, .nilIface]) ∧ Q w' := by
  have HQ := Lib.hid hq; clear hq
  have hss : s.size = n := by rw [← hpl, hps]; rfl
  have HPS := Lib.hid hps; have HPL := Lib.hid hpl; have H := Lib.hid h
  have hsn1 : s.size ≤ n := by omega
  have hsn2 : n ≤ s.size := by omega
  have HSS := Lib.hid hss
  clear h hps hpl hss
  go_enter Tryd.func26, Tryd.ntmps26
  go_wp2_with (refine wpList_bytesN rfl (.tmp 8) rfl s rfl ?_; intro cap w1 hs1 hcap1 hk1 hz1; have HS1 := Lib.hid hs1; have HK1 := Lib.hid hk1; have HZ1 := Lib.hid hz1; clear hs1 hk1 hz1)
  have hst0 : Sk w1 wb rb b (foldC col ls (p.take 0)).1 (foldC col ls (p.take 0)).2 row bs pend := H.out.kept HK1.out (by simp) (by simp) (by simp) (by simp)
  have hst : Hid (Sk w1 wb rb b (foldC col ls (p.take 0)).1 (foldC col ls (p.take 0)).2 row bs pend ∧ Kept [b] w1 w1) := ⟨hst0, Kept.refl _ _⟩
  clear hst0
  go_loopw [11] (fun i wr => ∃ k : Nat, k ≤ s.size ∧ i = .int .i64 k ∧ Hid (Sk wr wb rb b (foldC col ls (p.take k)).1 (foldC col ls (p.take k)).2 row bs pend ∧ Kept [b] w1 wr)) (fun i _ => s.size - (intOf i).toNat)
  case atStart => exact ⟨0, Nat.zero_le _, rfl, hst⟩
  case round =>
    obtain ⟨k, hk, rfl, hrel⟩ := hrel
    clear hst
    by_cases hlt : k < s.size
    · obtain ⟨x, hx⟩ : ∃ x, p[k]? = some x := ⟨p[k]'(by have := HPL.out; omega), List.getElem?_eq_getElem _⟩
      have hcs : wr.cell? ⟨w.heap.size, k, none⟩ = some (.int .u8 x.toNat) := by
        obtain ⟨sg, so, had, hgl, hcc⟩ := HS1.out.2 (by omega)
        cases had
        have hbl := H.out.bf.lt
        have h1 := hcc k x (HPS.out ▸ hx)
        rw [Nat.zero_add] at h1
        exact (hrel.out.2.cell (p := ⟨w.heap.size, k, none⟩) hgl (by simp; omega)).trans h1
      have hb := foldC_bound (p.take k) col ls hc1
      have hbl : (p.take k).length ≤ k := by simp; omega
      have hcon := addbyte hrel.out.1 x (by omega) (by omega)
      rw [← show foldC col ls (p.take (k + 1)) = stepC ((foldC col ls (p.take k)).1, (foldC col ls (p.take k)).2) x by rw [take_snoc hx, foldC_snoc]] at hcon
      have HCON := Lib.hid hcon; have HK := Lib.hid hrel.out.2
      clear hcon hrel hb hbl hx
      go_wp2_with fail
      refine HCON.out.mono ?_
      rintro e w' ⟨rfl, h1, h2⟩
      have HR : Hid (Sk w' wb rb b (foldC col ls (p.take (k + 1))).1 (foldC col ls (p.take (k + 1))).2 row bs pend ∧ Kept [b] w1 w') := ⟨h1, HK.out.trans h2⟩
      clear h1 h2 HCON
      go_wp2_with fail
      go_roundw
      case rel => exact ⟨k + 1, by omega, by go_num, HR⟩
      case measure => simp [intOf]; omega
    · have h1 := hrel.out.1
      rw [List.take_of_length_le (by have := HPL.out; omega)] at h1
      have hc0 := sk_c0 h1
      have hk1 := HK1.out.weaken (S' := [b]) (by simp) |>.trans hrel.out.2
      have hcon := HQ.out _ h1 hk1
      have HCON := Lib.hid hcon; have HK := Lib.hid hk1
      clear hcon h1 hk1 hrel
      go_wp2_with fail
      refine HCON.out.mono ?_
      rintro e w' ⟨rfl, h2⟩
      have HR := Lib.hid h2; clear h2 HCON HQ
      go_wp2_with fail
      go_ret2
      exact ⟨rfl, HR.out⟩

set_option maxRecDepth 100000 in
set_option maxHeartbeats 800000 in
theorem bw_write_small {w : World} {wb rb T b q : Nat} {R : Nat → Option Value} {row : Option Nat} {bs pend : List UInt8} (h : St w wb rb T b q R row bs pend) (sg so n c : Nat) (p : List UInt8) (hpl : p.length = n) (hp : ∀ j x, p[j]? = some x → w.cell? ⟨sg, so + j, none⟩ = some (By x))
    (hfit : pend.length + n ≤ 4096) :
    Calls Tryd.prog 36 #[.pointer (some ⟨wb, 0, none⟩), .slice (some ⟨sg, so, none⟩) n c] w fun e w' => e = .returned (.tuple #[.int .i64 n, .nilIface]) ∧ St w' wb rb T b q R row bs (pend ++ p) ∧ Mv wb rb b row row w w' := by
  have hle := h.wr.le
  have q6 := fun w => slice_from rb 0 4096 4096 pend.length hle w
  have H := Lib.hid h; have HPL := Lib.hid hpl; have HP := Lib.hid hp; clear h hpl hp
  go_enter Tryd.func36, Tryd.ntmps36
  go_wp2_with fail
  refine wp_loop_once ?_
  go_wp2_with fail
  refine (avail H.out.wr).mono ?_
  rintro e w1 ⟨rfl, kk, hw1⟩
  have h2 : St w1 wb rb T b q R row bs pend := by rw [hw1]; exact H.out.drewN kk
  have hm2 : Mv wb rb b row row w w1 := by rw [hw1]; exact Mv.of ((Kept.refl _ _).drewN kk)
  have hp2 : ∀ j x, p[j]? = some x → w1.cell? ⟨sg, so + j, none⟩ = some (By x) := by rw [hw1]; exact HP.out
  have c0 := h2.wr.c0; have c1 := h2.wr.c1; have c2 := h2.wr.c2; have f2 := h2.wr.free 2
  obtain ⟨w2, hcp, hk2, hL2⟩ := copy_in h2.drew.wr sg so n c p p HPL.out (by rw [List.take_of_length_le]; have := HPL.out; omega) hp2
  rw [HPL.out] at hcp
  have hlen : (pend ++ p).length = pend.length + n := by rw [List.length_append, HPL.out]
  obtain ⟨h3, hk3, hw3⟩ := h2.drew.push (n := (pend.length : Int) + n) hk2 hL2 (by rw [hlen]; simp) (by omega)
  have d2 := hw3.c2
  have g2 := hw3.free 2
  have H3 := Lib.hid h3; have HK3 := Lib.hid hk3; have HM2 := Lib.hid hm2
  clear h2 hm2 hw1 hp2 h3 hk3 hw3 hk2 hL2 hlen
  go_wp2_with fail
  refine wp_region_tail 10 (by kernel_rfl) (by kernel_rfl) ?_
  simp only [List.take_succ_cons, List.take_zero, List.drop_succ_cons, List.drop_zero]
  repeat still_step
  refine wpStill_nil ?_
  go_wp2_with fail
  go_ret2
  exact ⟨rfl, H3.out, HM2.out.trans (Mv.of (((Kept.refl _ _).drew).trans HK3.out))⟩

set_option maxRecDepth 100000 in
set_option maxHeartbeats 800000 in
theorem bw_writeString_small {w : World} {wb rb T b q : Nat} {R : Nat → Option Value} {row : Option Nat} {bs pend : List UInt8} (h : St w wb rb T b q R row bs pend) (s : ByteArray) (n : Nat) (p : List UInt8) (hps : p = s.data.toList) (hpl : p.length = n)
    (hfit : pend.length + n ≤ 4096) :
    Calls Tryd.prog 35 #[.pointer (some ⟨wb, 0, none⟩), .string s] w fun e w' => e = .returned (.tuple #[.int .i64 n, .nilIface]) ∧ St w' wb rb T b q R row bs (pend ++ p) ∧ Mv wb rb b row row w w' := by
  have hle := h.wr.le
  have q6 := fun w => slice_from rb 0 4096 4096 pend.length hle w
  have hsz : s.size = n := by rw [← hpl, hps]; rfl
  have hsn : s.size ≤ n := by omega
  have H := Lib.hid h; have HPL := Lib.hid hpl; have HPS := Lib.hid hps; have HSZ := Lib.hid hsz; clear h hpl hps
  go_enter Tryd.func35, Tryd.ntmps35
  go_wp2_with fail
  refine wp_loop_once ?_
  go_wp2_with fail
  refine (avail H.out.wr).mono ?_
  rintro e w1 ⟨rfl, kk, hw1⟩
  have h2 : St w1 wb rb T b q R row bs pend := by rw [hw1]; exact H.out.drewN kk
  have hm2 : Mv wb rb b row row w w1 := by rw [hw1]; exact Mv.of ((Kept.refl _ _).drewN kk)
  have c0 := h2.wr.c0; have c1 := h2.wr.c1; have c2 := h2.wr.c2; have f2 := h2.wr.free 2
  obtain ⟨w2, hcp, hk2, hL2⟩ := copy_in_str h2.drew.wr s p p HPS.out.symm (by rw [List.take_of_length_le]; have := HPL.out; omega)
  rw [HPL.out] at hcp
  have hlen : (pend ++ p).length = pend.length + n := by rw [List.length_append, HPL.out]
  obtain ⟨h3, hk3, hw3⟩ := h2.drew.push (n := (pend.length : Int) + n) hk2 hL2 (by rw [hlen]; simp) (by omega)
  have d2 := hw3.c2
  have g2 := hw3.free 2
  have H3 := Lib.hid h3; have HK3 := Lib.hid hk3; have HM2 := Lib.hid hm2
  clear h2 hm2 hw1 h3 hk3 hw3 hk2 hL2 hlen
  go_wp2_with fail
  refine wp_region_tail 10 (by kernel_rfl) (by kernel_rfl) ?_
  simp only [List.take_succ_cons, List.take_zero, List.drop_succ_cons, List.drop_zero]
  repeat still_step
  refine wpStill_nil ?_
  go_wp2_with fail
  go_ret2
  exact ⟨rfl, H3.out, HM2.out.trans (Mv.of (((Kept.refl _ _).drew).trans HK3.out))⟩
end Go.Proofs.YtmoglhggnodkoaaDoor
