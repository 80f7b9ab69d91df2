/-
  bracesSeqRec at a brace that is a numeric sequence, walked.
-/
import Derived.Test.YtnnedmjkhjgbcaaFmtSf
import Derived.Deep.RegionHeld3

namespace Go.Proofs.YtnnedmjkhjgbcaaFmt
open Go.RowKit
set_option maxRecDepth 100000 in
set_option maxHeartbeats 6400000 in
theorem bsr_seq0d {w0 w : World} {B gb cb cnt la lb bb pw ge ce e0 e1 d s : Nat} {a b : ByteArray} {T : Nat → Value} {f t : Int} {v : Value} (E : NE w0 B gb cb cnt la lb a b) (hold : Old B w0 w) (hB : B ≤ gb) (hJ : NJ B gb T 0 [gb] w)
    (hword : WordAt w pw v) (hpw : pw ≠ gb) (hrow : RdV (· ≠ gb) w v [litV la, brV bb, litV lb]) (hbr : w.heap[bb]? = some (.cells #[.bool true, .slice (some ⟨ge, 0, none⟩) 2 ce] 34 (0, 0))) (hce : 2 ≤ ce ∧ ce ≤ 9223372036854775807)
    (hp0 : w.cell? ⟨ge, 0, none⟩ = some (.pointer (some ⟨e0, 0, none⟩))) (hp1 : w.cell? ⟨ge, 1, none⟩ = some (.pointer (some ⟨e1, 0, none⟩)))
    (HL0 : ∀ W, Kept [] w W → Calls Tryf.prog 11 #[.pointer (some ⟨e0, 0, none⟩)] W fun e w' => e = .returned (.string (sItoa f)) ∧ Kept [] W w')
    (HL1 : ∀ W, Kept [] w W → Calls Tryf.prog 11 #[.pointer (some ⟨e1, 0, none⟩)] W fun e w' => e = .returned (.string (sItoa t)) ∧ Kept [] W w')
     (b1 : -2305843009213693952 ≤ f) (b2 : f ≤ 2305843009213693952) (b3 : -2305843009213693952 ≤ t) (b4 : t ≤ 2305843009213693952) (hft : ¬ f ≤ t) (hd : f = t + (d : Int)) (hsV : s = 1) (hs0 : 0 < s) (_hsb : s ≤ 2305843009213693952) (hcnt : d / s + 1 = cnt)
    (hT : ∀ j, j < cnt → T j = .string (catB [a, sItoa (f - ((j * s : Nat) : Int)), b])) (hsz : ∀ j, j < cnt → (catB [a, sItoa (f - ((j * s : Nat) : Int)), b]).size ≤ 1000000000) (htab : Tab w) (hgt : 2 ≠ gb) :
    Calls Tryf.prog 14 #[.pointer (some ⟨pw, 0, none⟩), .func (.func 10) #[] #[.pointer (some ⟨gb, 0, none⟩), .pointer (some ⟨cb, 0, none⟩)]] w fun e w' => e = .returned (.bool true) ∧ ∃ F', NJ B gb T cnt F' w' ∧ Kept [gb] w w' := by
  have HD := Lib.hid hd
  clear hd
  have HRO := Lib.hid hrow
  obtain ⟨A, c, rfl, a1, a2, a3, a5, a4⟩ := hrow
  obtain ⟨nn, hnn⟩ : ∃ nn, nn = ([litV la, brV bb, litV lb] : List Value).length := ⟨_, rfl⟩
  obtain ⟨g, o, rfl, hg, hgF, hcell⟩ := a4 (by rw [← hnn, hnn]; simp)
  rw [← hnn] at HRO a1
  have hn3 : nn = 3 := by rw [hnn]; rfl
  have c1 := row0 hword
  rw [← hnn] at hword c1
  have hz : pw < w.heap.size := heap_lt hword
  have HCELL : Hid (∀ (k : Nat) (x : Value), ([litV la, brV bb, litV lb] : List Value)[k]? = some x → w.cell? ⟨g, o + k, none⟩ = some x) := Lib.hid (fun k x hx => hcell k x hx)
  have HBR : Hid (w.cell? ⟨g, o + 1, none⟩ = some (.iface 32 (.pointer (some ⟨bb, 0, none⟩)))) := Lib.hid (hcell 1 (brV bb) rfl)
  have HREST : Hid (RdV (· ≠ gb) w (.slice (some ⟨g, o + 2, none⟩) 1 (c - 2)) [litV lb]) := Lib.hid ⟨_, _, rfl, by simp; omega, by unfold maxLen at a2 ⊢; omega, (fun h => by cases h), fun _ => ⟨_, _, rfl⟩, fun _ => ⟨g, o + 2, rfl, hg, hgF, fun j x hj => by
    match j with
    | 0 => cases hj; exact hcell 2 _ rfl
    | j + 1 => simp at hj⟩⟩
  have HWA := Lib.hid hword; have HJ := Lib.hid hJ; have HP := Lib.hid hpw; have HO := Lib.hid hold; have HBB := Lib.hid hbr; have HOL := Lib.hid hold.1; have HGF := Lib.hid hgF; have HE := Lib.hid E
  have G0 := Lib.hid HL0; have G1 := Lib.hid HL1
  have HT := Lib.hid hT; have HSZ := Lib.hid hsz; have HTB := Lib.hid htab; have HGT := Lib.hid hgt
  have HP0 := Lib.hid hp0; have HP1 := Lib.hid hp1
  obtain ⟨ce1, ce2⟩ := hce
  have HLS : Hid (∀ v ∈ [litV la], IsLit v) := Lib.hid (fun v hv => by simp at hv; subst hv; exact ⟨la, rfl⟩)
  obtain ⟨ls, hls⟩ : ∃ ls, ls = [litV la] := ⟨_, rfl⟩
  rw [← hls] at HLS
  have hl1 : ls.length = 1 := by rw [hls]; rfl
  have HLS1 := Lib.hid hls
  have HCELL1 : Hid (∀ (k : Nat), k < ls.length → w.cell? ⟨g, o + k, none⟩ = some ls[k]!) := Lib.hid (fun k hk => by
    rw [hls] at hk ⊢
    simp at hk
    subst hk
    exact HCELL.out 0 _ rfl)
  unfold maxLen at a2
  clear hword a3 a4 a5 hJ hpw hold hbr hcell hnn hT hsz htab hgt HL0 HL1 hgF E hls hp0 hp1
  subst hn3
  have hdf : decide (f ≤ t) = false := decide_eq_false hft
  have HFT := Lib.hid hft
  clear hft
  have hst := Lib.hid (left_start w (.func (.func 10) #[] #[.pointer (some ⟨gb, 0, none⟩), .pointer (some ⟨cb, 0, none⟩)]))
  have hmf := mk_func
  have hta0 := ta_br_br bb
  go_enter Tryf.func14, Tryf.ntmps14
  go_wp2_with fail
  go_loopw [4, 35] (fun q i wr => ∃ k : Nat, k ≤ ls.length ∧ i = .int .i64 k ∧ q = .bool false ∧ Hid (∃ A' m', Left w wr (.func (.func 10) #[] #[.pointer (some ⟨gb, 0, none⟩), .pointer (some ⟨cb, 0, none⟩)]) A' k m' (ls.take k))) (fun _ i _ => 3 - (intOf i).toNat)
  case atStart => exact ⟨0, Nat.zero_le _, rfl, rfl, Lib.hid ⟨none, 0, by simpa using hst.out⟩⟩
  case round =>
    obtain ⟨k, hk, rfl, rfl, HI⟩ := hrel
    by_cases hlt : k < ls.length
    · obtain ⟨A1, m1, hl⟩ := HI.out
      have HL := Lib.hid hl
      have hltn : k < 3 := by omega
      obtain ⟨lb', hb⟩ := HLS.out _ (List.getElem_mem hlt)
      have hcell : w.cell? ⟨g, o + k, none⟩ = some ls[k] := by have := HCELL1.out k hlt; rw [getElem!_pos ls k hlt] at this; exact this
      rw [hb] at hcell
      unfold litV at hcell
      obtain ⟨h0, h1, h2, h3, h4, h5⟩ := hl
      have d0 : wr.cell? ⟨g, o + k, none⟩ = some (.iface 30 (.pointer (some ⟨lb', 0, none⟩))) := (h5.cell (p := ⟨g, o + k, none⟩) hg (by simp)).trans hcell
      have d1 := row0 h2
      have f1 := row0f h2
      have hzz := heap_lt h2
      have HB := Lib.hid hb
      have HOW := Lib.hid (h3.kept ((Kept.refl [] wr).alloc (.cells #[.iface 30 (.pointer (some ⟨lb', 0, none⟩))] 52)) (by simp))
      have HNL : Hid (_ = some (Obj.cells #[.slice A1 k m1] 35 (0, 0))) := Lib.hid h2
      have HLE : Hid ((ls.take k).length = k) := Lib.hid h0
      clear h0 h1 h2 h3 h4 h5 hcell hb
      have hta := ta_lit_br lb'
      go_wp2_with (at_builtin; refine wpList_app wp_el rfl _ _ rfl rfl rfl HOW.out (OwnV.lit wr [.iface 30 (.pointer (some ⟨lb', 0, none⟩))] (by simp)).rd (by simp; rfl) (by simp; omega) ?_; intro v' w2 ho hb' hk'; obtain ⟨A2, m2, hv2, _, _, _, _, _⟩ := ho.rd; rw [List.length_append, HLE.out, show [Value.iface 30 (.pointer (some ⟨lb', 0, none⟩))].length = 1 from rfl] at hv2; subst hv2; have e2 : w2.cell? ⟨w.heap.size + 1, 0, none⟩ = some (.slice A1 k m1) := row0 ((hk'.block _ (by simp; omega) (fun hm => by have := HL.out.2.2.2.2.1 _ (mem_own hm); omega)).trans ((Below.heap_alloc _ _ _ hzz).trans HNL.out)); have f2 : w2.frozen? ⟨w.heap.size + 1, 0, none⟩ = false := row0f ((hk'.block _ (by simp; omega) (fun hm => by have := HL.out.2.2.2.2.1 _ (mem_own hm); omega)).trans ((Below.heap_alloc _ _ _ hzz).trans HNL.out)); have HO2 := Lib.hid ho; have HB2 := Lib.hid hb'; have HK2 := Lib.hid hk'; clear ho hb' hk')
      go_roundw
      case rel => exact ⟨k + 1, by omega, by go_num, rfl, Lib.hid ⟨_, _, by rw [take_next hlt, HB.out]; exact left_step HL.out HO2.out HB2.out HK2.out⟩⟩
      case measure => simp [intOf]; omega
    · obtain rfl : k = ls.length := by omega
      obtain ⟨A1, m1, hl⟩ := HI.out
      rw [List.take_length] at hl
      have HL := Lib.hid hl
      obtain ⟨h0, h1, h2, h3, h4, h5⟩ := hl
      rw [hl1] at *
      have d0 : wr.cell? ⟨g, o + 1, none⟩ = some (.iface 32 (.pointer (some ⟨bb, 0, none⟩))) := (h5.cell (p := ⟨g, o + 1, none⟩) hg (by simp)).trans HBR.out
      have d3 : wr.cell? ⟨pw, 0, none⟩ = some (.slice (some ⟨g, o, none⟩) 3 c) := (h5.cell (p := ⟨pw, 0, none⟩) hz (by simp)).trans (row0 HWA.out)
      have hbb : wr.heap[bb]? = some (.cells [.bool true, .slice (some ⟨ge, 0, none⟩) 2 ce].toArray 34 (0, 0)) := (h5.block bb (heap_lt HBB.out) (by simp)).trans HBB.out
      have d4 := row_cell hbb 0
      have d5 := row_cell hbb 1
      simp only [List.getElem?_cons_zero, List.getElem?_cons_succ] at d4 d5
      have H5 := Lib.hid h5
      have HS := Lib.hid (fun (W : World) (k : Kept [] wr W) => (show W.cell? ⟨bb, 0, none⟩ = some (.bool true) ∧ W.cell? ⟨bb, 1, none⟩ = some (.slice (some ⟨ge, 0, none⟩) 2 ce) ∧ W.cell? ⟨ge, 0, none⟩ = some (.pointer (some ⟨e0, 0, none⟩)) ∧ W.cell? ⟨ge, 1, none⟩ = some (.pointer (some ⟨e1, 0, none⟩)) ∧ W.cell? ⟨pw, 0, none⟩ = some (.slice (some ⟨g, o, none⟩) 3 c) from
        have kw := h5.trans k
        ⟨(k.cell (p := ⟨bb, 0, none⟩) (block_lt_of_cell d4) (by simp)).trans d4, (k.cell (p := ⟨bb, 1, none⟩) (block_lt_of_cell d5) (by simp)).trans d5, (kw.cell (p := ⟨ge, 0, none⟩) (block_lt_of_cell HP0.out) (by simp)).trans HP0.out, (kw.cell (p := ⟨ge, 1, none⟩) (block_lt_of_cell HP1.out) (by simp)).trans HP1.out, (k.cell (p := ⟨pw, 0, none⟩) (block_lt_of_cell d3) (by simp)).trans d3⟩))
      have k0 : Kept [] wr wr := Kept.refl _ _
      have s0 := HS.out wr k0
      clear h0 h1 h2 h3 h4 h5 hbb d4 d5 d3
      go_split_ands
      go_wp2_with (first
        | (go_at_call_of 11 (Value.pointer (some ⟨e0, 0, none⟩)); refine (G0.out _ (H5.out.trans (by assumption))).mono ?_; rintro e wA ⟨rfl, hk⟩; dsimp only; have kA := Kept.trans (by assumption) hk; have sA := HS.out wA kA; clear hk; go_split_ands)
        | (go_at_call_of 11 (Value.pointer (some ⟨e1, 0, none⟩)); refine (G1.out _ (H5.out.trans (by assumption))).mono ?_; rintro e wB ⟨rfl, hk⟩; dsimp only; have kB := Kept.trans (by assumption) hk; have sB := HS.out wB kB; clear hk; go_split_ands)
        | (go_at_call_of 19 (Value.string (sItoa f)); refine (parse_any _ f (by omega) (by omega)).mono ?_; rintro e wC ⟨rfl, hk⟩; dsimp only; have kC := Kept.trans (by assumption) hk; have sC := HS.out wC kC; clear hk; go_split_ands)
        | (go_at_call_of 19 (Value.string (sItoa t)); refine (parse_any _ t (by omega) (by omega)).mono ?_; rintro e wD ⟨rfl, hk⟩; dsimp only; have kD := Kept.trans (by assumption) hk; have sD := HS.out wD kD; clear hk; go_split_ands)
        | (go_at_call_of 20 (Value.string (sItoa f)); refine (hlz_any _ f).mono ?_; rintro e w' ⟨rfl, rfl⟩; dsimp only)
        | (go_at_call_of 20 (Value.string (sItoa t)); refine (hlz_any _ t).mono ?_; rintro e w' ⟨rfl, rfl⟩; dsimp only))
      have hl1' := HL.out
      rw [HLS1.out] at hl1'
      have hin0 := Lib.hid (si_start hl1' (by assumption) HJ.out HO.out)
      clear hl1'
      go_loopw [4, 24] (fun q i wr => ∃ (j : Nat) (x : Int), j ≤ cnt ∧ i = .int .i64 x ∧ Hid (x = f - ((j * s : Nat) : Int)) ∧ q = .bool false ∧ Hid (SI B gb cb T w (.slice A1 1 m1) la j wr)) (fun _ i _ => (intOf i + 1 + (s : Int) - t).toNat)
      case atStart => exact ⟨0, f, Nat.zero_le _, rfl, Lib.hid (by simp), rfl, hin0⟩
      case round =>
        obtain ⟨j, x, hj, rfl, HX, rfl, HII⟩ := hrel
        by_cases hjn : j < cnt
        · have hxf : x ≤ f := by rw [HX.out]; omega
          have hxt : t ≤ x := by have h1 := mul_le (show j < d / s + 1 by rw [hcnt]; exact hjn); have h2 := HX.out; have h3 := HD.out; omega
          have hmm : 0 ≤ x - t := by omega
          have hkx := HII.out.choose_spec.2.2.1
          have d8 : wr.cell? ⟨pw, 0, none⟩ = some (.slice (some ⟨g, o, none⟩) 3 c) := (hkx.cell (p := ⟨pw, 0, none⟩) hz (by simp; exact HP.out)).trans (row0 HWA.out)
          obtain ⟨z1, z2, g1, g2⟩ := two_new wr (.cells #[.slice (some ⟨g, o, none⟩) 3 c] 37) (.cells #[.int .u32 0, .int .u32 0, .int .u32 0, .int .u32 0, .string ⟨#[]⟩] 50)
          have hk2 : Kept [] wr ((wr.alloc (.cells #[.slice (some ⟨g, o, none⟩) 3 c] 37)).alloc (.cells #[.int .u32 0, .int .u32 0, .int .u32 0, .int .u32 0, .string ⟨#[]⟩] 50)) := ((Kept.refl _ _).alloc _).alloc _
          have HTW := Lib.hid (HTB.out.kept (hkx.trans (hk2.weaken (by simp))) (by simp; exact HGT.out))
          have HKX := Lib.hid hkx; have HG1 := Lib.hid g1; have HG2 := Lib.hid g2; have HZ2 := Lib.hid z2; have HZ1 := Lib.hid z1; have HK2 := Lib.hid hk2
          clear hkx g1 g2 z1 z2 hk2
          go_wp2_with (first
            | (go_at_call 22; refine (fmt_any _ x (by omega) (by omega) HTW.out).mono ?_; rintro e w5 ⟨rfl, hk5⟩; dsimp only; have q5 := (hk5.block _ (by have := HZ2.out; omega) (by simp)).trans HG1.out; have q6 := (hk5.block _ (by have := HZ2.out; omega) (by simp)).trans HG2.out; have c5 := row_cell (L := [.int .u32 0, .int .u32 0, .int .u32 0, .int .u32 0, .string ⟨#[]⟩]) q5 4; have f5 := row_free (L := [.int .u32 0, .int .u32 0, .int .u32 0, .int .u32 0, .string ⟨#[]⟩]) q5 4; simp only [List.getElem?_cons_zero, List.getElem?_cons_succ] at c5; have Q5 := Lib.hid q5; have Q6 := Lib.hid q6; have K5 := Lib.hid hk5; clear hk5 q5 q6)
            | (at_builtin; (have hsn := seq_new (W0 := w5.setCell ⟨wr.heap.size + 1, 4, none⟩ (.string (sItoa x))) (pv := .iface 30 (.pointer (some ⟨wr.heap.size + 1, 0, none⟩))) HKX.out K5.out rfl); have HSN := Lib.hid hsn.2.2; (refine wpList_app wp_el rfl _ _ rfl rfl rfl hsn.2.1 (HREST.out.kept hsn.1 (fun g hg _ hm => hg (by simpa using hm))) (by simp [litV]; rfl) (by simp) ?_); clear hsn; intro v' w7 ho7 hb7 hk7; have h7 := HSN.out v' w7 hk7 hb7; obtain ⟨A7, m7, hv7, _, _, _, _, _⟩ := ho7.rd; simp only [List.length_append, List.length_cons, List.length_nil] at hv7; subst hv7; have c7 := row0 h7.2.2.2; have f7 := row0f h7.2.2.2; have HO7 := Lib.hid ho7; have HB7 := Lib.hid h7.2.1; have HK7 := Lib.hid h7.1; have HN7 := Lib.hid h7.2.2.1; clear ho7 hb7 hk7 h7)
            | (go_at_call 16; (refine (seq_in (S := sItoa x) (nb := wr.heap.size + 1) HE.out hjn (by rw [HX.out]; exact HT.out j hjn) (by rw [HX.out]; exact HSZ.out j hjn) HO.out hB HII.out HK7.out HO7.out HB7.out (by omega) HN7.out).mono ?_); rintro e w8 ⟨rfl, hsi⟩; dsimp only; have HS8 := Lib.hid hsi; clear hsi))
          go_roundw
          case rel => exact ⟨j + 1, x - (s : Int), by omega, by go_num, Lib.hid (by have := HX.out; rw [Nat.succ_mul]; omega), rfl, HS8⟩
          case measure => simp [intOf]; omega
        · obtain rfl : j = cnt := by omega
          have hxt : ¬ t ≤ x := by have h1 := mul_gt (d := d) hs0; rw [hcnt] at h1; have h2 := HX.out; have h3 := HD.out; omega
          go_wp2_with fail
          go_ret
          obtain ⟨F', ⟨Fj, heq, hJj, _⟩, _, hkf, _⟩ := HII.out
          exact ⟨rfl, ⟨Fj, hJj⟩, hkf⟩
end Go.Proofs.YtnnedmjkhjgbcaaFmt
