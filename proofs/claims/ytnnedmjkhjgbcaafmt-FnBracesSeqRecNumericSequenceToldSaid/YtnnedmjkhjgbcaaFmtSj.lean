/-
  FnBracesSeqRecNumericSequence: the law's walk, with a step.
-/
import Derived.Test.YtnnedmjkhjgbcaaFmtSh
import Derived.Deep.RegionHeld3
namespace Go.Proofs.YtnnedmjkhjgbcaaFmt
open Go.RowKit

set_option maxRecDepth 100000 in
set_option maxHeartbeats 3200000 in
theorem ok_num_y {w : World} (a b : ByteArray) (f t p : Int) (hab : a.size + b.size ≤ 1048576) (hI : InL f t p) (hc : cntV f t p true ≤ 65536) (hn : cntV f t p true * (a.size + b.size + 64) ≤ 67108864) (htab : Tab w) :
    Calls Tryf.prog 3 #[.string a, .string b, .int .i64 f, .int .i64 t, .int .i64 p, .bool true] w fun e w' => e = .returned (.bool true) ∧ Kept [] w w' := by
  have hZ := zb_seq w a b f t p true (by omega) (by omega)
  rw [decide_eq_true hab] at hZ
  have hG := guard_yes w a b f t p true hab hI hc hn
  have hi := hI
  obtain ⟨i1, i2, i3, i4, i5, i6⟩ := hi
  have hpos := sV_pos p true
  have hsle := sV_le true i5 i6
  have hbnd : ∀ j, j < cntV f t p true → j * sV p true ≤ (t - f).natAbs := fun j hj => mul_le hj
  have hvb : ∀ j, j < cntV f t p true → -9000000000000000000 ≤ vF f t (sV p true) j ∧ vF f t (sV p true) j ≤ 9000000000000000000 := fun j hj => by
    have := hbnd j hj
    unfold vF
    split <;> omega
  have hcz : ∀ j, j < cntV f t p true → (catB [a, sItoa (vF f t (sV p true) j), b]).size ≤ 1000000000 := fun j hj => by
    have h1 := hvb j hj
    have := sItoa_size (v := vF f t (sV p true) j) (by omega) (by omega)
    rw [cat3_size]
    omega
  obtain ⟨s, hs⟩ : ∃ s, s = sV p true := ⟨_, rfl⟩
  obtain ⟨cnt, hcnt⟩ : ∃ cnt, cntV f t p true = cnt := ⟨_, rfl⟩
  rw [← hs] at hG hpos hsle hbnd hvb hcz
  rw [hcnt] at hG hbnd hvb hcz hc
  have hzf := sItoa_size (v := f) (by omega) (by omega)
  have hzt := sItoa_size (v := t) (by omega) (by omega)
  have hzp := sItoa_size (v := p) (by omega) (by omega)
  have HZ := Lib.hid hZ; have HG := Lib.hid hG; have HI := Lib.hid hI; have HS := Lib.hid hs; have HCNT := Lib.hid hcnt; have HBD := Lib.hid hbnd; have HVB := Lib.hid hvb; have HCZ := Lib.hid hcz; have HT := Lib.hid htab
  clear hZ hG hI hs hcnt hbnd hvb hcz htab hab hn
  go_enter Tryf.func3, Tryf.ntmps3
  go_wp2_with (first
    | (go_at_call 4; refine HZ.out.mono ?_; rintro e w' ⟨rfl, rfl⟩)
    | (go_at_call 5; refine HG.out.mono ?_; rintro e w' ⟨rfl, rfl⟩)
    | (go_at_call_of 7 (Value.int IntKind.i64 f); refine (itoa_any _ f (by omega) (by omega)).mono ?_; rintro e wA ⟨rfl, kk⟩; have KA := Lib.hid kk; clear kk)
    | (go_at_call_of 6 (Value.string (sItoa f)); refine (zlitword (sItoa f) _).mono ?_; rintro e wB ⟨rfl, oo, kk⟩; have OB := Lib.hid oo; have KB := Lib.hid kk; clear oo kk)
    | (go_at_call_of 7 (Value.int IntKind.i64 t); refine (itoa_any _ t (by omega) (by omega)).mono ?_; rintro e wC ⟨rfl, kk⟩; have KC := Lib.hid kk; clear kk)
    | (go_at_call_of 6 (Value.string (sItoa t)); refine (zlitword (sItoa t) _).mono ?_; rintro e wD ⟨rfl, oo, kk⟩; have OD := Lib.hid oo; have KD := Lib.hid kk; clear oo kk)
    | (go_at_call_of 7 (Value.int IntKind.i64 p); refine (itoa_any _ p (by omega) (by omega)).mono ?_; rintro e wG2 ⟨rfl, kk⟩; have KG2 := Lib.hid kk; clear kk)
    | (go_at_call_of 6 (Value.string (sItoa p)); refine (zlitword (sItoa p) _).mono ?_; rintro e wH ⟨rfl, oo, kk⟩; have OH := Lib.hid oo; have KH := Lib.hid kk; clear oo kk)
    | (at_builtin; have kEH : Kept [] (wD.alloc (.cells #[.pointer (some ⟨wA.heap.size + 2, 0, none⟩), .pointer (some ⟨wC.heap.size + 2, 0, none⟩)] 26)) wH := KG2.out.trans KH.out; (refine wpList_app word_el rfl _ _ rfl rfl rfl ((OwnV.lit wD [.pointer (some ⟨wA.heap.size + 2, 0, none⟩), .pointer (some ⟨wC.heap.size + 2, 0, none⟩)] (by simp)).kept (kEH.trans ((Kept.refl _ _).alloc _)) (by simp)) (OwnV.lit wH [.pointer (some ⟨wG2.heap.size + 2, 0, none⟩)] (by simp)).rd (by simp; rfl) (by simp) ?_); intro v' wE hoE hbE hkE; have hel := seq_elems hoE hbE hkE (KG2.out.trans KH.out) rfl; obtain ⟨ge, m, hv', HC0, HC1, HC2, hm, hkDE, _, hkHE⟩ := hel; subst hv'; have C0 := Lib.hid HC0; have C1 := Lib.hid HC1; have C2 := Lib.hid HC2; have HM := Lib.hid hm; have KDH := Lib.hid (show Kept [] (w.alloc (.cells #[.int .u64 cnt] 23)) wE ∧ Kept [] wB wE ∧ Kept [] wD wE ∧ Kept [wD.heap.size] wH wE from ⟨((KA.out.trans KB.out).trans (KC.out.trans KD.out)).trans hkDE, (KC.out.trans KD.out).trans hkDE, hkDE, hkHE⟩); clear hoE hbE hkE HC0 HC1 HC2 hm hkDE hkHE kEH)
    | (go_at_call_of 8 (Value.string a); refine (zlit_k a _).mono ?_; rintro e wF ⟨rfl, cc, kk⟩; have CF := Lib.hid cc; have KF := Lib.hid kk; clear cc kk)
    | (go_at_call_of 8 (Value.string b); refine (zlit_k b _).mono ?_; rintro e wG ⟨rfl, cc, kk⟩; have CG := Lib.hid cc; have KG := Lib.hid kk; clear cc kk)
    | (go_at_call 9; have k1E := KDH.out.1; have hsq := seqw (hs := true) (p := p) (la := wE.heap.size) (lb := wF.heap.size + 1) rfl (by simp) rfl ⟨by simpa using HM.out.1, HM.out.2⟩ C0.out C1.out (fun _ => C2.out) (fun W k => oneword_lit OB.out (by omega) W (KDH.out.2.1.trans k)) (fun W k => oneword_lit OD.out (by omega) W (KDH.out.2.2.1.trans k)) (fun _ W k => oneword_lit (OH.out.kept KDH.out.2.2.2 (by simp; have := KG2.out.size; simp at this; omega)) (by omega) W k) (HT.out.kept (((Kept.refl [] w).alloc (.cells #[.int .u64 cnt] 23)).trans k1E) (by simp)) CF.out KF.out CG.out KG.out rfl; have kw0 := k1E.trans hsq.2.1; have hcb := (kw0.cell (p := ⟨w.heap.size, 0, none⟩) (by simp) (by simp)).trans (row_cell (L := [.int .u64 cnt]) (heap_alloc_new w (.cells #[.int .u64 cnt] 23)) 0); (refine (zz_seq rfl (call_num (gb := wG.heap.size + 1 + 1) hsq.1 hsq.2.2 hcb hc HI.out HCNT.out (fun j hj => by rw [← HS.out]; exact HCZ.out j hj))).mono ?_); rintro e w9 ⟨rfl, A, m, h1, h2, hk9⟩; dsimp only; rw [← HS.out] at h2; have K9 := Lib.hid ((((Kept.refl [] w).alloc (.cells #[.int .u64 cnt] 23)).trans kw0).trans hk9); have d13 := (hk9.cell (p := ⟨w.heap.size, 0, none⟩) (block_lt_of_cell hcb) (by simp)).trans hcb; have d18 := row0 h1; have R9 := Lib.hid h2.rd; have HGL := Lib.hid (heap_lt h1); have D18 := Lib.hid d18; clear hsq k1E kw0 hcb h1 h2 hk9))
  have hL : ((List.range cnt).map fun j => Value.string (catB [a, sItoa (vF f t s j), b])).length = cnt := by simp
  have HL := Lib.hid hL
  clear hL d13 d18
  go_loopw [12, 20] (fun q i wr => ∃ k : Nat, k ≤ cnt ∧ i = .int .i64 k ∧ q = .bool false ∧ Hid (Kept [] w9 wr)) (fun _ i _ => cnt - (intOf i).toNat)
  case atStart => exact ⟨0, Nat.zero_le _, rfl, rfl, Lib.hid (Kept.refl _ _)⟩
  case round =>
    obtain ⟨k, hk, rfl, rfl, HK⟩ := hrel
    have d18 : wr.cell? ⟨wG.heap.size + 1 + 1, 0, none⟩ = some (.slice A cnt m) := (HK.out.cell (p := ⟨wG.heap.size + 1 + 1, 0, none⟩) HGL.out (by simp)).trans D18.out
    by_cases hlt : k < cnt
    · obtain ⟨g, o, rfl, hg, hcl⟩ : ∃ g o, A = some ⟨g, o, none⟩ ∧ g < w9.heap.size ∧ w9.cell? ⟨g, o + k, none⟩ = some (.string (catB [a, sItoa (vF f t s k), b])) := by
        obtain ⟨A', c', e, _, _, _, _, r4⟩ := R9.out
        have e1 : A = A' := by injection e
        obtain ⟨g, o, e2, hg, _, hcell⟩ := r4 (by rw [HL.out]; omega)
        exact ⟨g, o, e1.trans e2, hg, hcell k _ (by simp [hlt])⟩
      have hvb := HVB.out k hlt
      have hcz := HCZ.out k hlt
      have hbd := HBD.out k hlt
      have hcat := cat_five a (sItoa (vF f t s k)) b
      obtain ⟨S, hS⟩ : ∃ S, S = catB [a, sItoa (vF f t s k), b] := ⟨_, rfl⟩
      rw [← hS] at hcl hcz hcat
      obtain ⟨v, hv⟩ : ∃ v, v = vF f t s k := ⟨_, rfl⟩
      rw [← hv] at hvb hcat
      have hmul : IntKind.u64.wrap ((k : Int) * s) = (k : Int) * s := IntWalk.u64_in _ (by rw [← Int.natCast_mul]; omega)
      have hku : IntKind.u64.wrap (k : Int) = k := IntWalk.u64_in _ (by omega)
      have HIT := Lib.hid (fun (W : World) (kw : Kept [] wr W) => (itoa_any W v (by omega) (by omega)).mono (fun (e : Ending) (w' : World) (h : e = .returned (.string (sItoa v)) ∧ Kept [] W w') => (show e = .returned (.string (sItoa v)) ∧ Kept [] wr w' from ⟨h.1, kw.trans h.2⟩)))
      have HSS := Lib.hid (fun (W : World) (kw : Kept [] wr W) => (show W.cell? ⟨wG.heap.size + 1 + 1, 0, none⟩ = some (.slice (some ⟨g, o, none⟩) cnt m) ∧ W.cell? ⟨g, o + k, none⟩ = some (.string S) ∧ Kept [] wr W from
        ⟨(kw.cell (p := ⟨wG.heap.size + 1 + 1, 0, none⟩) (block_lt_of_cell d18) (by simp)).trans d18, ((HK.out.trans kw).cell (p := ⟨g, o + k, none⟩) hg (by simp)).trans hcl, kw⟩))
      have HCAT := Lib.hid hcat; have HCS := Lib.hid hcz
      unfold vF at hv
      by_cases hft : f ≤ t
      · rw [if_pos hft] at hv
        have hfin : IntKind.i64.wrap (IntKind.u64.wrap (IntKind.u64.wrap f + (k : Int) * s)) = v := by rw [hv, ← Int.natCast_mul]; exact wrap_up i1 i2 (by omega)
        clear hcl hcat hcz hS hv hbd
        go_wp2_with fail
        go_region_held3 (fun w' => w'.cell? ⟨wG.heap.size + 1 + 1, 0, none⟩ = some (.slice (some ⟨g, o, none⟩) cnt m) ∧ w'.cell? ⟨g, o + k, none⟩ = some (.string S) ∧ Kept [] wr w') (first | exact HSS.out _ (by assumption) | exact HSS.out _ ((Kept.refl _ _).drew)) (first | (go_at_call 7; refine (HIT.out _ ?_).mono ?_; (go_split_ands; assumption); rintro e w7 ⟨rfl, hk7⟩; dsimp only) | (go_at_call 12; refine (iscat_yes _ _ _ _ _ _ HCAT.out HCS.out _).mono ?_; rintro e w' ⟨rfl, rfl⟩; dsimp only))
        go_wp2_with fail
        go_roundw
        case rel => exact ⟨k + 1, by omega, by go_num, rfl, Lib.hid (HK.out.trans hk7)⟩
        case measure => simp [intOf]; omega
      · rw [if_neg hft] at hv
        have hfin : IntKind.i64.wrap (IntKind.u64.wrap (IntKind.u64.wrap f - (k : Int) * s)) = v := by rw [hv, ← Int.natCast_mul]; exact wrap_dn i1 i2 (by omega)
        have hdf : decide (f ≤ t) = false := decide_eq_false hft
        clear hcl hcat hcz hS hv hbd hft
        go_wp2_with fail
        go_region_held3 (fun w' => w'.cell? ⟨wG.heap.size + 1 + 1, 0, none⟩ = some (.slice (some ⟨g, o, none⟩) cnt m) ∧ w'.cell? ⟨g, o + k, none⟩ = some (.string S) ∧ Kept [] wr w') (first | exact HSS.out _ (by assumption) | exact HSS.out _ ((Kept.refl _ _).drew)) (first | (go_at_call 7; refine (HIT.out _ ?_).mono ?_; (go_split_ands; assumption); rintro e w7 ⟨rfl, hk7⟩; dsimp only) | (go_at_call 12; refine (iscat_yes _ _ _ _ _ _ HCAT.out HCS.out _).mono ?_; rintro e w' ⟨rfl, rfl⟩; dsimp only))
        go_wp2_with fail
        go_roundw
        case rel => exact ⟨k + 1, by omega, by go_num, rfl, Lib.hid (HK.out.trans hk7)⟩
        case measure => simp [intOf]; omega
    · obtain rfl : k = cnt := by omega
      go_wp2_with fail
      go_returns
      exact ⟨rfl, K9.out.trans HK.out⟩

end Go.Proofs.YtnnedmjkhjgbcaaFmt
