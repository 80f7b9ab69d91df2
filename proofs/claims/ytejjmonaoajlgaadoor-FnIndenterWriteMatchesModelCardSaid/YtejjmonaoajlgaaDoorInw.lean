/-
  The heredoc indenter's WriteByte.
-/
import Derived.Test.YtejjmonaoajlgaaDoorIne
namespace Go.Proofs.YtejjmonaoajlgaaDoor
open Go.RowKit

theorem tabs_lt {l : List UInt8} {x : UInt8} (h : x.toNat ≠ 9) : tabs (l ++ [x]) < (l ++ [x]).length := by
  rcases Nat.lt_or_ge (tabs (l ++ [x])) (l ++ [x]).length with h1 | h1
  · exact h1
  · have h2 := tabs_get (l := l ++ [x]) (k := l.length) (by rw [List.length_append] at h1; simp at h1; omega)
    rw [List.getElem?_append_right (Nat.le_refl _), Nat.sub_self] at h2
    simp at h2
    exact absurd (by rw [h2]; rfl) h
theorem Ix.cellK {w w1 : World} {eb wb rb b : Nat} {row : Option Nat} {cv : Value} {base : Int} {s : Is} (h : Ix w eb wb rb b row cv base s) (k : Kept cv.ownBlock.toList w w1) : w1.cell? ⟨eb, 4, none⟩ = some cv ∧ w1.frozen? ⟨eb, 4, none⟩ = false := by
  have hb := (k.block eb (heap_lt h.blk) (fun hm => (h.d2 eb (by simpa using hm)).1 rfl)).trans h.blk
  exact ⟨by rw [row_cell hb]; rfl, row_free hb 4⟩
theorem own_new {w : World} {cv : Value} {g n c : Nat} (h : cv.ownBlock = some g ∨ w.heap.size ≤ g) : ∀ g' ∈ (Value.slice (some ⟨g, 0, none⟩) n c).ownBlock, cv.ownBlock = some g' ∨ w.heap.size ≤ g' := by
  intro g' hg'
  cases hg'
  exact h
theorem slice_to0 (g n c : Nat) (w : World) : (Instr.slice 22 (.slice (some ⟨g, 0, none⟩) n c) none (some (.int .i64 0)) none).run Tryd.prog w = .ok (.slice (some ⟨g, 0, none⟩) 0 c) w := by
  have h := run_slice_h (P := Tryd.prog) w 22 (some ⟨g, 0, none⟩) n c u8_und2 .i64 0 (by omega) (by omega)
  rw [h, u8_size]
  simp [sliced, addr_add]
/-- The line's bytes, apart from the writer. -/
theorem Ix.lies {w : World} {eb wb rb b : Nat} {row : Option Nat} {g n c : Nat} {base : Int} {s : Is} (h : Ix w eb wb rb b row (.slice (some ⟨g, 0, none⟩) n c) base s) : (∀ j x, s.cur[j]? = some x → w.cell? ⟨g, j, none⟩ = some (By x)) ∧ g < w.heap.size ∧ g ∉ wb :: rb :: b :: row.toList ∧ n = s.cur.length ∧ n ≤ c ∧ c ≤ maxLen := by
  obtain ⟨h1, h2, h3, h4⟩ := h.own.src
  refine ⟨fun j x hj => ?_, h.own.lt g rfl, (h.d2 g rfl).2, h2, h3, h4⟩
  have hlt : j < s.cur.length := (List.getElem?_eq_some_iff.1 hj).1
  obtain ⟨g', o', e, _, hc⟩ := h1.2 (by omega)
  cases e
  simpa using hc j x hj

set_option maxRecDepth 100000 in
set_option maxHeartbeats 800000 in
theorem wbyte_keep {w : World} {eb wb rb b : Nat} {row : Option Nat} {cv : Value} {base : Int} {s : Is} (h : Ix w eb wb rb b row cv base s) (hcl : s.cur.length + 1 ≤ 1000000000000) (x : UInt8) (hx : x.toNat ≠ 10) :
    Calls Tryd.prog 20 #[.pointer (some ⟨eb, 0, none⟩), .int .u8 x.toNat] w fun e w' => e = .returned .nilIface ∧ ∃ row' cv', Ix w' eb wb rb b row' cv' base { s with cur := s.cur ++ [x] } ∧ Fp (fp eb wb rb b row cv) (fp eb wb rb b row' cv') w w' := by
  have c4 := h.c4
  have g1 : ((x.toNat : Int) != 10) = true := by rw [bne_iff_ne]; omega
  have H := Lib.hid h; clear h hx
  go_enter Tryd.func20, Tryd.ntmps20
  go_wp2_with (at_builtin; refine wpList_app_lit rfl _ _ rfl cv s.cur rfl H.out.own 1 1 _ [x] rfl rfl (by omega) rfl hcl ?_; intro g cap w1 ho hn1 hk1; have c4 := (H.out.cellK hk1).1; have f4 := (H.out.cellK hk1).2; have HL := Lib.hid (H.out.setLine hk1 _ _ ho (own_new hn1)); clear ho hn1 hk1)
  go_ret
  exact ⟨rfl, row, _, HL.out.1, HL.out.2⟩

/-- The line is a newline behind tabs. -/
theorem one_left {l : List UInt8} (h : (untab l).length = 1) (base fi fc : Int) : lineOut base fi fc l = untab l := by unfold lineOut; rw [if_pos h]

set_option maxRecDepth 100000 in
set_option maxHeartbeats 1600000 in
theorem wbyte_bare {w : World} {eb wb rb b : Nat} {row : Option Nat} {cv : Value} {base : Int} {s : Is} {n : Nat} (h : Ix w eb wb rb b row cv base s) (hk : Iok base n s) (hb1 : 0 ≤ base) (hb2 : base ≤ 65536) (hn : n ≤ 1000000) (h1 : (untab (s.cur ++ [10])).length = 1) :
    Calls Tryd.prog 20 #[.pointer (some ⟨eb, 0, none⟩), .int .u8 10] w fun e w' => e = .returned .nilIface ∧ ∃ row' cv', Ix w' eb wb rb b row' cv' base (stepI base s 10) ∧ Fp (fp eb wb rb b row cv) (fp eb wb rb b row' cv') w w' := by
  have c4 := h.c4
  have hcl := hk.cur
  obtain ⟨L, hL⟩ : ∃ L, L = s.cur ++ [10] := ⟨_, rfl⟩
  have hT := tabs_lt (l := s.cur) (x := 10) (by decide)
  rw [← hL] at hT
  have hLl : L.length = s.cur.length + 1 := by rw [hL]; simp
  obtain ⟨T, hTe⟩ : ∃ T, T = tabs L := ⟨_, rfl⟩
  obtain ⟨N, hNe⟩ : ∃ N, N = s.cur.length + 1 := ⟨_, rfl⟩
  have hst : stepI base s 10 = { s with cur := [], out := s.out ++ untab L } := by
    unfold stepI
    rw [if_neg (by decide), if_pos h1, one_left h1, hL]
  have hul := untab_len L
  have hue := untab_eq L
  rw [← hTe] at hT hul hue
  rw [hst]
  have H := Lib.hid h; have HL := Lib.hid hL; have HLl := Lib.hid hLl; have HTe := Lib.hid hTe; have HNe := Lib.hid hNe; have HUL := Lib.hid hul; have HUE := Lib.hid hue
  have hTN : T < N := by omega
  have hNn : N ≤ n + 1 := by omega
  clear h hL hLl hTe hNe hst hT hul hue
  go_enter Tryd.func20, Tryd.ntmps20
  go_wp2_with (at_builtin; refine wpList_app_lit rfl _ _ rfl cv s.cur rfl H.out.own 1 1 _ [10] rfl rfl (by omega) rfl (by omega) ?_; intro g cap w1 ho hn1 hk1; have c4 := (H.out.cellK hk1).1; have f4 := (H.out.cellK hk1).2; have HQ := Lib.hid (H.out.setLine hk1 _ _ ho (own_new hn1)); clear ho hn1 hk1)
  obtain ⟨h2, hf2⟩ := HQ.out
  clear HQ c4 f4
  rw [← HL.out] at h2
  rw [← HNe.out] at h2 hf2 ⊢
  generalize w1.setCell ⟨eb, 4, none⟩ (.slice (some ⟨g, 0, none⟩) N cap) = w2 at h2 hf2 ⊢
  obtain ⟨i1, i2, i3, i4, i5, i6⟩ := h2.lies
  have htr := trim_left w2 g 0 N cap L (by rw [HLl.out, HNe.out]) (fun j x hj => by rw [Nat.zero_add]; exact i1 j x hj) (by rw [← HTe.out]; exact hTN) i5
  rw [← HTe.out, Nat.zero_add] at htr
  have hcell : ∀ j x, (untab L)[j]? = some x → w2.cell? ⟨g, T + j, none⟩ = some (By x) := fun j x hj => by
    rw [HUE.out, List.getElem?_drop] at hj
    exact i1 _ x hj
  have hum : (untab L).length = N - T := by rw [HUL.out, HLl.out, HNe.out]
  obtain ⟨m, hm⟩ : ∃ m, m = N - T := ⟨_, rfl⟩
  obtain ⟨mc, hmc⟩ : ∃ mc, mc = cap - T := ⟨_, rfl⟩
  rw [← hm, ← hmc] at htr
  rw [← hm] at hum
  unfold maxLen at i6
  have hmm : m ≤ mc := by omega
  have hmc2 : mc ≤ 9223372036854775807 := by omega
  have hm1 : T + m ≤ N := by omega
  have hm2 : N ≤ T + m := by omega
  have HUM := Lib.hid hum; have HCE := Lib.hid hcell; have HTR := Lib.hid htr; have HF2 := Lib.hid hf2; have H2 := Lib.hid h2; have HG := Lib.hid i2; have HGN := Lib.hid i3
  clear hum hcell htr hf2 h2 hm hmc i1 i2 i3 i4
  have c0 := H2.out.c0; have c1 := H2.out.c1; have c2 := H2.out.c2; have c3 := H2.out.c3; have c4 := H2.out.c4
  have f2 := H2.out.free 2; have f3 := H2.out.free 3; have f4 := H2.out.free 4
  have hel : eb < w2.heap.size := heap_lt H2.out.blk
  have hen := H2.out.d1
  have HEN := Lib.hid hen; clear hen
  have q4 := fun k w => method_wb k ⟨wb, 0, none⟩ w
  have q5 := fun k w => nil_ahead_wb k ⟨wb, 0, none⟩ w
  have q6 := fun k w => method_ww k ⟨wb, 0, none⟩ w
  have q7 := fun k w => nil_ahead_ww k ⟨wb, 0, none⟩ w
  have q8 := fun w => slice_to0 g N cap w
  have hob := Iok.out hk
  have hsb : (n : Int) * (base + 8) ≤ 65544000000 := by
    have h1 : (n : Int) * (base + 8) ≤ 1000000 * (base + 8) := Int.mul_le_mul_of_nonneg_right (by omega) (by omega)
    omega
  have hmo : m = 1 := by rw [← HUM.out, HL.out]; exact h1
  subst hmo
  go_wp2_with fail
  refine HTR.out.mono ?_
  rintro e w' ⟨rfl, rfl⟩
  go_wp2_with fail
  refine (H2.out.wr.write g T 1 mc (untab L) HUM.out HG.out HCE.out HGN.out hmm hmc2 (by show s.out.length + 1 ≤ _; omega)).mono ?_
  rintro e w3 ⟨rfl, h3⟩
  obtain ⟨row3, h4, hf4⟩ := H2.out.write h3
  have d4 := h4.c4; have e4 := h4.free 4
  have HR := Lib.hid (h4.setLine (Kept.refl _ _) (.slice (some ⟨g, 0, none⟩) 0 cap) [] h4.own.cut (fun g' hg' => by cases hg'; exact .inl rfl))
  have HF4 := Lib.hid hf4
  clear h3 h4 hf4
  go_wp2_with fail
  go_ret
  exact ⟨rfl, row3, _, HR.out.1, (HF2.out.trans HF4.out).trans HR.out.2⟩

set_option maxRecDepth 100000 in
set_option maxHeartbeats 3200000 in
theorem wbyte_first {w : World} {eb wb rb b : Nat} {row : Option Nat} {cv : Value} {base : Int} {s : Is} {n : Nat} (h : Ix w eb wb rb b row cv base s) (hk : Iok base n s) (hb1 : 0 ≤ base) (hb2 : base ≤ 65536) (hn : n ≤ 1000000) (h1 : (untab (s.cur ++ [10])).length ≠ 1) (hfi0 : s.fi < 0) :
    Calls Tryd.prog 20 #[.pointer (some ⟨eb, 0, none⟩), .int .u8 10] w fun e w' => e = .returned .nilIface ∧ ∃ row' cv', Ix w' eb wb rb b row' cv' base (stepI base s 10) ∧ Fp (fp eb wb rb b row cv) (fp eb wb rb b row' cv') w w' := by
  have c4 := h.c4
  have hcl := hk.cur
  obtain ⟨L, hL⟩ : ∃ L, L = s.cur ++ [10] := ⟨_, rfl⟩
  have hT := tabs_lt (l := s.cur) (x := 10) (by decide)
  rw [← hL] at hT
  have hLl : L.length = s.cur.length + 1 := by rw [hL]; simp
  obtain ⟨T, hTe⟩ : ∃ T, T = tabs L := ⟨_, rfl⟩
  obtain ⟨N, hNe⟩ : ∃ N, N = s.cur.length + 1 := ⟨_, rfl⟩
  have hst : stepI base s 10 = ⟨(T : Int), base - (T : Int), [], s.out ++ [255] ++ List.replicate (base).toNat 9 ++ [255] ++ (escF (untab L)).1⟩ := by
    unfold stepI lineOut indent
    rw [if_neg (by decide), if_neg h1, ← hL]
    rw [← hL] at h1
    rw [if_neg h1, ← hTe]
    rw [if_pos hfi0, if_pos hfi0, if_pos hfi0]; simp [List.append_assoc]
  have hul := untab_len L
  have hue := untab_eq L
  rw [← hTe] at hT hul hue
  rw [hst]
  have H := Lib.hid h; have HL := Lib.hid hL; have HLl := Lib.hid hLl; have HTe := Lib.hid hTe; have HNe := Lib.hid hNe; have HUL := Lib.hid hul; have HUE := Lib.hid hue
  have hTN : T < N := by omega
  have hNn : N ≤ n + 1 := by omega
  clear h hL hLl hTe hNe hst hT hul hue
  go_enter Tryd.func20, Tryd.ntmps20
  go_wp2_with (at_builtin; refine wpList_app_lit rfl _ _ rfl cv s.cur rfl H.out.own 1 1 _ [10] rfl rfl (by omega) rfl (by omega) ?_; intro g cap w1 ho hn1 hk1; have c4 := (H.out.cellK hk1).1; have f4 := (H.out.cellK hk1).2; have HQ := Lib.hid (H.out.setLine hk1 _ _ ho (own_new hn1)); clear ho hn1 hk1)
  obtain ⟨h2, hf2⟩ := HQ.out
  clear HQ c4 f4
  rw [← HL.out] at h2
  rw [← HNe.out] at h2 hf2 ⊢
  generalize w1.setCell ⟨eb, 4, none⟩ (.slice (some ⟨g, 0, none⟩) N cap) = w2 at h2 hf2 ⊢
  obtain ⟨i1, i2, i3, i4, i5, i6⟩ := h2.lies
  have htr := trim_left w2 g 0 N cap L (by rw [HLl.out, HNe.out]) (fun j x hj => by rw [Nat.zero_add]; exact i1 j x hj) (by rw [← HTe.out]; exact hTN) i5
  rw [← HTe.out, Nat.zero_add] at htr
  have hcell : ∀ j x, (untab L)[j]? = some x → w2.cell? ⟨g, T + j, none⟩ = some (By x) := fun j x hj => by
    rw [HUE.out, List.getElem?_drop] at hj
    exact i1 _ x hj
  have hum : (untab L).length = N - T := by rw [HUL.out, HLl.out, HNe.out]
  obtain ⟨m, hm⟩ : ∃ m, m = N - T := ⟨_, rfl⟩
  obtain ⟨mc, hmc⟩ : ∃ mc, mc = cap - T := ⟨_, rfl⟩
  rw [← hm, ← hmc] at htr
  rw [← hm] at hum
  unfold maxLen at i6
  have hmm : m ≤ mc := by omega
  have hmc2 : mc ≤ 9223372036854775807 := by omega
  have hm1 : T + m ≤ N := by omega
  have hm2 : N ≤ T + m := by omega
  have HUM := Lib.hid hum; have HCE := Lib.hid hcell; have HTR := Lib.hid htr; have HF2 := Lib.hid hf2; have H2 := Lib.hid h2; have HG := Lib.hid i2; have HGN := Lib.hid i3
  clear hum hcell htr hf2 h2 hm hmc i1 i2 i3 i4
  have c0 := H2.out.c0; have c1 := H2.out.c1; have c2 := H2.out.c2; have c3 := H2.out.c3; have c4 := H2.out.c4
  have f2 := H2.out.free 2; have f3 := H2.out.free 3; have f4 := H2.out.free 4
  have hel : eb < w2.heap.size := heap_lt H2.out.blk
  have hen := H2.out.d1
  have HEN := Lib.hid hen; clear hen
  have q4 := fun k w => method_wb k ⟨wb, 0, none⟩ w
  have q5 := fun k w => nil_ahead_wb k ⟨wb, 0, none⟩ w
  have q6 := fun k w => method_ww k ⟨wb, 0, none⟩ w
  have q7 := fun k w => nil_ahead_ww k ⟨wb, 0, none⟩ w
  have q8 := fun w => slice_to0 g N cap w
  have hob := Iok.out hk
  have hsb : (n : Int) * (base + 8) ≤ 65544000000 := by
    have h1 : (n : Int) * (base + 8) ≤ 1000000 * (base + 8) := Int.mul_le_mul_of_nonneg_right (by omega) (by omega)
    omega
  have hmo : m ≠ 1 := by rw [← HUM.out, HL.out]; exact h1
  have hfi := hk.hi; have hfl := hk.lo
  have g1 : ((m : Int) == 1) = false := by simp; omega
  have e1 : ((N : Int) - m) = T := by omega
  clear hmo h1
  go_wp2_with fail
  refine HTR.out.mono ?_
  rintro e w' ⟨rfl, rfl⟩
  go_wp2_with fail
  have h3 := (H2.out.set 2 (.int .i64 T) { fi := T, fc := s.fc, cur := L, out := s.out } rfl rfl rfl).set 3 (.int .i64 (base - T)) { fi := T, fc := base - T, cur := L, out := s.out } rfl rfl rfl
  have hf3 : Fp (fp eb wb rb b row cv) (fp eb wb rb b row (.slice (some ⟨g, 0, none⟩) N cap)) w ((w2.setCell ⟨eb, 2, none⟩ (.int .i64 T)).setCell ⟨eb, 3, none⟩ (.int .i64 (base - T))) := HF2.out.trans ⟨fun _ h => .inl h, ((Kept.refl _ _).setCell (p := ⟨eb, 2, none⟩) (by simp [fp]) _).setCell (p := ⟨eb, 3, none⟩) (by simp [fp]) _⟩
  generalize ((w2.setCell ⟨eb, 2, none⟩ (.int .i64 T)).setCell ⟨eb, 3, none⟩ (.int .i64 (base - T))) = w3 at h3 hf3 ⊢
  have H3 := Lib.hid h3; have HF3 := Lib.hid hf3; clear h3 hf3 c0 c1 c2 c3 c4 f2 f3 f4
  have c0 := H3.out.c0; have c4 := H3.out.c4; have f4 := H3.out.free 4
  have hel3 : eb < w3.heap.size := heap_lt H3.out.blk
  have HEN3 := Lib.hid H3.out.d1
  obtain ⟨j1, j2, j3, j4, j5, j6⟩ := H3.out.lies
  have hlies : Lies w3 (wb :: rb :: b :: row.toList) (some ⟨g, T, none⟩) m (untab L) := by
    refine ⟨⟨HUM.out, fun _ => ⟨g, T, rfl, j2, fun j x hj => ?_⟩⟩, fun a ha => by cases ha; exact j3⟩
    rw [HUE.out, List.getElem?_drop] at hj
    exact j1 _ x hj
  have HLI := Lib.hid hlies
  clear j1 j2 j3 j4 j5 j6 hlies
  refine (H3.out.wr.byte 255 255 rfl (by show s.out.length ≤ _; omega)).mono ?_
  rintro e w4 ⟨rfl, h4⟩
  have H4 := Lib.hid h4; clear h4
  go_wp2_with fail
  go_loopw [93] (fun s93 wr => ∃ k : Nat, (k : Int) ≤ base ∧ s93 = .int .i64 k ∧ Hid (Wr w3 wb rb b row (s.out ++ [255] ++ List.replicate k 9) wr)) (fun s93 _ => (base - intOf s93).toNat)
  case atStart => exact ⟨0, by omega, rfl, Lib.hid (by simpa using H4.out)⟩
  case round =>
    obtain ⟨k, hkl, rfl, hrel⟩ := hrel
    have c0 : wr.cell? ⟨eb, 0, none⟩ = some (wrV wb) := (hrel.out.cell hel3 HEN3.out).trans H3.out.c0
    clear H4
    by_cases hlt : (k : Int) < base
    · go_wp2_with fail
      refine (hrel.out.byte 9 9 rfl (by simp; omega)).mono ?_
      rintro e w5 ⟨rfl, h5⟩
      rw [List.append_assoc, ← List.replicate_succ'] at h5
      have H5 := Lib.hid h5; clear h5
      go_wp2_with fail
      go_roundw
      case rel => exact ⟨k + 1, by omega, by go_num, H5⟩
      case measure => simp [intOf]; omega
    · have hke : (base).toNat = k := by omega
      have HKE := Lib.hid hke; clear hke
      go_wp2_with fail
      refine (hrel.out.byte 255 255 rfl (by simp; omega)).mono ?_
      rintro e w5 ⟨rfl, h5⟩
      have H5 := Lib.hid h5; clear h5
      go_wp2_with fail
      refine (esc_walk H5.out H3.out.c0 hel3 HEN3.out (some ⟨g, T, none⟩) m mc (untab L) HLI.out (by simp; omega)).mono ?_
      rintro e w6 ⟨rfl, h6⟩
      obtain ⟨row6, h7, hf7⟩ := H3.out.write h6
      have d4 := h7.c4; have e4 := h7.free 4
      have HR := Lib.hid (h7.setLine (Kept.refl _ _) (.slice (some ⟨g, 0, none⟩) 0 cap) [] h7.own.cut (fun g' hg' => by cases hg'; exact .inl rfl))
      have HF7 := Lib.hid hf7
      clear h6 h7 hf7
      go_wp2_with fail
      go_ret
      rw [HKE.out]
      exact ⟨rfl, row6, _, HR.out.1, (HF3.out.trans HF7.out).trans HR.out.2⟩

set_option maxRecDepth 100000 in
set_option maxHeartbeats 3200000 in
theorem wbyte_short {w : World} {eb wb rb b : Nat} {row : Option Nat} {cv : Value} {base : Int} {s : Is} {n : Nat} (h : Ix w eb wb rb b row cv base s) (hk : Iok base n s) (hb1 : 0 ≤ base) (hb2 : base ≤ 65536) (hn : n ≤ 1000000) (h1 : (untab (s.cur ++ [10])).length ≠ 1) (hfi0 : 0 ≤ s.fi) (hfT : (tabs (s.cur ++ [10]) : Int) < s.fi) :
    Calls Tryd.prog 20 #[.pointer (some ⟨eb, 0, none⟩), .int .u8 10] w fun e w' => e = .returned .nilIface ∧ ∃ row' cv', Ix w' eb wb rb b row' cv' base (stepI base s 10) ∧ Fp (fp eb wb rb b row cv) (fp eb wb rb b row' cv') w w' := by
  have c4 := h.c4
  have hcl := hk.cur
  obtain ⟨L, hL⟩ : ∃ L, L = s.cur ++ [10] := ⟨_, rfl⟩
  have hT := tabs_lt (l := s.cur) (x := 10) (by decide)
  rw [← hL] at hT
  have hLl : L.length = s.cur.length + 1 := by rw [hL]; simp
  obtain ⟨T, hTe⟩ : ∃ T, T = tabs L := ⟨_, rfl⟩
  obtain ⟨N, hNe⟩ : ∃ N, N = s.cur.length + 1 := ⟨_, rfl⟩
  have hst : stepI base s 10 = ⟨s.fi, s.fc, [], s.out ++ [255] ++ List.replicate (base).toNat 9 ++ [255] ++ (escF (untab L)).1⟩ := by
    unfold stepI lineOut indent
    rw [if_neg (by decide), if_neg h1, ← hL]
    rw [← hL] at h1
    rw [if_neg h1, ← hTe]
    rw [← hL, ← hTe] at hfT; rw [if_neg (by omega), if_neg (by omega), if_neg (by omega), if_pos hfT]; simp [List.append_assoc]
  have hul := untab_len L
  have hue := untab_eq L
  rw [← hTe] at hT hul hue
  rw [hst]
  have H := Lib.hid h; have HL := Lib.hid hL; have HLl := Lib.hid hLl; have HTe := Lib.hid hTe; have HNe := Lib.hid hNe; have HUL := Lib.hid hul; have HUE := Lib.hid hue
  have hTN : T < N := by omega
  have hNn : N ≤ n + 1 := by omega
  clear h hL hLl hTe hNe hst hT hul hue
  go_enter Tryd.func20, Tryd.ntmps20
  go_wp2_with (at_builtin; refine wpList_app_lit rfl _ _ rfl cv s.cur rfl H.out.own 1 1 _ [10] rfl rfl (by omega) rfl (by omega) ?_; intro g cap w1 ho hn1 hk1; have c4 := (H.out.cellK hk1).1; have f4 := (H.out.cellK hk1).2; have HQ := Lib.hid (H.out.setLine hk1 _ _ ho (own_new hn1)); clear ho hn1 hk1)
  obtain ⟨h2, hf2⟩ := HQ.out
  clear HQ c4 f4
  rw [← HL.out] at h2
  rw [← HNe.out] at h2 hf2 ⊢
  generalize w1.setCell ⟨eb, 4, none⟩ (.slice (some ⟨g, 0, none⟩) N cap) = w2 at h2 hf2 ⊢
  obtain ⟨i1, i2, i3, i4, i5, i6⟩ := h2.lies
  have htr := trim_left w2 g 0 N cap L (by rw [HLl.out, HNe.out]) (fun j x hj => by rw [Nat.zero_add]; exact i1 j x hj) (by rw [← HTe.out]; exact hTN) i5
  rw [← HTe.out, Nat.zero_add] at htr
  have hcell : ∀ j x, (untab L)[j]? = some x → w2.cell? ⟨g, T + j, none⟩ = some (By x) := fun j x hj => by
    rw [HUE.out, List.getElem?_drop] at hj
    exact i1 _ x hj
  have hum : (untab L).length = N - T := by rw [HUL.out, HLl.out, HNe.out]
  obtain ⟨m, hm⟩ : ∃ m, m = N - T := ⟨_, rfl⟩
  obtain ⟨mc, hmc⟩ : ∃ mc, mc = cap - T := ⟨_, rfl⟩
  rw [← hm, ← hmc] at htr
  rw [← hm] at hum
  unfold maxLen at i6
  have hmm : m ≤ mc := by omega
  have hmc2 : mc ≤ 9223372036854775807 := by omega
  have hm1 : T + m ≤ N := by omega
  have hm2 : N ≤ T + m := by omega
  have HUM := Lib.hid hum; have HCE := Lib.hid hcell; have HTR := Lib.hid htr; have HF2 := Lib.hid hf2; have H2 := Lib.hid h2; have HG := Lib.hid i2; have HGN := Lib.hid i3
  clear hum hcell htr hf2 h2 hm hmc i1 i2 i3 i4
  have c0 := H2.out.c0; have c1 := H2.out.c1; have c2 := H2.out.c2; have c3 := H2.out.c3; have c4 := H2.out.c4
  have f2 := H2.out.free 2; have f3 := H2.out.free 3; have f4 := H2.out.free 4
  have hel : eb < w2.heap.size := heap_lt H2.out.blk
  have hen := H2.out.d1
  have HEN := Lib.hid hen; clear hen
  have q4 := fun k w => method_wb k ⟨wb, 0, none⟩ w
  have q5 := fun k w => nil_ahead_wb k ⟨wb, 0, none⟩ w
  have q6 := fun k w => method_ww k ⟨wb, 0, none⟩ w
  have q7 := fun k w => nil_ahead_ww k ⟨wb, 0, none⟩ w
  have q8 := fun w => slice_to0 g N cap w
  have hob := Iok.out hk
  have hsb : (n : Int) * (base + 8) ≤ 65544000000 := by
    have h1 : (n : Int) * (base + 8) ≤ 1000000 * (base + 8) := Int.mul_le_mul_of_nonneg_right (by omega) (by omega)
    omega
  have hmo : m ≠ 1 := by rw [← HUM.out, HL.out]; exact h1
  have hfi := hk.hi; have hfl := hk.lo
  have g1 : ((m : Int) == 1) = false := by simp; omega
  have e1 : ((N : Int) - m) = T := by omega
  have hfT : (T : Int) < s.fi := by rw [HTe.out, HL.out]; exact hfT
  clear hmo h1
  go_wp2_with fail
  refine HTR.out.mono ?_
  rintro e w' ⟨rfl, rfl⟩
  go_wp2_with fail
  obtain ⟨w3, hw3⟩ : ∃ w3, w3 = w2 := ⟨_, rfl⟩
  have H3 : Hid (Ix w3 eb wb rb b row (.slice (some ⟨g, 0, none⟩) N cap) base { s with cur := L }) := by rw [hw3]; exact H2
  have HF3 : Hid (Fp (fp eb wb rb b row cv) (fp eb wb rb b row (.slice (some ⟨g, 0, none⟩) N cap)) w w3) := by rw [hw3]; exact HF2
  rw [← hw3]
  clear hw3 c0 c1 c2 c3 c4 f2 f3 f4
  have c0 := H3.out.c0; have c4 := H3.out.c4; have f4 := H3.out.free 4
  have hel3 : eb < w3.heap.size := heap_lt H3.out.blk
  have HEN3 := Lib.hid H3.out.d1
  obtain ⟨j1, j2, j3, j4, j5, j6⟩ := H3.out.lies
  have hlies : Lies w3 (wb :: rb :: b :: row.toList) (some ⟨g, T, none⟩) m (untab L) := by
    refine ⟨⟨HUM.out, fun _ => ⟨g, T, rfl, j2, fun j x hj => ?_⟩⟩, fun a ha => by cases ha; exact j3⟩
    rw [HUE.out, List.getElem?_drop] at hj
    exact j1 _ x hj
  have HLI := Lib.hid hlies
  clear j1 j2 j3 j4 j5 j6 hlies
  refine (H3.out.wr.byte 255 255 rfl (by show s.out.length ≤ _; omega)).mono ?_
  rintro e w4 ⟨rfl, h4⟩
  have H4 := Lib.hid h4; clear h4
  go_wp2_with fail
  go_loopw [93] (fun s93 wr => ∃ k : Nat, (k : Int) ≤ base ∧ s93 = .int .i64 k ∧ Hid (Wr w3 wb rb b row (s.out ++ [255] ++ List.replicate k 9) wr)) (fun s93 _ => (base - intOf s93).toNat)
  case atStart => exact ⟨0, by omega, rfl, Lib.hid (by simpa using H4.out)⟩
  case round =>
    obtain ⟨k, hkl, rfl, hrel⟩ := hrel
    have c0 : wr.cell? ⟨eb, 0, none⟩ = some (wrV wb) := (hrel.out.cell hel3 HEN3.out).trans H3.out.c0
    clear H4
    by_cases hlt : (k : Int) < base
    · go_wp2_with fail
      refine (hrel.out.byte 9 9 rfl (by simp; omega)).mono ?_
      rintro e w5 ⟨rfl, h5⟩
      rw [List.append_assoc, ← List.replicate_succ'] at h5
      have H5 := Lib.hid h5; clear h5
      go_wp2_with fail
      go_roundw
      case rel => exact ⟨k + 1, by omega, by go_num, H5⟩
      case measure => simp [intOf]; omega
    · have hke : (base).toNat = k := by omega
      have HKE := Lib.hid hke; clear hke
      go_wp2_with fail
      refine (hrel.out.byte 255 255 rfl (by simp; omega)).mono ?_
      rintro e w5 ⟨rfl, h5⟩
      have H5 := Lib.hid h5; clear h5
      go_wp2_with fail
      refine (esc_walk H5.out H3.out.c0 hel3 HEN3.out (some ⟨g, T, none⟩) m mc (untab L) HLI.out (by simp; omega)).mono ?_
      rintro e w6 ⟨rfl, h6⟩
      obtain ⟨row6, h7, hf7⟩ := H3.out.write h6
      have d4 := h7.c4; have e4 := h7.free 4
      have HR := Lib.hid (h7.setLine (Kept.refl _ _) (.slice (some ⟨g, 0, none⟩) 0 cap) [] h7.own.cut (fun g' hg' => by cases hg'; exact .inl rfl))
      have HF7 := Lib.hid hf7
      clear h6 h7 hf7
      go_wp2_with fail
      go_ret
      rw [HKE.out]
      exact ⟨rfl, row6, _, HR.out.1, (HF3.out.trans HF7.out).trans HR.out.2⟩

set_option maxRecDepth 100000 in
set_option maxHeartbeats 3200000 in
theorem wbyte_long {w : World} {eb wb rb b : Nat} {row : Option Nat} {cv : Value} {base : Int} {s : Is} {n : Nat} (h : Ix w eb wb rb b row cv base s) (hk : Iok base n s) (hb1 : 0 ≤ base) (hb2 : base ≤ 65536) (hn : n ≤ 1000000) (h1 : (untab (s.cur ++ [10])).length ≠ 1) (hfi0 : 0 ≤ s.fi) (hfT : s.fi ≤ (tabs (s.cur ++ [10]) : Int)) :
    Calls Tryd.prog 20 #[.pointer (some ⟨eb, 0, none⟩), .int .u8 10] w fun e w' => e = .returned .nilIface ∧ ∃ row' cv', Ix w' eb wb rb b row' cv' base (stepI base s 10) ∧ Fp (fp eb wb rb b row cv) (fp eb wb rb b row' cv') w w' := by
  have c4 := h.c4
  have hcl := hk.cur
  obtain ⟨L, hL⟩ : ∃ L, L = s.cur ++ [10] := ⟨_, rfl⟩
  have hT := tabs_lt (l := s.cur) (x := 10) (by decide)
  rw [← hL] at hT
  have hLl : L.length = s.cur.length + 1 := by rw [hL]; simp
  obtain ⟨T, hTe⟩ : ∃ T, T = tabs L := ⟨_, rfl⟩
  obtain ⟨N, hNe⟩ : ∃ N, N = s.cur.length + 1 := ⟨_, rfl⟩
  have hst : stepI base s 10 = ⟨s.fi, s.fc, [], s.out ++ [255] ++ List.replicate (((T : Int) + s.fc)).toNat 9 ++ [255] ++ (escF (untab L)).1⟩ := by
    unfold stepI lineOut indent
    rw [if_neg (by decide), if_neg h1, ← hL]
    rw [← hL] at h1
    rw [if_neg h1, ← hTe]
    rw [← hL, ← hTe] at hfT; rw [if_neg (by omega), if_neg (by omega), if_neg (by omega), if_neg (by omega)]; simp [List.append_assoc]
  have hul := untab_len L
  have hue := untab_eq L
  rw [← hTe] at hT hul hue
  rw [hst]
  have H := Lib.hid h; have HL := Lib.hid hL; have HLl := Lib.hid hLl; have HTe := Lib.hid hTe; have HNe := Lib.hid hNe; have HUL := Lib.hid hul; have HUE := Lib.hid hue
  have hTN : T < N := by omega
  have hNn : N ≤ n + 1 := by omega
  clear h hL hLl hTe hNe hst hT hul hue
  go_enter Tryd.func20, Tryd.ntmps20
  go_wp2_with (at_builtin; refine wpList_app_lit rfl _ _ rfl cv s.cur rfl H.out.own 1 1 _ [10] rfl rfl (by omega) rfl (by omega) ?_; intro g cap w1 ho hn1 hk1; have c4 := (H.out.cellK hk1).1; have f4 := (H.out.cellK hk1).2; have HQ := Lib.hid (H.out.setLine hk1 _ _ ho (own_new hn1)); clear ho hn1 hk1)
  obtain ⟨h2, hf2⟩ := HQ.out
  clear HQ c4 f4
  rw [← HL.out] at h2
  rw [← HNe.out] at h2 hf2 ⊢
  generalize w1.setCell ⟨eb, 4, none⟩ (.slice (some ⟨g, 0, none⟩) N cap) = w2 at h2 hf2 ⊢
  obtain ⟨i1, i2, i3, i4, i5, i6⟩ := h2.lies
  have htr := trim_left w2 g 0 N cap L (by rw [HLl.out, HNe.out]) (fun j x hj => by rw [Nat.zero_add]; exact i1 j x hj) (by rw [← HTe.out]; exact hTN) i5
  rw [← HTe.out, Nat.zero_add] at htr
  have hcell : ∀ j x, (untab L)[j]? = some x → w2.cell? ⟨g, T + j, none⟩ = some (By x) := fun j x hj => by
    rw [HUE.out, List.getElem?_drop] at hj
    exact i1 _ x hj
  have hum : (untab L).length = N - T := by rw [HUL.out, HLl.out, HNe.out]
  obtain ⟨m, hm⟩ : ∃ m, m = N - T := ⟨_, rfl⟩
  obtain ⟨mc, hmc⟩ : ∃ mc, mc = cap - T := ⟨_, rfl⟩
  rw [← hm, ← hmc] at htr
  rw [← hm] at hum
  unfold maxLen at i6
  have hmm : m ≤ mc := by omega
  have hmc2 : mc ≤ 9223372036854775807 := by omega
  have hm1 : T + m ≤ N := by omega
  have hm2 : N ≤ T + m := by omega
  have HUM := Lib.hid hum; have HCE := Lib.hid hcell; have HTR := Lib.hid htr; have HF2 := Lib.hid hf2; have H2 := Lib.hid h2; have HG := Lib.hid i2; have HGN := Lib.hid i3
  clear hum hcell htr hf2 h2 hm hmc i1 i2 i3 i4
  have c0 := H2.out.c0; have c1 := H2.out.c1; have c2 := H2.out.c2; have c3 := H2.out.c3; have c4 := H2.out.c4
  have f2 := H2.out.free 2; have f3 := H2.out.free 3; have f4 := H2.out.free 4
  have hel : eb < w2.heap.size := heap_lt H2.out.blk
  have hen := H2.out.d1
  have HEN := Lib.hid hen; clear hen
  have q4 := fun k w => method_wb k ⟨wb, 0, none⟩ w
  have q5 := fun k w => nil_ahead_wb k ⟨wb, 0, none⟩ w
  have q6 := fun k w => method_ww k ⟨wb, 0, none⟩ w
  have q7 := fun k w => nil_ahead_ww k ⟨wb, 0, none⟩ w
  have q8 := fun w => slice_to0 g N cap w
  have hob := Iok.out hk
  have hsb : (n : Int) * (base + 8) ≤ 65544000000 := by
    have h1 : (n : Int) * (base + 8) ≤ 1000000 * (base + 8) := Int.mul_le_mul_of_nonneg_right (by omega) (by omega)
    omega
  have hmo : m ≠ 1 := by rw [← HUM.out, HL.out]; exact h1
  have hfi := hk.hi; have hfl := hk.lo
  have g1 : ((m : Int) == 1) = false := by simp; omega
  have e1 : ((N : Int) - m) = T := by omega
  have hfT : s.fi ≤ (T : Int) := by rw [HTe.out, HL.out]; exact hfT
  have hc1 : s.fc ≤ base - s.fi := by have := hk.fc hfi0; omega
  have hc2 : base - s.fi ≤ s.fc := by have := hk.fc hfi0; omega
  clear hmo h1
  go_wp2_with fail
  refine HTR.out.mono ?_
  rintro e w' ⟨rfl, rfl⟩
  go_wp2_with fail
  obtain ⟨w3, hw3⟩ : ∃ w3, w3 = w2 := ⟨_, rfl⟩
  have H3 : Hid (Ix w3 eb wb rb b row (.slice (some ⟨g, 0, none⟩) N cap) base { s with cur := L }) := by rw [hw3]; exact H2
  have HF3 : Hid (Fp (fp eb wb rb b row cv) (fp eb wb rb b row (.slice (some ⟨g, 0, none⟩) N cap)) w w3) := by rw [hw3]; exact HF2
  rw [← hw3]
  clear hw3 c0 c1 c2 c3 c4 f2 f3 f4
  have c0 := H3.out.c0; have c4 := H3.out.c4; have f4 := H3.out.free 4
  have hel3 : eb < w3.heap.size := heap_lt H3.out.blk
  have HEN3 := Lib.hid H3.out.d1
  obtain ⟨j1, j2, j3, j4, j5, j6⟩ := H3.out.lies
  have hlies : Lies w3 (wb :: rb :: b :: row.toList) (some ⟨g, T, none⟩) m (untab L) := by
    refine ⟨⟨HUM.out, fun _ => ⟨g, T, rfl, j2, fun j x hj => ?_⟩⟩, fun a ha => by cases ha; exact j3⟩
    rw [HUE.out, List.getElem?_drop] at hj
    exact j1 _ x hj
  have HLI := Lib.hid hlies
  clear j1 j2 j3 j4 j5 j6 hlies
  refine (H3.out.wr.byte 255 255 rfl (by show s.out.length ≤ _; omega)).mono ?_
  rintro e w4 ⟨rfl, h4⟩
  have H4 := Lib.hid h4; clear h4
  go_wp2_with fail
  go_loopw [93] (fun s93 wr => ∃ k : Nat, (k : Int) ≤ ((T : Int) + s.fc) ∧ s93 = .int .i64 k ∧ Hid (Wr w3 wb rb b row (s.out ++ [255] ++ List.replicate k 9) wr)) (fun s93 _ => (((T : Int) + s.fc) - intOf s93).toNat)
  case atStart => exact ⟨0, by omega, rfl, Lib.hid (by simpa using H4.out)⟩
  case round =>
    obtain ⟨k, hkl, rfl, hrel⟩ := hrel
    have c0 : wr.cell? ⟨eb, 0, none⟩ = some (wrV wb) := (hrel.out.cell hel3 HEN3.out).trans H3.out.c0
    clear H4
    by_cases hlt : (k : Int) < ((T : Int) + s.fc)
    · go_wp2_with fail
      refine (hrel.out.byte 9 9 rfl (by simp; omega)).mono ?_
      rintro e w5 ⟨rfl, h5⟩
      rw [List.append_assoc, ← List.replicate_succ'] at h5
      have H5 := Lib.hid h5; clear h5
      go_wp2_with fail
      go_roundw
      case rel => exact ⟨k + 1, by omega, by go_num, H5⟩
      case measure => simp [intOf]; omega
    · have hke : (((T : Int) + s.fc)).toNat = k := by omega
      have HKE := Lib.hid hke; clear hke
      go_wp2_with fail
      refine (hrel.out.byte 255 255 rfl (by simp; omega)).mono ?_
      rintro e w5 ⟨rfl, h5⟩
      have H5 := Lib.hid h5; clear h5
      go_wp2_with fail
      refine (esc_walk H5.out H3.out.c0 hel3 HEN3.out (some ⟨g, T, none⟩) m mc (untab L) HLI.out (by simp; omega)).mono ?_
      rintro e w6 ⟨rfl, h6⟩
      obtain ⟨row6, h7, hf7⟩ := H3.out.write h6
      have d4 := h7.c4; have e4 := h7.free 4
      have HR := Lib.hid (h7.setLine (Kept.refl _ _) (.slice (some ⟨g, 0, none⟩) 0 cap) [] h7.own.cut (fun g' hg' => by cases hg'; exact .inl rfl))
      have HF7 := Lib.hid hf7
      clear h6 h7 hf7
      go_wp2_with fail
      go_ret
      rw [HKE.out]
      exact ⟨rfl, row6, _, HR.out.1, (HF3.out.trans HF7.out).trans HR.out.2⟩

theorem wbyte {w : World} {eb wb rb b : Nat} {row : Option Nat} {cv : Value} {base : Int} {s : Is} {n : Nat} (h : Ix w eb wb rb b row cv base s) (hk : Iok base n s) (hb1 : 0 ≤ base) (hb2 : base ≤ 65536) (hn : n ≤ 1000000) (x : UInt8) :
    Calls Tryd.prog 20 #[.pointer (some ⟨eb, 0, none⟩), .int .u8 x.toNat] w fun e w' => e = .returned .nilIface ∧ ∃ row' cv', Ix w' eb wb rb b row' cv' base (stepI base s x) ∧ Fp (fp eb wb rb b row cv) (fp eb wb rb b row' cv') w w' := by
  by_cases hx : x.toNat = 10
  · obtain rfl : x = 10 := UInt8.toNat_inj.1 hx
    by_cases h1 : (untab (s.cur ++ [10])).length = 1
    · exact wbyte_bare h hk hb1 hb2 hn h1
    · by_cases hfi : s.fi < 0
      · exact wbyte_first h hk hb1 hb2 hn h1 hfi
      · by_cases hfT : (tabs (s.cur ++ [10]) : Int) < s.fi
        · exact wbyte_short h hk hb1 hb2 hn h1 (by omega) hfT
        · exact wbyte_long h hk hb1 hb2 hn h1 (by omega) (by omega)
  · have e : stepI base s x = { s with cur := s.cur ++ [x] } := by unfold stepI; rw [if_pos hx]
    rw [e]
    exact wbyte_keep h (by have := hk.cur; omega) x hx
end Go.Proofs.YtejjmonaoajlgaaDoor
