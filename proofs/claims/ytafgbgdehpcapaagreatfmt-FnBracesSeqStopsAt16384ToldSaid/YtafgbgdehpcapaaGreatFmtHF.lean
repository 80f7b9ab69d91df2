/-
  bracesSeqRec at a brace that is a list, walked.
-/
import Derived.Test.YtafgbgdehpcapaaGreatFmtHE
namespace Go.Proofs.YtafgbgdehpcapaaGreatFmt
open Go.RowKit

set_option maxRecDepth 100000 in
set_option maxHeartbeats 3200000 in
theorem bsr_br {w0 : World} {B : Nat} {ls : List Value} (hls : ∀ v ∈ ls, IsLit v) {b n : Nat} {eb : Nat → Nat} (hb : BrAt w0 B b ((List.range n).map fun k => .pointer (some ⟨eb k, 0, none⟩))) {r : List Value} {ps : Nat → List Value}
    (hw : ∀ k, k < n → ∃ pv, WordAt w0 (eb k) pv ∧ eb k < B ∧ RdV (· < B) w0 pv (ps k)) {ys : Nat → List (List Value)} (hlen : ∀ k, k < n → (ps k ++ r).length ≤ 1000000) (ho : ∀ k, k < n → ∀ v ∈ ps k ++ r, v.oneCell' = true) (ih : ∀ k, k < n → BsrOk w0 B (ps k ++ r) (ys k)) {f : Nat → List (List Value)} (hf : f = fun k => (ys k).map (ls ++ ·)) :
    BsrOk w0 B (ls ++ brV b :: r) ((List.range n).flatMap f) := by
  intro σ G fk cap step J hc hl6 s F w pw v hG hj hold hword hpw hrow
  have HRO := Lib.hid hrow
  obtain ⟨A, c, rfl, a1, a2, a3, a5, a4⟩ := hrow
  obtain ⟨nn, hnn⟩ : ∃ nn, nn = (ls ++ brV b :: r).length := ⟨_, rfl⟩
  have hnl : ls.length < nn := by rw [hnn, List.length_append, List.length_cons]; omega
  obtain ⟨g, o, rfl, hg, hgF, hcell⟩ := a4 (by rw [← hnn]; omega)
  rw [← hnn] at HRO a1 hl6
  have c1 := row0 hword
  rw [← hnn] at hword c1
  obtain ⟨hbB, ev, hbb, hev⟩ := hb
  obtain ⟨E, cE, hev2, e1, e2, e3, e5, e4⟩ := hev
  simp only [List.length_map, List.length_range] at hev2 e1 e4
  subst hev2
  have hz : pw < w.heap.size := heap_lt hword
  have HCELL : Hid (∀ (k : Nat) (x : Value), (ls ++ brV b :: r)[k]? = some x → w.cell? ⟨g, o + k, none⟩ = some x) := Lib.hid (fun k x hx => hcell k x hx)
  have HBR : Hid (w.cell? ⟨g, o + ls.length, none⟩ = some (.iface 42 (.pointer (some ⟨b, 0, none⟩)))) := Lib.hid (hcell ls.length (brV b) (by rw [List.getElem?_append_right (Nat.le_refl _), Nat.sub_self]; rfl))
  obtain ⟨X, hsl, hrest⟩ := rdV_drop HRO.out (k := ls.length + 1) (by rw [← hnn]; omega)
  have hdr : (ls ++ brV b :: r).drop (ls.length + 1) = r := by rw [List.drop_append]; simp
  rw [hdr] at hrest
  have HNN := Lib.hid hnn
  have HREST := Lib.hid hrest
  have HWA := Lib.hid hword; have HJ := Lib.hid hj; have HP := Lib.hid hpw; have HO := Lib.hid hold; have HLS := Lib.hid hls; have HBB := Lib.hid hbb; have HE4 := Lib.hid e4; have HW := Lib.hid hw; have HOL := Lib.hid hold.1
  have HLEN := Lib.hid hlen; have HONE := Lib.hid ho; have HIH := Lib.hid ih; have HG := Lib.hid hG; have HGF := Lib.hid hgF; have HFF := Lib.hid hf
  have hfj : ∀ j, f j = (ys j).map (ls ++ ·) := fun j => by rw [hf]
  have HFJ := Lib.hid hfj
  unfold maxLen at a2 e2
  clear hword a3 a4 a5 e3 e4 e5 hj hpw hold hls hcell hbb hw hlen ho ih hG hgF hrest hdr hnn hf hfj
  have hst := Lib.hid (left_start w (.func (.func fk) #[] cap))
  have hmf := mk_func
  have hta0 := ta_br_br b
  go_enter Tryz.func21, Tryz.ntmps21
  go_wp2_with fail
  go_loopw [4, 35] (fun q i wr => ∃ k : Nat, k ≤ ls.length ∧ i = .int .i64 k ∧ q = .bool false ∧ Hid (∃ A' m', Left w wr (.func (.func fk) #[] cap) A' k m' (ls.take k))) (fun _ i _ => nn - (intOf i).toNat)
  case atStart => exact ⟨0, Nat.zero_le _, rfl, rfl, Lib.hid ⟨none, 0, by simpa using hst.out⟩⟩
  case round =>
    obtain ⟨k, hk, rfl, rfl, HI⟩ := hrel
    by_cases hlt : k < ls.length
    · obtain ⟨A1, m1, hl⟩ := HI.out
      have HL := Lib.hid hl
      have hltn : k < nn := by omega
      obtain ⟨lb', hb⟩ := HLS.out _ (List.getElem_mem hlt)
      have hcell : w.cell? ⟨g, o + k, none⟩ = some ls[k] := HCELL.out k _ (by rw [List.getElem?_append_left hlt]; exact List.getElem?_eq_getElem hlt)
      rw [hb] at hcell
      unfold litV at hcell
      obtain ⟨h0, h1, h2, h3, h4, h5⟩ := hl
      have d0 : wr.cell? ⟨g, o + k, none⟩ = some (.iface 40 (.pointer (some ⟨lb', 0, none⟩))) := (h5.cell (p := ⟨g, o + k, none⟩) hg (by simp)).trans hcell
      have d1 := row0 h2
      have f1 := row0f h2
      have hzz := heap_lt h2
      have HB := Lib.hid hb
      have HOW := Lib.hid (h3.kept ((Kept.refl [] wr).alloc (.cells #[.iface 40 (.pointer (some ⟨lb', 0, none⟩))] 52)) (by simp))
      have HNL : Hid (_ = some (Obj.cells #[.slice A1 k m1] 44 (0, 0))) := Lib.hid h2
      have HLE : Hid ((ls.take k).length = k) := Lib.hid h0
      clear h0 h1 h2 h3 h4 h5 hcell hb
      have hta := ta_lit_br lb'
      go_wp2_with (at_builtin; refine wpList_app wp_el rfl _ _ rfl rfl rfl HOW.out (OwnV.lit wr [.iface 40 (.pointer (some ⟨lb', 0, none⟩))] (by simp)).rd (by simp; rfl) (by simp; omega) ?_; intro v' w2 ho hb' hk'; obtain ⟨A2, m2, hv2, _, _, _, _, _⟩ := ho.rd; rw [List.length_append, HLE.out, show [Value.iface 40 (.pointer (some ⟨lb', 0, none⟩))].length = 1 from rfl] at hv2; subst hv2; have e2 : w2.cell? ⟨w.heap.size + 1, 0, none⟩ = some (.slice A1 k m1) := row0 ((hk'.block _ (by simp; omega) (fun hm => by have := HL.out.2.2.2.2.1 _ (mem_own hm); omega)).trans ((Below.heap_alloc _ _ _ hzz).trans HNL.out)); have f2 : w2.frozen? ⟨w.heap.size + 1, 0, none⟩ = false := row0f ((hk'.block _ (by simp; omega) (fun hm => by have := HL.out.2.2.2.2.1 _ (mem_own hm); omega)).trans ((Below.heap_alloc _ _ _ hzz).trans HNL.out)); have HO2 := Lib.hid ho; have HB2 := Lib.hid hb'; have HK2 := Lib.hid hk'; clear ho hb' hk')
      go_roundw
      case rel => exact ⟨k + 1, by omega, by go_num, rfl, Lib.hid ⟨_, _, by rw [take_next hlt, HB.out]; exact left_step HL.out HO2.out HB2.out HK2.out⟩⟩
      case measure => simp [intOf]; omega
    · obtain rfl : k = ls.length := by omega
      obtain ⟨A1, m1, hl⟩ := HI.out
      rw [List.take_length] at hl
      have HL := Lib.hid hl
      obtain ⟨h0, h1, h2, h3, h4, h5⟩ := hl
      have d0 : wr.cell? ⟨g, o + ls.length, none⟩ = some (.iface 42 (.pointer (some ⟨b, 0, none⟩))) := (h5.cell (p := ⟨g, o + ls.length, none⟩) hg (by simp)).trans HBR.out
      have d3 : wr.cell? ⟨pw, 0, none⟩ = some (.slice (some ⟨g, o, none⟩) nn c) := (h5.cell (p := ⟨pw, 0, none⟩) hz (by simp)).trans (row0 HWA.out)
      have hbb : wr.heap[b]? = some (.cells [.bool false, .slice E n cE].toArray 63 (0, 0)) := ((HO.out.kept h5 (by simp)).2 b hbB).trans HBB.out
      have d4 := row_cell hbb 0
      have d5 := row_cell hbb 1
      simp only [List.getElem?_cons_zero, List.getElem?_cons_succ] at d4 d5
      have hsl' : ∀ w', (Instr.slice 44 (.slice (some ⟨g, o, none⟩) nn c) (some (.int .i64 ((ls.length : Int) + 1))) none none).run Tryz.prog w' = .ok (.slice (some X) (nn - (ls.length + 1)) (c - (ls.length + 1))) w' := hsl
      have HSL := Lib.hid hsl
      obtain ⟨rn, hrn⟩ : ∃ rn, rn = nn - (ls.length + 1) := ⟨_, rfl⟩
      obtain ⟨rc, hrc⟩ : ∃ rc, rc = c - (ls.length + 1) := ⟨_, rfl⟩
      rw [← hrn, ← hrc] at hsl'
      have HRN := Lib.hid hrn; have HRC := Lib.hid hrc
      clear h0 h1 h2 h3 h4 h5 hbb hsl hrn hrc
      have hin0 := Lib.hid (inI_start hc (s := s) (F := F) HJ.out HO.out HL.out (f := f))
      go_wp2_with fail
      go_loopw [4, 208] (fun q i wr => ∃ j : Nat, j ≤ n ∧ i = .int .i64 j ∧ q = .bool false ∧ Hid (InI B fk cap step J s F w (.slice A1 ls.length m1) ls f j wr)) (fun _ i _ => n - (intOf i).toNat)
      case atStart => exact ⟨0, Nat.zero_le _, rfl, rfl, hin0⟩
      case round =>
        obtain ⟨j, hj, rfl, rfl, HII⟩ := hrel
        by_cases hjn : j < n
        · have hII := HII.out
          obtain ⟨sj, F', _, _, _, hk, _⟩ := hII
          have hkF : ∀ x ∈ F, B ≤ x := fun x hx => (hc.lt HJ.out x hx).1
          have hO := HO.out.kept hk hkF
          obtain ⟨ge, oe, hE, hge, hgB, hec⟩ := HE4.out (by omega)
          have d6 : wr.cell? ⟨ge, oe + j, none⟩ = some (.pointer (some ⟨eb j, 0, none⟩)) := (World.cell?_of_block (hO.2 ge hgB)).trans (hec j _ (by rw [List.getElem?_map, List.getElem?_range hjn]; rfl))
          obtain ⟨pv, hwa, heB, hpr⟩ := HW.out j hjn
          have hpr' : RdV (· < B) wr pv (ps j) := hpr.old hO
          obtain ⟨PA, pc, hpv, _⟩ := hpr
          subst hpv
          have d7 : wr.cell? ⟨eb j, 0, none⟩ = some (.slice PA (ps j).length pc) := (World.cell?_of_block (hO.2 (eb j) heB)).trans (row0 hwa)
          have d8 : wr.cell? ⟨pw, 0, none⟩ = some (.slice (some ⟨g, o, none⟩) nn c) := (hk.cell (p := ⟨pw, 0, none⟩) hz HP.out).trans (row0 HWA.out)
          have kz : Kept [] wr (wr.alloc (.cells #[.slice (some ⟨g, o, none⟩) nn c] 46)) := (Kept.refl _ _).alloc _
          have HRR : Hid (RdV (· ∉ F) wr (.slice (some X) rn rc) r) := Lib.hid (by rw [HRN.out, HRC.out]; exact HREST.out.kept hk (fun g h _ => h))
          have HCN := Lib.hid (concat_sl (t := 44) (hpr'.kept kz (by simp)) (HRR.out.kept kz (by simp)) (fun v hv => HONE.out j hjn v (List.mem_append.2 (.inl hv))) (fun v hv => HONE.out j hjn v (List.mem_append.2 (.inr hv))) (by have := HLEN.out j hjn; rw [List.length_append] at this; omega) (z := wr.heap.size + 1) (by simp))
          have hej : eb j < wr.heap.size := Nat.lt_of_lt_of_le heB hO.1
          have HK := Lib.hid hk
          obtain ⟨pn, hpn⟩ : ∃ pn, pn = (ps j).length := ⟨_, rfl⟩
          rw [← hpn] at d7 HCN
          have hzr := hk.size
          have HPN := Lib.hid hpn
          clear hk hkF hO hge hgB hec hwa heB hpr' kz hpn
          subst hE
          rcases HBV : (runs step s ((List.range (j + 1)).flatMap f)).2 with _ | _
          · have HBV := Lib.hid HBV
            go_wp2_with (first | (go_at_call 32; (with_reducible refine (HCN.out _ (.inl rfl)).mono ?_); rintro e w1 ⟨A3, m3, rfl, ho3, hb3, hk3⟩; dsimp only; have e1 : WordAt w1 wr.heap.size (.slice (some ⟨g, o, none⟩) nn c) := (hk3.block _ (by simp) (by simp)).trans (heap_alloc_new wr _); have d9 := row0 e1; have f9 := row0f e1; have HO3 := Lib.hid ho3; have HB3 := Lib.hid hb3; have HK3 := Lib.hid hk3; clear e1 ho3 hb3 hk3) | (go_at_call 30; refine (in_call hc HJ.out HO.out HLS.out (HFJ.out j) (HIH.out j hjn) hjn HG.out (HLEN.out j hjn) HII.out HK3.out HO3.out HB3.out).mono ?_; rintro e w2 ⟨rfl, hpost⟩; dsimp only; have HPO := Lib.hid hpost; clear hpost; rw [HBV.out]))
            go_ret
            rw [runs_stop hjn HBV.out, HBV.out]
            exact ⟨rfl, HPO.out.2 HBV.out⟩
          · have HBV := Lib.hid HBV
            go_wp2_with (first | (go_at_call 32; (with_reducible refine (HCN.out _ (.inl rfl)).mono ?_); rintro e w1 ⟨A3, m3, rfl, ho3, hb3, hk3⟩; dsimp only; have e1 : WordAt w1 wr.heap.size (.slice (some ⟨g, o, none⟩) nn c) := (hk3.block _ (by simp) (by simp)).trans (heap_alloc_new wr _); have d9 := row0 e1; have f9 := row0f e1; have HO3 := Lib.hid ho3; have HB3 := Lib.hid hb3; have HK3 := Lib.hid hk3; clear e1 ho3 hb3 hk3) | (go_at_call 30; refine (in_call hc HJ.out HO.out HLS.out (HFJ.out j) (HIH.out j hjn) hjn HG.out (HLEN.out j hjn) HII.out HK3.out HO3.out HB3.out).mono ?_; rintro e w2 ⟨rfl, hpost⟩; dsimp only; have HPO := Lib.hid hpost; clear hpost; rw [HBV.out]))
            go_roundw
            case rel => exact ⟨j + 1, by omega, by go_num, rfl, Lib.hid (HPO.out.1 HBV.out)⟩
            case measure => simp [intOf]; omega
        · obtain rfl : j = n := by omega
          go_wp2_with fail
          go_ret
          exact inI_end HII.out
end Go.Proofs.YtafgbgdehpcapaaGreatFmt
