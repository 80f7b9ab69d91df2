/-
  n010_110's zzStreamIs, walked.
-/
import Derived.Test.YtpkgpkklgkpbfaaFmtMi
import Derived.Test.YtpkgpkklgkpbfaaFmtMl
import Derived.Deep.RegionWith
import Derived.Deep.LoopGhost
namespace Go.Proofs.YtpkgpkklgkpbfaaFmt
open Go.RowKit

theorem zzrune {w : World} {pb : Nat} {r : Int} {S : World → Prop} (h : Calls Tryf.prog 18 #[.pointer (some ⟨pb, 0, none⟩)] w fun e w' => e = .returned (.int .i32 r) ∧ S w') :
    Calls Tryf.prog 15 #[.pointer (some ⟨pb, 0, none⟩)] w fun e w' => e = .returned (.int .i32 r) ∧ S w' := by
  have H := Lib.hid h
  clear h
  go_enter Tryf.func15, Tryf.ntmps15
  go_wp2_with (go_at_call 18; refine H.out.mono ?_; rintro e w1 ⟨rfl, hs⟩; dsimp only; have HS := Lib.hid hs; clear hs)
  go_ret
  exact ⟨rfl, HS.out⟩

theorem LexM.err {w : World} {B pb rb : Nat} {ea : Addr} {q : Pc} {r : Int} {u : List UInt8} {k : Nat} (h : LexM w B pb rb ea q r u k) : w.cell? ⟨pb, 7, none⟩ = some q.err := by
  obtain ⟨p, wd, ln, col, hb, h1, h2, h3, h4, h5, w1, w2, l1, l2, c1, c2, b1, b2, b3, hl, hT, hc⟩ := h
  have hp : PB w pb p := by
    rcases hc with ⟨_, win, rest, bsp, offs, hm⟩ | ⟨_, _, ha⟩
    · exact hm.lx.hpb
    · exact ha.1
  have e : p.err = q.err := by have := congrArg Pc.err hb; exact this
  rw [hp.c_err, e]

theorem haserr {w : World} {pb : Nat} (c7 : w.cell? ⟨pb, 7, none⟩ = some .nilIface) :
    Calls Tryf.prog 16 #[.pointer (some ⟨pb, 0, none⟩)] w fun e w' => e = .returned (.bool false) ∧ w = w' := by
  go_enter Tryf.func16, Tryf.ntmps16
  go_wp2
  go_ret
  exact ⟨rfl, rfl⟩

/-- Behind j runes. -/
def StI (w0 w : World) (B pb rb : Nat) (ea : Addr) (q : Pc) (R : List Int) (j : Nat) : Prop :=
  ∃ r u, LexM w B pb rb ea q r u 0 ∧ Str r u (R.drop j) ∧ r ≠ 1114112 ∧ Kr B pb rb w0 w

theorem str_step {w0 w : World} {B pb rb : Nat} {ea : Addr} {q : Pc} {R : List Int} {j : Nat} (h : StI w0 w B pb rb ea q R j) (hB : 0 < B) (hj : j < R.length) :
    Calls Tryf.prog 18 #[.pointer (some ⟨pb, 0, none⟩)] w fun e w' => e = .returned (.int .i32 R[j]) ∧ Hid (StI w0 w' B pb rb ea q R (j + 1) ∧ Kr B pb rb w w') := by
  obtain ⟨r, u, hl, hs, hr, hk⟩ := h
  rw [List.drop_eq_getElem_cons hj] at hs
  generalize R[j] = a at hs ⊢
  cases hs with
  | step _ _ b _ d dc _ hn hs2 =>
    refine (rune_m hl (by omega) hB hr hn).mono ?_
    rintro e w' ⟨rfl, h2, k2⟩
    exact ⟨rfl, Lib.hid ⟨⟨a, d, h2, hs2, (ny_len hn).2.2.2, hk.trans k2⟩, k2⟩⟩
theorem str_end {w0 w : World} {B pb rb : Nat} {ea : Addr} {q : Pc} {R : List Int} {j : Nat} (h : StI w0 w B pb rb ea q R j) (hB : 0 < B) (hj : R.length ≤ j) :
    Calls Tryf.prog 18 #[.pointer (some ⟨pb, 0, none⟩)] w fun e w' => e = .returned (.int .i32 1114112) ∧ Hid (LexM w' B pb rb ea q 1114112 (List.replicate 0 0) 1 ∧ Kr B pb rb w0 w') := by
  obtain ⟨r, u, hl, hs, hr, hk⟩ := h
  rw [List.drop_eq_nil_of_le hj] at hs
  cases hs with
  | fin _ k =>
    refine (rune_m_end hl (by omega) hB (fun e => absurd e hr)).mono ?_
    rintro e w' ⟨rfl, h2, k2⟩
    exact ⟨rfl, Lib.hid ⟨h2, hk.trans k2⟩⟩

theorem LexM.kept0 {w w' : World} {B pb rb : Nat} {ea : Addr} {q : Pc} {r : Int} {u : List UInt8} {k : Nat} (h : LexM w B pb rb ea q r u k) (hB : 0 < B) (kk : Kept [] w w') : LexM w' B pb rb ea q r u k := by
  obtain ⟨p, wd, ln, col, hb, h1, h2, h3, h4, h5, w1, w2, l1, l2, c1, c2, b1, b2, b3, hl, hT, hc⟩ := h
  refine ⟨p, wd, ln, col, hb, h1, h2, h3, h4, h5, w1, w2, l1, l2, c1, c2, b1, b2, Nat.le_trans b3 kk.size, hl.kept kk (by simp) rfl rfl, fun w2 k2 => hT w2 ((Kr.of kk (by simp)).trans k2), ?_⟩
  rcases hc with ⟨hr, win, rest, bsp, offs, hm⟩ | ⟨hr, hu, ha⟩
  · exact .inl ⟨hr, win, rest, bsp, offs, md_k0 hm hB kk⟩
  · obtain ⟨e1, e2⟩ := ha
    exact .inr ⟨hr, hu, e1.kept kk (by simp), e2⟩
theorem StI.kept0 {w0 w w' : World} {B pb rb : Nat} {ea : Addr} {q : Pc} {R : List Int} {j : Nat} (h : StI w0 w B pb rb ea q R j) (hB : 0 < B) (kk : Kept [] w w') : StI w0 w' B pb rb ea q R j := by
  obtain ⟨r, u, hl, hs, hr, hk⟩ := h
  exact ⟨r, u, hl.kept0 hB kk, hs, hr, hk.trans (Kr.of kk (by simp))⟩

set_option maxRecDepth 100000 in
set_option maxHeartbeats 4000000 in
theorem zstream {w : World} {B pb rb : Nat} {ea : Addr} {q : Pc} {r : Int} {u : List UInt8} {R : List Int} {P : Nat → Prop} {A : Option Addr} {n c : Nat} (h : LexM w B pb rb ea q r u 0) (hB : 0 < B) (hr : r ≠ 1114112) (hs : Str r u R) (hq : q.err = .nilIface) (hn : n = R.length) (hn2 : n ≤ 100000000) (hrd : RdV P w (.slice A n c) (i32V R)) (hP : ∀ g, P g → g < B ∧ g ≠ pb ∧ g ≠ rb) :
    Calls Tryf.prog 8 #[.pointer (some ⟨pb, 0, none⟩), .slice A n c] w fun e w' => e = .returned (.bool true) ∧ Kr B pb rb w w' := by
  have HI0 : Hid (StI w w B pb rb ea q R 0) := Lib.hid ⟨r, u, h, by simpa using hs, hr, Kr.refl _ _ _ _⟩
  have HRD : Hid (∀ w', Kr B pb rb w w' → ∀ j (hj : j < R.length), ∃ g o, A = some ⟨g, o, none⟩ ∧ g < B ∧ g ≠ pb ∧ g ≠ rb ∧ w'.cell? ⟨g, o + j, none⟩ = some (.int .i32 R[j])) := Lib.hid (by
    intro w' k j hj
    obtain ⟨A', c', e, _, _, _, _, h4⟩ := hrd
    have hl : (i32V R).length = R.length := by rw [i32V, List.length_map]
    cases e
    obtain ⟨g, o, e2, hg, hp, hc⟩ := h4 (by omega)
    obtain ⟨q1, q2, q3⟩ := hP g hp
    obtain ⟨S, kS, hS⟩ := k
    refine ⟨g, o, e2, q1, q2, q3, (kS.cell (p := ⟨g, o + j, none⟩) hg (fun hm => by rcases hS g hm with h | h | h <;> omega)).trans (hc j _ ?_)⟩
    rw [i32V, List.getElem?_map, List.getElem?_eq_getElem hj]
    rfl)
  have HQ := Lib.hid hq
  have HNR := Lib.hid hn
  clear h hs hrd hP hr hq hn
  go_enter Tryf.func8, Tryf.ntmps8
  go_wp2
  go_loopg [5] n (fun m i wr => ∃ j : Nat, i = .int .i64 j ∧ j ≤ n ∧ m = n - j ∧ Hid (StI w wr B pb rb ea q R j))
  case atStart => exact ⟨0, rfl, Nat.zero_le _, rfl, HI0⟩
  case round =>
    obtain ⟨j, rfl, hj, hm, HI⟩ := hrel
    have HM := Lib.hid hm
    clear hm
    by_cases hlt : j < n
    · have hjR : j < R.length := by have := HNR.out; omega
      obtain ⟨_, _, _, _, _, hkr⟩ := HI.out
      obtain ⟨g, o, rfl, g1, g2, g3, d0⟩ := HRD.out wr hkr j hjR
      have HS := Lib.hid (fun k => str_step (HI.out.kept0 hB ((Kept.refl [] wr).drewN k)) hB hjR)
      have hgw : g < wr.heap.size := block_lt_of_cell d0
      obtain ⟨v, hv⟩ : ∃ v, v = R[j] := ⟨_, rfl⟩
      rw [← hv] at d0 HS
      clear hkr hv
      go_wp2
      go_region_with (go_at_call 15; refine (zzrune (HS.out 1)).mono ?_; rintro e w2 ⟨rfl, hp⟩; obtain ⟨hI2, k2⟩ := hp.out; have d2 : w2.cell? ⟨g, o + j, none⟩ = some (.int .i32 v) := (by obtain ⟨S, kS, hS⟩ := k2; exact (kS.cell (p := ⟨g, o + j, none⟩) (by simpa using hgw) (fun hm => by rcases hS g hm with h | h | h <;> omega)).trans d0); have HI2 := Lib.hid hI2; clear hp hI2 k2)
      all_goals (
        go_wp2
        go_roundg (n - (j + 1))
        case rel => exact ⟨j + 1, by go_num, by omega, rfl, by first | exact HI2 | exact Lib.hid (HI2.out.kept0 hB ((Kept.refl _ _).drew))⟩
        case measure => rw [HM.out]; omega)
    · obtain rfl : j = n := by omega
      have HE := Lib.hid (str_end HI.out hB (by have := HNR.out; omega))
      go_wp2_with (first
        | (go_at_call 15; refine (zzrune HE.out).mono ?_; rintro e w2 ⟨rfl, hp⟩; obtain ⟨h2, k2⟩ := hp.out; have H2 := Lib.hid h2; have K2 := Lib.hid k2; clear hp h2 k2 HE)
        | (go_at_call 15; refine (zzrune (rune_m_end H2.out (by omega) hB (fun _ => rfl))).mono ?_; rintro e w3 ⟨rfl, h3, k3⟩; have c7 := h3.err; rw [HQ.out] at c7; have K3 := Lib.hid (K2.out.trans k3); clear h3 k3)
        | (go_at_call 16; refine (haserr c7).mono ?_; rintro e w4 ⟨rfl, rfl⟩))
      go_ret
      exact ⟨rfl, K3.out⟩
end Go.Proofs.YtpkgpkklgkpbfaaFmt
