/-
  bytes.Reader.Read into the parser's buffer.
-/
import Derived.Test.YtnjaeooblfihbaaFmtLexA
namespace Go.Proofs.YtnjaeooblfihbaaFmt
open Go.RowKit

def RB (w : World) (rb : Nat) (A : Option Addr) (n c i : Nat) (pv : Int) : Prop :=
  w.heap[rb]? = some (.cells #[.slice A n c, .int .i64 i, .int .i64 pv] 73 (0, 0))

theorem RB.cells {w : World} {rb : Nat} {A : Option Addr} {n c i : Nat} {pv : Int} (h : RB w rb A n c i pv) :
    w.cell? ⟨rb, 0, none⟩ = some (.slice A n c) ∧ w.cell? ⟨rb, 1, none⟩ = some (.int .i64 i) ∧ w.cell? ⟨rb, 2, none⟩ = some (.int .i64 pv) ∧ (∀ k, w.frozen? ⟨rb, k, none⟩ = false) := by
  unfold RB at h
  refine ⟨?_, ?_, ?_, ?_⟩ <;> simp [World.cell?, World.frozen?, h]

set_option maxRecDepth 100000 in
set_option maxHeartbeats 400000 in
theorem read_eof (w : World) (rb : Nat) (A : Option Addr) (n c i : Nat) (pv : Int) (dst e0 : Value) (hr : RB w rb A n c i pv) (hi : n ≤ i) (h0 : w.cell? ⟨0, 0, none⟩ = some e0) :
    Calls Tryf.prog 63 #[.pointer (some ⟨rb, 0, none⟩), dst] w fun e w' => e = .returned (.tuple #[.int .i64 0, e0]) ∧ Kept [] w w' := by
  obtain ⟨r0, r1, r2, rf⟩ := hr.cells
  clear hr rf r2
  go_enter Tryf.func63, Tryf.ntmps63
  go_wp2
  go_quiet (fail)
  go_wp2
  go_quiet (fail)
  go_wp2
  go_ret2
  exact ⟨rfl, ((Kept.refl _ _).drewN _).drewN _⟩

set_option maxRecDepth 100000 in
set_option maxHeartbeats 400000 in
theorem read_more (w : World) (rb pb : Nat) (A : Option Addr) (n c i : Nat) (pv : Int) (l : List UInt8) (p : Pc) (left : Nat) (hr : RB w rb A n c i pv) (hp : PB w pb p) (hs : Src w [rb, pb] A n l)
    (hne : pb ≠ rb) (hleft : left < 1024) (hi : i < n) (hn : n < 1000000000) (hc : n ≤ c) :
    Calls Tryf.prog 63 #[.pointer (some ⟨rb, 0, none⟩), .slice (some ⟨pb, 39 + left, none⟩) (1024 - left) (1024 - left)] w fun e w' => e = .returned (.tuple #[.int .i64 (min (1024 - left) (n - i) : Nat), .nilIface]) ∧
      PB w' pb { p with readBuf := p.readBuf.take left ++ Bys ((l.drop i).take (1024 - left)) ++ p.readBuf.drop (left + min (1024 - left) (n - i)) } ∧ RB w' rb A n c (i + min (1024 - left) (n - i)) (-1) ∧ Kept [rb, pb] w w' := by
  obtain ⟨r0, r1, r2, rf⟩ := hr.cells
  have rf1 := rf 1
  have rf2 := rf 2
  clear rf
  obtain ⟨hlen, hsrc⟩ := hs
  obtain ⟨g, o, rfl, hg, hS, hcell⟩ := hsrc (by omega)
  have HC := Lib.hid hcell; clear hcell
  have HP := Lib.hid hp; clear hp
  have HR := Lib.hid hr; clear hr
  have HL := Lib.hid hlen; clear hlen
  have HS := Lib.hid hS; clear hS
  clear hsrc
  go_enter Tryf.func63, Tryf.ntmps63
  go_wp2
  go_quiet (fail)
  go_wp2
  refine wp_region_tail 10 (by kernel_rfl) (by kernel_rfl) ?_
  simp only [List.take_succ_cons, List.take_zero, List.drop_succ_cons, List.drop_zero]
  have hle : i ≤ n := by omega
  have hci : ¬ c = i := by omega
  repeat still_step
  refine wpStill_nil ?_
  have hlt : (List.take (1024 - left) (List.drop i l)).length = min (1024 - left) (n - i) := by have := HL.out; simp; omega
  refine wpList_copy_buf rfl (.tmp 20) (.tmp 29) rfl pb left (1024 - left) (1024 - left) (n - i) (c - i) (some ⟨g, o + i, none⟩) rfl rfl p ?c1 (Bys ((l.drop i).take (1024 - left))) ?c2 ?c3 ?c4 (Bys_one _) ?_
  case c1 => exact HP.out.same (Below.heap_setCell w ⟨rb, 2, none⟩ (.int .i64 (-1)) pb hne)
  case c2 => rw [Bys_length, hlt]; exact Nat.min_comm _ _
  case c3 =>
    intro _
    refine ⟨g, o + i, rfl, fun j v hj => ?_⟩
    obtain ⟨hj1, hj2⟩ : ∃ c, l[i + j]? = some c ∧ v = By c := by
      simp only [Bys, List.getElem?_map, List.getElem?_take, List.getElem?_drop] at hj
      split at hj
      · cases hx : l[i + j]? with
        | none => simp [hx] at hj
        | some c => exact ⟨c, rfl, by simpa [hx] using hj.symm⟩
      · simp at hj
    have := HC.out (i + j) hj1 hj2.1
    have hgr : g ≠ rb := by have := HS.out; simp at this; omega
    rw [hj2.2, ← this, Nat.add_assoc]
    exact World.cell?_setCell_other _ _ _ _ (fun e => hgr (congrArg Addr.block e).symm)
  case c4 => rw [Bys_length, hlt]; omega
  intro w1 hp1 hk1
  have HP1 := Lib.hid hp1; clear hp1
  have HK1 := Lib.hid hk1; clear hk1
  have HLT := Lib.hid hlt
  have hm : (goInt ((Bys (List.take (1024 - left) (List.drop i l))).length : Int)) = .int .i64 (min (1024 - left) (n - i) : Nat) := by rw [Bys_length, hlt]; rfl
  rw [hm]
  clear hm hlt
  have hw0 : RB ((w.setCell ⟨rb, 2, none⟩ (.int .i64 (-1))).drewN nq).drew rb (some ⟨g, o, none⟩) n c i (-1) := by
    have := heap_setCell_same w rb 2 _ _ (.int .i64 (-1)) HR.out
    exact this
  have hr1 : RB w1 rb (some ⟨g, o, none⟩) n c i (-1) := by
    unfold RB at hw0 ⊢
    rw [HK1.out.block rb (heap_lt hw0) (by simp; omega)]; exact hw0
  obtain ⟨s0, s1, s2, sf⟩ := hr1.cells
  have sf1 := sf 1
  have HR1 := Lib.hid hr1
  clear hw0 hr1 sf r0 r1 r2 rf1 rf2
  generalize hM : min (1024 - left) (n - i) = M
  have hMb : M ≤ n - i := by omega
  have HM := Lib.hid hM; clear hM
  go_wp2
  go_ret2
  have hM := HM.out
  subst hM
  refine ⟨rfl, ?_, ?_, ?_⟩
  · have h2 := HP1.out.same (Below.heap_setCell w1 ⟨rb, 1, none⟩ (.int .i64 (i + (min (1024 - left) (n - i) : Nat))) pb hne)
    rw [Bys_length, HLT.out] at h2
    exact h2
  · exact heap_setCell_same w1 rb 1 _ _ _ HR1.out
  · refine Kept.setCell ?_ (by simp) _
    have h3 : Kept [rb, pb] w ((w.setCell ⟨rb, 2, none⟩ (.int .i64 (-1))).drewN nq).drew := (((Kept.refl _ _).setCell (by simp) _).drewN _).drew
    exact h3.trans (HK1.out.weaken (by simp))

/-- The reader at block rb still holds 'rest'; its source lies below block B and is neither the reader nor the parser. -/
def Rd (w : World) (B rb pb : Nat) (rest : List UInt8) : Prop :=
  ∃ (A : Option Addr) (n c i : Nat) (pv : Int) (l : List UInt8), RB w rb A n c i pv ∧ l.length = n ∧ (0 < n → ∃ g o, A = some ⟨g, o, none⟩ ∧ g < B ∧ g ≠ rb ∧ g ≠ pb ∧ ∀ j x, l[j]? = some x → w.cell? ⟨g, o + j, none⟩ = some (By x)) ∧
    i ≤ n ∧ n ≤ c ∧ n < 1000000000 ∧ rest = l.drop i ∧ rb < B ∧ B ≤ w.heap.size

theorem Rd.kept {S : List Nat} {w w' : World} {B rb pb : Nat} {rest : List UInt8} (h : Rd w B rb pb rest) (k : Kept S w w') (hS : ∀ x ∈ S, x = pb ∨ B ≤ x) (hne : pb ≠ rb) : Rd w' B rb pb rest := by
  obtain ⟨A, n, c, i, pv, l, h1, h2, h3, h4, h5, h6, h7, h8, h9⟩ := h
  have hn : ∀ x, x < B → x ≠ pb → x ∉ S := fun x hx hp hm => by rcases hS x hm with h | h <;> omega
  refine ⟨A, n, c, i, pv, l, ?_, h2, fun hp => ?_, h4, h5, h6, h7, h8, Nat.le_trans h9 k.size⟩
  · unfold RB at h1 ⊢
    rw [k.block rb (by omega) (hn rb h8 (Ne.symm hne))]
    exact h1
  · obtain ⟨g, o, rfl, hg, hgr, hgp, hc⟩ := h3 hp
    refine ⟨g, o, rfl, hg, hgr, hgp, fun j x hj => ?_⟩
    rw [k.cell (p := ⟨g, o + j, none⟩) (by show g < _; omega) (hn g hg hgp)]
    exact hc j x hj
theorem Rd.lt {w : World} {B rb pb : Nat} {rest : List UInt8} (h : Rd w B rb pb rest) : rb < B ∧ B ≤ w.heap.size := by
  obtain ⟨A, n, c, i, pv, l, _, _, _, _, _, _, _, h8, h9⟩ := h
  exact ⟨h8, h9⟩
theorem Rd.len {w : World} {B rb pb : Nat} {rest : List UInt8} (h : Rd w B rb pb rest) : rest.length < 1000000000 := by
  obtain ⟨A, n, c, i, pv, l, _, h2, _, _, _, _, h7, _⟩ := h
  subst h7; simp; omega

/-- Read at the end of the source. -/
theorem rd_eof (w : World) (B rb pb : Nat) (dst e0 : Value) (h : Rd w B rb pb []) (h0 : w.cell? ⟨0, 0, none⟩ = some e0) :
    Calls Tryf.prog 63 #[.pointer (some ⟨rb, 0, none⟩), dst] w fun e w' => e = .returned (.tuple #[.int .i64 0, e0]) ∧ Kept [] w w' := by
  obtain ⟨A, n, c, i, pv, l, h1, h2, h3, h4, h5, h6, h7, h8, h9⟩ := h
  have : n ≤ i := by
    have := congrArg List.length h7
    simp at this; omega
  exact read_eof w rb A n c i pv dst e0 h1 this h0

/-- Read before the end of the source. -/
theorem rd_more (w : World) (B rb pb : Nat) (rest : List UInt8) (p : Pc) (left : Nat) (h : Rd w B rb pb rest) (hp : PB w pb p) (hne : pb ≠ rb) (hleft : left < 1024) (hr : rest ≠ []) :
    Calls Tryf.prog 63 #[.pointer (some ⟨rb, 0, none⟩), .slice (some ⟨pb, 39 + left, none⟩) (1024 - left) (1024 - left)] w fun e w' =>
      e = .returned (.tuple #[.int .i64 (min (1024 - left) rest.length : Nat), .nilIface]) ∧
      PB w' pb { p with readBuf := p.readBuf.take left ++ Bys (rest.take (1024 - left)) ++ p.readBuf.drop (left + min (1024 - left) rest.length) } ∧ Rd w' B rb pb (rest.drop (1024 - left)) ∧ Kept [rb, pb] w w' := by
  obtain ⟨A, n, c, i, pv, l, h1, h2, h3, h4, h5, h6, h7, h8, h9⟩ := h
  have hl : rest.length = n - i := by rw [h7]; simp; omega
  have hi : i < n := by
    rcases Nat.lt_or_ge i n with h | h
    · exact h
    · exact absurd (List.eq_nil_of_length_eq_zero (by omega)) hr
  have hs : Src w [rb, pb] A n l := ⟨h2, fun hn => by
    obtain ⟨g, o, rfl, hg, hgr, hgp, hc⟩ := h3 hn
    exact ⟨g, o, rfl, by omega, by simp; omega, hc⟩⟩
  refine (read_more w rb pb A n c i pv l p left h1 hp hs hne hleft hi h6 h5).mono ?_
  rintro e w' ⟨he, hp', hr', hk⟩
  rw [← hl] at he hp' hr'
  rw [← h7] at hp'
  refine ⟨he, hp', ?_, hk⟩
  refine ⟨A, n, c, _, _, l, hr', h2, fun hn => ?_, by omega, h5, h6, ?_, h8, Nat.le_trans h9 hk.size⟩
  · obtain ⟨g, o, rfl, hg, hgr, hgp, hc⟩ := h3 hn
    refine ⟨g, o, rfl, hg, hgr, hgp, fun j x hj => ?_⟩
    rw [hk.cell (p := ⟨g, o + j, none⟩) (by show g < _; omega) (by simp; omega)]
    exact hc j x hj
  · rw [h7, List.drop_drop, ← h7]
    rcases Nat.le_total (1024 - left) rest.length with h | h
    · rw [Nat.min_eq_left h]
    · rw [Nat.min_eq_right h, List.drop_of_length_le (l := l) (by omega), List.drop_of_length_le (l := l) (by omega)]
end Go.Proofs.YtnjaeooblfihbaaFmt
