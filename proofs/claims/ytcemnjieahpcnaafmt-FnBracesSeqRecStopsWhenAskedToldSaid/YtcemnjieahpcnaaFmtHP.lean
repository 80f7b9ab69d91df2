/-
  FnBracesSeqRecStopsWhenAsked: its consumer counts, keeps the last word, and says no at the k-th.
-/
import Derived.Test.YtcemnjieahpcnaaFmtHM
namespace Go.Proofs.YtcemnjieahpcnaaFmt
open Go.RowKit

def LastOk (w : World) (lv : Value) (s : List (List Value)) (extra : List Nat) : Prop :=
  (s = [] ∧ lv = .pointer none ∧ extra = []) ∨ ∃ pl v s0 ls, s = s0 ++ [ls] ∧ lv = .pointer (some ⟨pl, 0, none⟩) ∧ WordAt w pl v ∧ OwnV 54 w v ls ∧ extra = pl :: v.ownBlock.toList
def StpJ (B cb lb tb kb tot : Nat) (k : Int) (s : List (List Value)) (F : List Nat) (w : World) : Prop :=
  ∃ lv extra, w.heap[cb]? = some (.cells #[.int .i64 s.length] 3 (0, 0)) ∧ w.heap[lb]? = some (.cells #[lv] 25 (0, 0)) ∧ w.heap[tb]? = some (.cells #[.int .i64 tot] 3 (0, 0)) ∧ w.heap[kb]? = some (.cells #[.int .i64 k] 3 (0, 0)) ∧ LastOk w lv s extra ∧ F = cb :: lb :: extra ∧ (∀ x ∈ F, B ≤ x) ∧ tb < B ∧ kb < B
theorem StpJ.keep {B cb lb tb kb tot : Nat} {k : Int} {s : List (List Value)} {F : List Nat} {w w' : World} {S : List Nat} (h : StpJ B cb lb tb kb tot k s F w) (kk : Kept S w w') (hS : ∀ x ∈ S, x ∉ F) (hSB : ∀ x ∈ S, B ≤ x) : StpJ B cb lb tb kb tot k s F w' := by
  obtain ⟨lv, extra, h1, h2, h3, h4, h5, rfl, h6, h7, h8⟩ := h
  refine ⟨lv, extra, (kk.block _ (heap_lt h1) (fun hm => hS _ hm (by simp))).trans h1, (kk.block _ (heap_lt h2) (fun hm => hS _ hm (by simp))).trans h2, (kk.block _ (heap_lt h3) (fun hm => by have := hSB _ hm; omega)).trans h3, (kk.block _ (heap_lt h4) (fun hm => by have := hSB _ hm; omega)).trans h4, ?_, rfl, h6, h7, h8⟩
  rcases h5 with h5 | ⟨pl, v, s0, ls, e1, e2, e3, e4, rfl⟩
  · exact .inl h5
  · refine .inr ⟨pl, v, s0, ls, e1, e2, e3.kept kk (fun hm => hS _ hm (by simp)), e4.kept kk (fun g hg hm => hS g hm ?_), rfl⟩
    have h' : v.ownBlock = some g := hg
    simp [h']
theorem StpJ.lt {B cb lb tb kb tot : Nat} {k : Int} {s : List (List Value)} {F : List Nat} {w : World} (h : StpJ B cb lb tb kb tot k s F w) : ∀ x ∈ F, B ≤ x ∧ x < w.heap.size := by
  obtain ⟨lv, extra, h1, h2, h3, h4, h5, rfl, h6, h7, h8⟩ := h
  intro x hx
  refine ⟨h6 x hx, ?_⟩
  simp only [List.mem_cons] at hx
  rcases hx with rfl | rfl | hx
  · exact heap_lt h1
  · exact heap_lt h2
  · rcases h5 with ⟨_, _, rfl⟩ | ⟨pl, v, s0, ls, e1, e2, e3, e4, rfl⟩
    · cases hx
    · rcases List.mem_cons.1 hx with rfl | h
      · exact heap_lt e3
      · exact e4.lt x (mem_own h)

/-- What the consumer does. -/
def stp (tot : Nat) (k : Int) (s : List (List Value)) (ls : List Value) : List (List Value) × Bool := (s ++ [ls], if tot < s.length + 1 then false else ((s.length : Int) + 1 != k))
theorem runs_stp {tot : Nat} {k : Int} (s yss : List (List Value)) (h : s.length + yss.length ≤ tot) : runs (stp tot k) s yss = if (s.length : Int) < k ∧ k ≤ s.length + yss.length then (s ++ yss.take (k - s.length).toNat, false) else (s ++ yss, true) := by
  induction yss generalizing s with
  | nil =>
    rw [if_neg (by simp)]
    simp [runs]
  | cons x xs ih =>
    have hl : (s ++ [x]).length = s.length + 1 := by simp
    simp only [List.length_cons] at h
    rw [runs]
    by_cases hk : (s.length : Int) + 1 = k
    · have e : stp tot k s x = (s ++ [x], false) := by unfold stp; rw [if_neg (by omega)]; simp [hk]
      rw [e, if_neg (by simp), if_pos ⟨by omega, by simp; omega⟩, show (k - s.length).toNat = 1 by omega]
      simp
    · have e : stp tot k s x = (s ++ [x], true) := by unfold stp; rw [if_neg (by omega)]; simp [hk]
      rw [e, if_pos rfl]
      show runs (stp tot k) (s ++ [x]) xs = _
      rw [ih (s ++ [x]) (by rw [hl]; omega), hl]
      by_cases hc : (s.length : Int) < k ∧ k ≤ s.length + (xs.length + 1)
      · rw [if_pos (by omega), if_pos (by simp only [List.length_cons]; omega), show (k - s.length).toNat = (k - (s.length + 1 : Nat)).toNat + 1 by omega]
        simp
      · rw [if_neg (by omega), if_neg (by simp only [List.length_cons]; omega)]
        simp

set_option maxRecDepth 100000 in
set_option maxHeartbeats 800000 in
theorem stp_call {B cb lb tb kb tot : Nat} {k : Int} {w0 : World} {s : List (List Value)} {F : List Nat} {w : World} {pw : Nat} {v : Value} {ls : List Value} (hj : StpJ B cb lb tb kb tot k s F w) (hword : WordAt w pw v) (hB : B ≤ pw) (hpw : pw ∉ F) (hown : OwnV 54 w v ls) (hrow : ∀ g ∈ v.ownBlock, B ≤ g ∧ g ∉ F) (hs : s.length ≤ 1000000000) (_hold : Old B w0 w) :
    Calls Tryf.prog 26 #[.pointer (some ⟨pw, 0, none⟩), .pointer (some ⟨cb, 0, none⟩), .pointer (some ⟨lb, 0, none⟩), .pointer (some ⟨tb, 0, none⟩), .pointer (some ⟨kb, 0, none⟩)] w fun e w' => e = .returned (.bool (stp tot k s ls).2) ∧ CallPost (StpJ B cb lb tb kb tot k) (stp tot k s ls).1 F pw v.ownBlock w w' := by
  obtain ⟨lv, extra, h1, h2, h3, h4, h5, hF, h6, h7, h8⟩ := hj
  have c1 := row0 h1; have c2 := row0 h2; have c3 := row0 h3; have c4 := row0 h4
  have f1 := row0f h1; have f2 := row0f h2
  have b1 := h6 cb (by rw [hF]; simp)
  have b2 := h6 lb (by rw [hF]; simp)
  have n1 : ¬ cb = lb := fun h => by rw [h, h2] at h1; simp at h1
  have n2 : ¬ lb = cb := fun h => n1 h.symm
  have n3 : ¬ tb = cb := by omega
  have n4 : ¬ tb = lb := by omega
  have n5 : ¬ kb = cb := by omega
  have n6 : ¬ kb = lb := by omega
  have m3 : ¬ cb = tb := by omega
  have m4 : ¬ lb = tb := by omega
  have m5 : ¬ cb = kb := by omega
  have m6 : ¬ lb = kb := by omega
  have fin : ∀ w', w' = (w.setCell ⟨cb, 0, none⟩ (.int .i64 (s.length + 1))).setCell ⟨lb, 0, none⟩ (.pointer (some ⟨pw, 0, none⟩)) → CallPost (StpJ B cb lb tb kb tot k) (stp tot k s ls).1 F pw v.ownBlock w w' := by
    rintro w' rfl
    have k1 : Kept [cb] w (w.setCell ⟨cb, 0, none⟩ (.int .i64 (s.length + 1))) := (Kept.refl _ _).setCell (by simp) _
    have k2 : Kept [lb] (w.setCell ⟨cb, 0, none⟩ (.int .i64 (s.length + 1))) ((w.setCell ⟨cb, 0, none⟩ (.int .i64 (s.length + 1))).setCell ⟨lb, 0, none⟩ (.pointer (some ⟨pw, 0, none⟩))) := (Kept.refl _ _).setCell (by simp) _
    have k3 : Kept [cb, lb] w ((w.setCell ⟨cb, 0, none⟩ (.int .i64 (s.length + 1))).setCell ⟨lb, 0, none⟩ (.pointer (some ⟨pw, 0, none⟩))) := (k1.weaken (by simp)).trans (k2.weaken (by simp))
    have hcF : cb ∈ F := by rw [hF]; simp
    have hlF : lb ∈ F := by rw [hF]; simp
    have p1 : pw ≠ cb := fun h => hpw (h ▸ hcF)
    have p2 : pw ≠ lb := fun h => hpw (h ▸ hlF)
    refine ⟨cb :: lb :: (pw :: v.ownBlock.toList), ⟨_, _, ?_, ?_, (k3.block _ (heap_lt h3) (by simp; omega)).trans h3, (k3.block _ (heap_lt h4) (by simp; omega)).trans h4, .inr ⟨pw, v, s, ls, rfl, rfl, hword.kept k3 (by simp [p1, p2]), hown.kept k3 (fun g hg hm => ?_), rfl⟩, rfl, ?_, h7, h8⟩, ?_, k3.weaken (by simp [hcF, hlF])⟩
    · have e := (k2.block cb (heap_lt (row0s h1)) (by simp [n1])).trans (row0s (u := .int .i64 (s.length + 1)) h1)
      have hl : ((stp tot k s ls).1.length : Int) = s.length + 1 := by simp [stp]
      rw [hl]
      exact e
    · exact row0s ((k1.block lb (heap_lt h2) (by simp [n2])).trans h2)
    · simp only [List.mem_cons, List.not_mem_nil, or_false] at hm
      rcases hm with rfl | rfl
      · exact (hrow _ hg).2 hcF
      · exact (hrow _ hg).2 hlF
    · intro x hx
      simp only [List.mem_cons] at hx
      rcases hx with rfl | rfl | rfl | h
      · exact b1
      · exact b2
      · exact hB
      · exact (hrow x (mem_own h)).1
    · intro x hx
      simp only [List.mem_cons] at hx
      rcases hx with rfl | rfl | rfl | h
      · exact .inl hcF
      · exact .inl hlF
      · exact .inr (.inl rfl)
      · exact .inr (.inr (.inl (mem_own h)))
  have FIN := Lib.hid fin
  clear h1 h2 h3 h4 h5 hF h6 hword hpw hown hrow fin
  by_cases ht : tot < s.length + 1
  · have e : (stp tot k s ls).2 = false := by unfold stp; rw [if_pos ht]
    rw [e]
    clear e
    go_enter Tryf.func26, Tryf.ntmps26
    go_wp2_with fail
    go_ret
    exact ⟨rfl, FIN.out _ rfl⟩
  · have e : (stp tot k s ls).2 = ((s.length : Int) + 1 != k) := by unfold stp; rw [if_neg ht]
    rw [e]
    clear e
    go_enter Tryf.func26, Tryf.ntmps26
    go_wp2_with fail
    go_ret
    exact ⟨rfl, FIN.out _ rfl⟩

theorem stp_cons {w0 : World} {B cb lb tb kb tot : Nat} {k : Int} : Cons w0 B (fun s y => s.length ≤ 1000000000 ∧ y.length ≤ 1000000000) 26 #[.pointer (some ⟨cb, 0, none⟩), .pointer (some ⟨lb, 0, none⟩), .pointer (some ⟨tb, 0, none⟩), .pointer (some ⟨kb, 0, none⟩)] (stp tot k) (StpJ B cb lb tb kb tot k) where
  enters := enters_of Tryf.func26 (by kernel_rfl) rfl
  small := fun h => h.2
  keep := StpJ.keep
  lt := StpJ.lt
  call := fun hj hold hword hB hpw hown hrow _ hG => stp_call hj hword hB hpw hown hrow hG.1 hold
theorem safe_stp {tot : Nat} {k : Int} (s yss : List (List Value)) (h : s.length + yss.length ≤ 1000000000) (hy : ∀ y ∈ yss, y.length ≤ 1000000000) : safe (fun s y => s.length ≤ 1000000000 ∧ y.length ≤ 1000000000) (stp tot k) s yss := by
  induction yss generalizing s with
  | nil => trivial
  | cons y r ih => exact ⟨⟨by simp at h; omega, hy y (by simp)⟩, fun _ => ih _ (by simp [stp] at h ⊢; omega) (fun z hz => hy z (by simp [hz]))⟩

theorem zbsr {w : World} {pn : Nat} {f : Value} {b : Bool} {S : World → Prop} (h : Calls Tryf.prog 29 #[.pointer (some ⟨pn, 0, none⟩), f] w fun e w' => e = .returned (.bool b) ∧ S w') :
    Calls Tryf.prog 22 #[.pointer (some ⟨pn, 0, none⟩), f] w fun e w' => e = .returned (.bool b) ∧ S w' := by
  have H := Lib.hid h
  clear h
  go_enter Tryf.func22, Tryf.ntmps22
  go_wp2_with (go_at_call 29; refine H.out.mono ?_; rintro e w1 ⟨rfl, hs⟩; dsimp only; have HS := Lib.hid hs; clear hs)
  go_ret
  exact ⟨rfl, HS.out⟩
end Go.Proofs.YtcemnjieahpcnaaFmt
