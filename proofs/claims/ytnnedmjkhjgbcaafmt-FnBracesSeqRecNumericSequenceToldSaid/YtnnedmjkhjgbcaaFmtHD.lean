/-
  bracesSeqRec hands a consumer the words that the braces expand to, in order, until it says no.
-/
import Derived.Test.YtnnedmjkhjgbcaaFmtHC
namespace Go.Proofs.YtnnedmjkhjgbcaaFmt
open Go.RowKit

def intOf : Value → Int
  | .int _ n => n
  | _ => 0
def BsrPost {σ : Type} (J : σ → List Nat → World → Prop) (s' : σ) (F : List Nat) (w w' : World) : Prop :=
  ∃ F', J s' F' w' ∧ (∀ x ∈ F', x ∈ F ∨ w.heap.size ≤ x) ∧ Kept F w w'

/-- The literals so far. -/
def Left (w wr : World) (fv : Value) (A : Option Addr) (n m : Nat) (l : List Value) : Prop :=
  l.length = n ∧ wr.heap[w.heap.size]? = some (.cells #[fv] 41 (0, 0)) ∧ wr.heap[w.heap.size + 1]? = some (.cells #[.slice A n m] 35 (0, 0)) ∧ OwnV 52 wr (.slice A n m) l ∧ (∀ g ∈ (Value.slice A n m).ownBlock, w.heap.size + 1 < g) ∧ Kept [] w wr
theorem left_start (w : World) (fv : Value) : Left w ((w.alloc (.cells #[fv] 41)).alloc (.cells #[.slice none 0 0] 35)) fv none 0 0 [] := by
  have h1 := heap_alloc_new w (.cells #[fv] 41)
  have h2 := heap_alloc_new (w.alloc (.cells #[fv] 41)) (.cells #[.slice none 0 0] 35)
  have hz : (w.alloc (.cells #[fv] 41)).heap.size = w.heap.size + 1 := by simp
  rw [hz] at h2
  exact ⟨rfl, (Below.heap_alloc _ _ _ (by rw [hz]; omega)).trans h1, h2, OwnV.nil _ _, (fun g hg => by cases hg), ((Kept.refl _ _).alloc _).alloc _⟩
/-- One literal more: a new row of one cell, append, the store. -/
theorem left_step {w wr : World} {fv : Value} {A A' : Option Addr} {n m m' : Nat} {l : List Value} {x : Value} {ob : Obj} (h : Left w wr fv A n m l) {w2 : World} (ho : OwnV 52 w2 (.slice A' (n + 1) m') (l ++ [x])) (hb : ∀ g ∈ (Value.slice A' (n + 1) m').ownBlock, (Value.slice A n m).ownBlock = some g ∨ (wr.alloc ob).heap.size ≤ g) (hk : Kept (Value.slice A n m).ownBlock.toList (wr.alloc ob) w2) :
    Left w (w2.setCell ⟨w.heap.size + 1, 0, none⟩ (.slice A' (n + 1) m')) fv A' (n + 1) m' (l ++ [x]) := by
  obtain ⟨h0, h1, h2, h3, h4, h5⟩ := h
  have hk : Kept (Value.slice A n m).ownBlock.toList wr w2 := (((Kept.refl _ _).alloc ob)).trans hk
  have hs : ∀ g ∈ (Value.slice A n m).ownBlock.toList, w.heap.size + 1 < g := fun g hg => h4 g (mem_own hg)
  have hn : ∀ k, k ≤ w.heap.size + 1 → k ∉ (Value.slice A n m).ownBlock.toList := fun k hk hm => by have := hs k hm; omega
  have hz := heap_lt h2
  have hzz : (wr.alloc ob).heap.size = wr.heap.size + 1 := by simp
  have hb' : ∀ g ∈ (Value.slice A' (n + 1) m').ownBlock, w.heap.size + 1 < g := fun g hg => (hb g hg).elim (fun h => h4 g h) (fun h => by omega)
  have e1 := (hk.block _ (heap_lt h1) (hn _ (by omega))).trans h1
  have e2 := (hk.block _ hz (hn _ (by omega))).trans h2
  have ks : Kept [w.heap.size + 1] w2 (w2.setCell ⟨w.heap.size + 1, 0, none⟩ (.slice A' (n + 1) m')) := (Kept.refl _ _).setCell (by simp) _
  refine ⟨by rw [List.length_append, h0]; rfl, (ks.block _ (heap_lt e1) (by simp)).trans e1, row0s e2, ho.kept ks (fun g hg => by have := hb' g hg; simp; omega), hb', ?_⟩
  have kt : Kept ((Value.slice A n m).ownBlock.toList ++ [w.heap.size + 1]) wr (w2.setCell ⟨w.heap.size + 1, 0, none⟩ (.slice A' (n + 1) m')) :=
    (hk.weaken (fun k h => .inl (List.mem_append.2 (.inl h)))).trans (ks.weaken (fun k h => .inl (List.mem_append.2 (.inr h))))
  refine h5.own kt (fun y hy => ?_)
  rcases List.mem_append.1 hy with h | h
  · have := hs y h; omega
  · simp at h; omega
theorem take_next {l : List Value} {k : Nat} (h : k < l.length) : l.take (k + 1) = l.take k ++ [l[k]] := List.take_succ_eq_append_getElem h

theorem done_end {σ : Type} {J : σ → List Nat → World → Prop} {s' : σ} {F : List Nat} {w wr w2 : World} {fv : Value} {A : Option Addr} {n m : Nat} {l : List Value} {ob : Obj} (h : Left w wr fv A n m l) {F' : List Nat} (hj : J s' F' w2) (hsub : ∀ x ∈ F', x ∈ F ∨ x = wr.heap.size ∨ (Value.slice A n m).ownBlock = some x ∨ (wr.alloc ob).heap.size ≤ x) (hk : Kept (wr.heap.size :: F) (wr.alloc ob) w2) : BsrPost J s' F w w2 := by
  obtain ⟨h0, h1, h2, h3, h4, h5⟩ := h
  have hz := h5.size
  have hzz : (wr.alloc ob).heap.size = wr.heap.size + 1 := by simp
  refine ⟨F', hj, fun x hx => ?_, ?_⟩
  · rcases hsub x hx with h | h | h | h
    · exact .inl h
    · exact .inr (by omega)
    · have := h4 x h; exact .inr (by omega)
    · exact .inr (by omega)
  · have k1 : Kept (wr.heap.size :: F) w (wr.alloc ob) := (h5.weaken (by simp)).alloc ob
    exact (k1.trans hk).weaken (fun x hx => by
      rcases List.mem_cons.1 hx with h | h
      · exact .inr (by omega)
      · exact .inl h)

set_option maxRecDepth 100000 in
set_option maxHeartbeats 1600000 in
theorem bsr_done {σ : Type} {w0 : World} {B : Nat} {ls : List Value} (hls : ∀ v ∈ ls, IsLit v) (hlen : ls.length ≤ 1000000) {fk : FuncId} {cap : Array Value} {step : σ → List Value → σ × Bool} {J : σ → List Nat → World → Prop} {G : σ → List Value → Prop} (hc : Cons w0 B G fk cap step J) {s : σ} (hL : G s ls)
    {F : List Nat} {w : World} {pw : Nat} {v : Value} (hj : J s F w) (hold : Old B w0 w) (hword : WordAt w pw v) (hpw : pw ∉ F) (hrow : RdV (· ∉ F) w v ls) :
    Calls Tryf.prog 14 #[.pointer (some ⟨pw, 0, none⟩), .func (.func fk) #[] cap] w fun e w' => e = .returned (.bool (step s ls).2) ∧ BsrPost J (step s ls).1 F w w' := by
  have HRO := Lib.hid hrow
  obtain ⟨A, c, rfl, a1, a2, a3, a5, a4⟩ := hrow
  have c1 := row0 hword
  have HWA := Lib.hid hword
  have hz : pw < w.heap.size := heap_lt hword
  have HJ := Lib.hid hj; have HP := Lib.hid hpw; have HO := Lib.hid hold; have HLS := Lib.hid hls
  have HCELL : Hid (∀ (k : Nat) (x : Value), ls[k]? = some x → ∃ g o, A = some ⟨g, o, none⟩ ∧ g < w.heap.size ∧ w.cell? ⟨g, o + k, none⟩ = some x) := Lib.hid (fun k x hx => by
    have hlt : k < ls.length := (List.getElem?_eq_some_iff.1 hx).1
    obtain ⟨g, o, h1, h2, _, h3⟩ := a4 (by omega)
    exact ⟨g, o, h1, h2, h3 k x hx⟩)
  unfold maxLen at a2
  clear hword a3 a4 a5 hj hpw hold hls
  have hst := Lib.hid (left_start w (.func (.func fk) #[] cap))
  go_enter Tryf.func14, Tryf.ntmps14
  go_wp2_with fail
  go_loopw [4, 35] (fun q i wr => ∃ k : Nat, k ≤ ls.length ∧ i = .int .i64 k ∧ q = .bool false ∧ Hid (∃ A' m', Left w wr (.func (.func fk) #[] cap) A' k m' (ls.take k))) (fun _ i _ => ls.length - (intOf i).toNat)
  case atStart => exact ⟨0, Nat.zero_le _, rfl, rfl, Lib.hid ⟨none, 0, by simpa using hst.out⟩⟩
  case round =>
    obtain ⟨k, hk, rfl, rfl, HI⟩ := hrel
    by_cases hlt : k < ls.length
    · obtain ⟨A1, m1, hl⟩ := HI.out
      have HL := Lib.hid hl
      obtain ⟨g, o, hA, hg, hcell⟩ := HCELL.out k _ (List.getElem?_eq_getElem hlt)
      obtain ⟨b, hb⟩ := HLS.out _ (List.getElem_mem hlt)
      rw [hb] at hcell
      unfold litV at hcell
      obtain ⟨h0, h1, h2, h3, h4, h5⟩ := hl
      have d0 : wr.cell? ⟨g, o + k, none⟩ = some (.iface 30 (.pointer (some ⟨b, 0, none⟩))) := (h5.cell (p := ⟨g, o + k, none⟩) hg (by simp)).trans hcell
      have d1 := row0 h2
      have f1 := row0f h2
      have hzz := heap_lt h2
      have HB := Lib.hid hb
      have HOW := Lib.hid (h3.kept ((Kept.refl [] wr).alloc (.cells #[.iface 30 (.pointer (some ⟨b, 0, none⟩))] 52)) (by simp))
      have HNL : Hid (_ = some (Obj.cells #[.slice A1 k m1] 35 (0, 0))) := Lib.hid h2
      have HLE : Hid ((ls.take k).length = k) := Lib.hid h0
      clear h0 h1 h2 h3 h4 h5 hcell hb
      subst hA
      have hta := ta_lit_br b
      go_wp2_with (at_builtin; refine wpList_app wp_el rfl _ _ rfl rfl rfl HOW.out (OwnV.lit wr [.iface 30 (.pointer (some ⟨b, 0, none⟩))] (by simp)).rd (by simp; rfl) (by simp; omega) ?_; intro v' w2 ho hb' hk'; obtain ⟨A2, m2, hv2, _, _, _, _, _⟩ := ho.rd; rw [List.length_append, HLE.out, show [Value.iface 30 (.pointer (some ⟨b, 0, none⟩))].length = 1 from rfl] at hv2; subst hv2; have e2 : w2.cell? ⟨w.heap.size + 1, 0, none⟩ = some (.slice A1 k m1) := row0 ((hk'.block _ (by simp; omega) (fun hm => by have := HL.out.2.2.2.2.1 _ (mem_own hm); omega)).trans ((Below.heap_alloc _ _ _ hzz).trans HNL.out)); have f2 : w2.frozen? ⟨w.heap.size + 1, 0, none⟩ = false := row0f ((hk'.block _ (by simp; omega) (fun hm => by have := HL.out.2.2.2.2.1 _ (mem_own hm); omega)).trans ((Below.heap_alloc _ _ _ hzz).trans HNL.out)); have HO2 := Lib.hid ho; have HB2 := Lib.hid hb'; have HK2 := Lib.hid hk'; clear ho hb' hk')
      go_roundw
      case rel => exact ⟨k + 1, by omega, by go_num, rfl, Lib.hid ⟨_, _, by rw [take_next hlt, HB.out]; exact left_step HL.out HO2.out HB2.out HK2.out⟩⟩
      case measure => simp [intOf]; omega
    · obtain rfl : k = ls.length := by omega
      obtain ⟨A1, m1, hl⟩ := HI.out
      rw [List.take_length] at hl
      have HL := Lib.hid hl
      obtain ⟨h0, h1, h2, h3, h4, h5⟩ := hl
      have d1 := row0 h2; have d2 := row0 h1
      have hen : ∀ (args : Array Value) (w : World), (callFunc fk args).run Tryf.prog w = .ok (.enter fk args) w := hc.enters
      have hk0 : Kept [] w (wr.alloc (.cells #[.slice A1 ls.length m1] 37)) := h5.alloc _
      have HCALL := Lib.hid (hc.call (hc.keep HJ.out hk0 (by simp) (by simp)) (HO.out.kept hk0 (by simp)) (heap_alloc_new wr (.cells #[.slice A1 ls.length m1] 37)) (Nat.le_trans HO.out.1 h5.size) (fun hm => by have := hc.lt HJ.out _ hm; have := h5.size; omega) (h3.kept ((Kept.refl [] wr).alloc _) (by simp)) (fun g hg => ⟨by have := h4 g hg; have := HO.out.1; omega, fun hm => by have := hc.lt HJ.out _ hm; have := h4 g hg; omega⟩) HLS.out hL)
      clear h0 h1 h2 h3 h4 h5 hk0
      go_wp2_with (go_at_fn fk; refine HCALL.out.mono ?_; rintro e w2 ⟨rfl, hpost⟩; dsimp only; have HPO := Lib.hid hpost; clear hpost)
      go_ret
      obtain ⟨F', hj', hsub', hk'⟩ := HPO.out
      exact ⟨rfl, done_end HL.out hj' hsub' hk'⟩
end Go.Proofs.YtnnedmjkhjgbcaaFmt
