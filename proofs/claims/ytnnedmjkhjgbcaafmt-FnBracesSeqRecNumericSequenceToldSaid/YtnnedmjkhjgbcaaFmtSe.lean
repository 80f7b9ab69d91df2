/-
  FnBracesSeqRecNumericSequence: its consumer's memory; one word of the sequence.
-/
import Derived.Test.YtnnedmjkhjgbcaaFmtSd
namespace Go.Proofs.YtnnedmjkhjgbcaaFmt
open Go.RowKit

/-- The consumer's memory: the words taken so far lie in a row of its own. -/
def NJ (B gb : Nat) (T : Nat → Value) (s : Nat) (F : List Nat) (w : World) : Prop :=
  ∃ A m, w.heap[gb]? = some (.cells #[.slice A s m] 38 (0, 0)) ∧ OwnV 9 w (.slice A s m) ((List.range s).map T) ∧ F = gb :: (Value.slice A s m).ownBlock.toList ∧ B ≤ gb ∧ (∀ g ∈ (Value.slice A s m).ownBlock, B ≤ g ∧ gb ≠ g)
/-- The same, beside a new literal. -/
def NJk (B gb : Nat) (T : Nat → Value) (nb : Nat) (S : ByteArray) (s : Nat) (F : List Nat) (w : World) : Prop :=
  ∃ F0, F = nb :: F0 ∧ NJ B gb T s F0 w ∧ nb ∉ F0 ∧ B ≤ nb ∧ w.cell? ⟨nb, 4, none⟩ = some (.string S)
section
variable {B gb : Nat} {T : Nat → Value} {nb : Nat} {S : ByteArray} {s : Nat} {F : List Nat} {w w' : World}
theorem NJ.keep {Z : List Nat} (h : NJ B gb T s F w) (k : Kept Z w w') (hS : ∀ x ∈ Z, x ∉ F) : NJ B gb T s F w' := by
  obtain ⟨A, m, h1, h2, rfl, h3, h4⟩ := h
  exact ⟨A, m, (k.block _ (heap_lt h1) (fun hm => hS _ hm (by simp))).trans h1, h2.kept k (fun g hg hm => hS g hm (by have h' : (Value.slice A s m).ownBlock = some g := hg; simp [h'])), rfl, h3, h4⟩
theorem NJ.lt (h : NJ B gb T s F w) : ∀ x ∈ F, B ≤ x ∧ x < w.heap.size := by
  obtain ⟨A, m, h1, h2, rfl, h3, h4⟩ := h
  intro x hx
  rcases List.mem_cons.1 hx with rfl | hx
  · exact ⟨h3, heap_lt h1⟩
  · exact ⟨(h4 x (mem_own hx)).1, h2.lt x (mem_own hx)⟩
theorem NJk.keep {Z : List Nat} (h : NJk B gb T nb S s F w) (k : Kept Z w w') (hS : ∀ x ∈ Z, x ∉ F) : NJk B gb T nb S s F w' := by
  obtain ⟨F0, rfl, h1, h2, h3, h4⟩ := h
  exact ⟨F0, rfl, h1.keep k (fun x hx hm => hS x hx (by simp [hm])), h2, h3, (k.cell (p := ⟨nb, 4, none⟩) (block_lt_of_cell h4) (fun hm => hS _ hm (by simp))).trans h4⟩
theorem NJk.lt (h : NJk B gb T nb S s F w) : ∀ x ∈ F, B ≤ x ∧ x < w.heap.size := by
  obtain ⟨F0, rfl, h1, h2, h3, h4⟩ := h
  intro x hx
  rcases List.mem_cons.1 hx with rfl | hx
  · exact ⟨h3, block_lt_of_cell h4⟩
  · exact h1.lt x hx
end

/-- What lies in the memory ahead. -/
structure NE (w0 : World) (B gb cb cnt la lb : Nat) (a b : ByteArray) : Prop where
  hla : w0.cell? ⟨la, 4, none⟩ = some (.string a)
  la' : la < B
  hlb : w0.cell? ⟨lb, 4, none⟩ = some (.string b)
  lb' : lb < B
  hcb : w0.cell? ⟨cb, 0, none⟩ = some (.int .u64 cnt)
  cb' : cb < B
  hcm : cnt ≤ 65536
theorem old_cell {B : Nat} {w0 w : World} {p : Addr} {v : Value} (h : Old B w0 w) (hp : p.block < B) (hc : w0.cell? p = some v) : w.cell? p = some v := (World.cell?_of_block (h.2 p.block hp)).trans hc

theorem num_call {w0 w : World} {B gb cb cnt la lb k nb pw : Nat} {a b S : ByteArray} {T : Nat → Value} (E : NE w0 B gb cb cnt la lb a b) (hk : k < cnt) (hT : T k = .string (catB [a, S, b])) (hsz : (catB [a, S, b]).size ≤ 1000000000)
    {F : List Nat} {v : Value} (hj : NJk B gb T nb S k F w) (hold : Old B w0 w) (hword : WordAt w pw v) (hown : OwnV 52 w v [litV la, litV nb, litV lb]) :
    Calls Tryf.prog 10 #[.pointer (some ⟨pw, 0, none⟩), .pointer (some ⟨gb, 0, none⟩), .pointer (some ⟨cb, 0, none⟩)] w fun e w' => e = .returned (.bool true) ∧ CallPost (NJk B gb T nb S) (k + 1) F pw v.ownBlock w w' := by
  obtain ⟨F0, rfl, ⟨A, m, h1, h2, hF0, h3, h4⟩, h5, h6, h7⟩ := hj
  subst hF0
  have cla : w.cell? ⟨la, 4, none⟩ = some (.string a) := old_cell hold E.la' E.hla
  have clb : w.cell? ⟨lb, 4, none⟩ = some (.string b) := old_cell hold E.lb' E.hlb
  have ccb : w.cell? ⟨cb, 0, none⟩ = some (.int .u64 cnt) := old_cell hold E.cb' E.hcb
  refine (seq_clo h1 h2 (by simp) ccb hk E.hcm (fun g hg => (h4 g hg).2) (S := catB [a, S, b]) (fun W kw => ?_)).mono ?_
  · refine lit_any [a, S, b] (hword.kept kw (by simp)) (hown.rd.kept kw (by simp)) rfl (by simp) (by simp) (fun i z hz => ?_) ?_
    · match i with
      | 0 => cases hz; exact ⟨a, rfl, _, rfl, (kw.cell (p := ⟨la, 4, none⟩) (block_lt_of_cell cla) (by simp)).trans cla⟩
      | 1 => cases hz; exact ⟨S, rfl, _, rfl, (kw.cell (p := ⟨nb, 4, none⟩) (block_lt_of_cell h7) (by simp)).trans h7⟩
      | 2 => cases hz; exact ⟨b, rfl, _, rfl, (kw.cell (p := ⟨lb, 4, none⟩) (block_lt_of_cell clb) (by simp)).trans clb⟩
      | i + 3 => simp at hz
    · have : (catB [a, S, b]).size = (([a, S, b] : List ByteArray).flatMap (·.data.toList)).length := by
        unfold catB ByteArray.size
        simp
      omega
  · rintro e w' ⟨rfl, A', m', w2, g1, g2, g3, rfl⟩
    refine ⟨rfl, nb :: gb :: (Value.slice A' (k + 1) m').ownBlock.toList, ?_, ?_, ?_⟩
    · have hz := g3.size
      have hgb : gb < w.heap.size := heap_lt h1
      have hnb : nb < w.heap.size := block_lt_of_cell h7
      have hn0 : gb ∉ (Value.slice A k m).ownBlock.toList := fun hm => (h4 gb (mem_own hm)).2 rfl
      have hgb2 := (g3.block gb hgb hn0).trans h1
      have hnn : nb ≠ gb := fun h => h5 (by simp [h])
      have hno : nb ∉ (Value.slice A k m).ownBlock.toList := fun hm => h5 (List.mem_cons.2 (.inr hm))
      have ks : Kept [gb] w2 (w2.setCell ⟨gb, 0, none⟩ (.slice A' (k + 1) m')) := (Kept.refl _ _).setCell (by simp) _
      have own' : ∀ g ∈ (Value.slice A' (k + 1) m').ownBlock, B ≤ g ∧ gb ≠ g ∧ nb ≠ g := fun g hg => by
        rcases g2 g hg with h | h
        · exact ⟨(h4 g h).1, (h4 g h).2, fun e => hno (by rw [e]; simp; exact h)⟩
        · exact ⟨by have := hold.1; omega, by omega, by omega⟩
      refine ⟨_, rfl, ⟨A', m', row0s hgb2, ?_, rfl, h3, fun g hg => ⟨(own' g hg).1, (own' g hg).2.1⟩⟩, ?_, h6, ?_⟩
      · have e : (List.range (k + 1)).map T = (List.range k).map T ++ [.string (catB [a, S, b])] := by rw [List.range_succ, List.map_append, List.map_cons, List.map_nil, hT]
        rw [e]
        exact g1.kept ks (fun g hg hm => (own' g hg).2.1 (by simp at hm; exact hm.symm))
      · intro hm
        rcases List.mem_cons.1 hm with h | h
        · exact hnn h
        · exact (own' nb (mem_own h)).2.2 rfl
      · exact (ks.cell (p := ⟨nb, 4, none⟩) (by show nb < _; omega) (by simpa using hnn)).trans ((g3.cell (p := ⟨nb, 4, none⟩) hnb hno).trans h7)
    · intro x hx
      rcases List.mem_cons.1 hx with h | h
      · exact .inl (by simp [h])
      · rcases List.mem_cons.1 h with h | h
        · exact .inl (by simp [h])
        · rcases g2 x (mem_own h) with h' | h'
          · exact .inl (by simp [h'])
          · exact .inr (.inr (.inr h'))
    · refine (g3.weaken (fun x hx => .inl (by simp only [List.mem_cons]; exact .inr (.inr (.inr hx))))).setCell (by simp) _

theorem num_cons {w0 : World} {B gb cb cnt la lb k nb : Nat} {a b S : ByteArray} {T : Nat → Value} (E : NE w0 B gb cb cnt la lb a b) (hk : k < cnt) (hT : T k = .string (catB [a, S, b])) (hsz : (catB [a, S, b]).size ≤ 1000000000) :
    Cons w0 B (fun s ls => s = k ∧ ls = [litV la, litV nb, litV lb]) 10 #[.pointer (some ⟨gb, 0, none⟩), .pointer (some ⟨cb, 0, none⟩)] (fun s _ => (s + 1, true)) (NJk B gb T nb S) where
  enters := enters_of Tryf.func10 (by kernel_rfl) rfl
  small := fun h => by rw [h.2]; simp
  keep := fun h k hS _ => h.keep k hS
  lt := NJk.lt
  call := fun hj hold hword _ _ hown _ _ hG => by
    obtain ⟨rfl, rfl⟩ := hG
    exact num_call E hk hT hsz hj hold hword hown

/-- In the middle of the sequence. -/
def SI (B gb cb : Nat) (T : Nat → Value) (w : World) (vl : Value) (la j : Nat) (wr : World) : Prop :=
  ∃ F', J2 B (w.heap.size + 1) w.heap.size vl [litV la] 10 #[.pointer (some ⟨gb, 0, none⟩), .pointer (some ⟨cb, 0, none⟩)] (NJ B gb T) j ((w.heap.size + 1) :: w.heap.size :: (vl.ownBlock.toList ++ F')) wr ∧ (∀ x ∈ F', x ∈ [gb] ∨ w.heap.size ≤ x) ∧ Kept [gb] w wr ∧ (∀ g ∈ vl.ownBlock, w.heap.size ≤ g)

set_option maxRecDepth 100000 in
theorem seq_in {w0 w wr w1 : World} {B gb cb cnt la lb j nb : Nat} {a b S : ByteArray} {T : Nat → Value} (E : NE w0 B gb cb cnt la lb a b) (hj : j < cnt) (hT : T j = .string (catB [a, S, b])) (hsz : (catB [a, S, b]).size ≤ 1000000000) (hold : Old B w0 w) (hB : B ≤ gb)
    {vl vx v3 : Value} (hin : SI B gb cb T w vl la j wr) (hk1 : Kept [] (wr.alloc (.cells #[vx] 37)) w1) (ho3 : OwnV 52 w1 v3 [litV nb, litV lb]) (hb3 : ∀ g ∈ v3.ownBlock, wr.heap.size < g ∧ g ≠ nb) (hnb : wr.heap.size < nb) (hnc : w1.cell? ⟨nb, 4, none⟩ = some (.string S)) :
    Calls Tryf.prog 16 #[.pointer (some ⟨wr.heap.size, 0, none⟩), .pointer (some ⟨w.heap.size + 1, 0, none⟩), .pointer (some ⟨w.heap.size, 0, none⟩)] (w1.setCell ⟨wr.heap.size, 0, none⟩ v3) fun e w' => e = .returned (.bool true) ∧ SI B gb cb T w vl la (j + 1) w' := by
  obtain ⟨F', ⟨Fj, heq, hJ, j1, j2, j3, j4, j5, j6, j7⟩, hsub, hk, hown⟩ := hin
  simp only [List.cons.injEq, true_and, List.append_cancel_left_eq] at heq
  subst heq
  have hz : (wr.alloc (.cells #[vx] 37)).heap.size = wr.heap.size + 1 := by simp
  have hz1 := hk1.size
  have hzw := hk.size
  have hls : ∀ v ∈ [litV la], IsLit v := fun v hv => by simp at hv; subst hv; exact ⟨la, rfl⟩
  have hC2 := clo2_cons (num_cons (nb := nb) E hj hT hsz) hls (lb := w.heap.size + 1) (yb := w.heap.size) (vl := vl) (left := [litV la])
  have hFj := hJ.lt
  have l1 : w.heap.size + 1 < wr.heap.size := heap_lt j1
  have l2 : ∀ g ∈ vl.ownBlock, g < wr.heap.size := j2.lt
  have e1 : WordAt w1 wr.heap.size vx := (hk1.block _ (by omega) (by simp)).trans (heap_alloc_new wr _)
  have ka : Kept [] wr w1 := ((Kept.refl _ _).alloc _).trans hk1
  have kb : Kept [wr.heap.size] wr (w1.setCell ⟨wr.heap.size, 0, none⟩ v3) := (ka.weaken (by simp)).setCell (by simp) _
  have ks : Kept [wr.heap.size] w1 (w1.setCell ⟨wr.heap.size, 0, none⟩ v3) := (Kept.refl _ _).setCell (by simp) _
  have hold' : Old B w0 (w1.setCell ⟨wr.heap.size, 0, none⟩ v3) := (hold.kept hk (fun x hx => by simp at hx; omega)).kept kb (fun x hx => by simp at hx; have := hold.1; omega)
  have hJk : NJk B gb T nb S j (nb :: F') (w1.setCell ⟨wr.heap.size, 0, none⟩ v3) := ⟨F', rfl, hJ.keep kb (fun x hx hm => by simp at hx; have := (hFj x hm).2; omega), fun hm => by have := (hFj nb hm).2; omega, by have := hold.1; omega, (ks.cell (p := ⟨nb, 4, none⟩) (block_lt_of_cell hnc) (by simp; omega)).trans hnc⟩
  have hJ2 : J2 B (w.heap.size + 1) w.heap.size vl [litV la] 10 #[.pointer (some ⟨gb, 0, none⟩), .pointer (some ⟨cb, 0, none⟩)] (NJk B gb T nb S) j ((w.heap.size + 1) :: w.heap.size :: (vl.ownBlock.toList ++ (nb :: F'))) (w1.setCell ⟨wr.heap.size, 0, none⟩ v3) :=
    ⟨nb :: F', rfl, hJk, (kb.block _ l1 (by simp; omega)).trans j1, j2.kept kb (fun g hg hm => by have := l2 g hg; simp at hm; omega), (kb.block _ (by omega) (by simp; omega)).trans j3, j4, fun hm => by
      rcases List.mem_cons.1 hm with h | h
      · omega
      · exact j5 h, fun hm => by
      rcases List.mem_cons.1 hm with h | h
      · omega
      · exact j6 h, fun g hg hm => by
      rcases List.mem_cons.1 hm with h | h
      · have := l2 g hg; omega
      · exact j7 g hg h⟩
  have hF2 : ∀ x ∈ (w.heap.size + 1) :: w.heap.size :: (vl.ownBlock.toList ++ (nb :: F')), x = nb ∨ x < wr.heap.size := fun x hx => by
    simp only [List.mem_cons, List.mem_append] at hx
    rcases hx with h | h | h | h | h
    · exact .inr (by omega)
    · exact .inr (by omega)
    · exact .inr (l2 x (mem_own h))
    · exact .inl h
    · exact .inr (hFj x h).2
  have hpn : wr.heap.size ∉ (w.heap.size + 1) :: w.heap.size :: (vl.ownBlock.toList ++ (nb :: F')) := fun hm => by rcases hF2 _ hm with h | h <;> omega
  have hrd : RdV (· ∉ (w.heap.size + 1) :: w.heap.size :: (vl.ownBlock.toList ++ (nb :: F'))) (w1.setCell ⟨wr.heap.size, 0, none⟩ v3) v3 [litV nb, litV lb] :=
    ((ho3.kept ks (fun g hg hm => by have := (hb3 g hg).1; simp at hm; omega)).rd).weaken (fun g _ hg hm => by
      have h1 := hb3 g hg
      rcases hF2 _ hm with h | h <;> omega)
  refine (clo1_call (bsr_done (ls := [litV nb, litV lb]) (fun v hv => by simp at hv; rcases hv with rfl | rfl <;> exact ⟨_, rfl⟩) (by simp) hC2 (s := j) ⟨rfl, rfl⟩ hJ2 hold' (row0s e1) hpn hrd)).mono ?_
  rintro e w' ⟨rfl, F3, ⟨F4, rfl, ⟨F5, rfl, hj5, n1, n2, n3⟩, q1, q2, q3, q4, q5, q6, q7⟩, hsub3, hk3⟩
  have hs5 : ∀ x ∈ F5, x ∈ [gb] ∨ w.heap.size ≤ x := fun x hx => by
    rcases hsub3 x (by simp [hx]) with h | h
    · simp only [List.mem_cons, List.mem_append] at h
      rcases h with h | h | h | h | h
      · exact .inr (by omega)
      · exact .inr (by omega)
      · exact .inr (hown x (mem_own h))
      · exact .inr (by omega)
      · exact hsub x h
    · refine .inr ?_
      have : (w1.setCell ⟨wr.heap.size, 0, none⟩ v3).heap.size = w1.heap.size := by simp [World.setCell]
      omega
  refine ⟨rfl, F5, ⟨F5, rfl, hj5, q1, q2, q3, q4, fun h => q5 (by simp [h]), fun h => q6 (by simp [h]), fun g hg h => q7 g hg (by simp [h])⟩, hs5, ?_, hown⟩
  have k1 : Kept (gb :: wr.heap.size :: ((w.heap.size + 1) :: w.heap.size :: (vl.ownBlock.toList ++ (nb :: F')))) w w' :=
    ((hk.weaken (fun x hx => .inl (by simp at hx; simp [hx]))).trans (kb.weaken (fun x hx => .inl (by simp at hx; simp [hx])))).trans (hk3.weaken (fun x hx => .inl (by simp only [List.mem_cons] at hx ⊢; exact .inr (.inr hx))))
  refine k1.weaken (fun x hx => ?_)
  simp only [List.mem_cons, List.mem_append] at hx
  rcases hx with h | h | h | h | h | h | h
  · exact .inl (by simp [h])
  · exact .inr (by omega)
  · exact .inr (by omega)
  · exact .inr (by omega)
  · exact .inr (hown x (mem_own h))
  · exact .inr (by omega)
  · exact hsub x h
end Go.Proofs.YtnnedmjkhjgbcaaFmt
