/-
  bytes.TrimLeft of tabs; the heredoc indenter's WriteByte.
-/
import Derived.Test.YtejjmonaoajlgaaDoorInd
namespace Go.Proofs.YtejjmonaoajlgaaDoor
open Go.RowKit

theorem tabs_get {l : List UInt8} {k : Nat} (h : k < tabs l) : l[k]? = some 9 := by
  have h1 : (l.takeWhile isTab)[k]? = some (l.takeWhile isTab)[k] := List.getElem?_eq_getElem h
  have h2 : isTab (l.takeWhile isTab)[k] = true := List.all_eq_true.1 (List.all_takeWhile (l := l) (p := isTab)) _ (List.getElem_mem h)
  have h3 : (l.takeWhile isTab)[k] = 9 := UInt8.toNat_inj.1 (by simpa [isTab] using h2)
  have h4 := List.takeWhile_append_dropWhile (p := isTab) (l := l)
  rw [← h4, List.getElem?_append_left h, h1, h3]
theorem tabs_stop {l : List UInt8} {x : UInt8} (h : l[tabs l]? = some x) : x.toNat ≠ 9 := by
  have h4 := untab_eq l
  have h5 : (untab l)[0]? = some x := by rw [h4, List.getElem?_drop, Nat.add_zero]; exact h
  unfold untab at h5
  intro e
  have h6 := List.head?_dropWhile_not isTab l
  rw [← List.head?_eq_getElem?] at h5
  rw [h5] at h6
  simp [isTab, e] at h6

set_option maxRecDepth 100000 in
set_option maxHeartbeats 800000 in
theorem trim_byte (w : World) (g so n c : Nat) (l : List UInt8) (hl : l.length = n) (hc : ∀ j x, l[j]? = some x → w.cell? ⟨g, so + j, none⟩ = some (By x)) (ht : tabs l < n) (hnc : n ≤ c) :
    Calls Tryd.prog 23 #[.slice (some ⟨g, so, none⟩) n c, .int .u8 9] w fun e w' => e = .returned (.slice (some ⟨g, so + tabs l, none⟩) (n - tabs l) (c - tabs l)) ∧ w = w' := by
  obtain ⟨T, hT⟩ : ∃ T, T = tabs l := ⟨_, rfl⟩
  rw [← hT] at ht ⊢
  have HT := Lib.hid hT; have HL := Lib.hid hl; have HC := Lib.hid hc
  clear hT hl hc
  go_enter Tryd.func23, Tryd.ntmps23
  go_wp2_with fail
  go_loop [0] (fun s0 => ∃ k : Nat, k ≤ T ∧ s0 = .slice (some ⟨g, so + k, none⟩) (n - k) (c - k)) (fun s0 => lenOf s0)
  case atStart => exact ⟨0, Nat.zero_le _, rfl⟩
  case round =>
    obtain ⟨k, hk, rfl⟩ := hrel
    have hlen := HL.out
    obtain ⟨x, hx⟩ : ∃ x, l[k]? = some x := ⟨l[k]'(by omega), List.getElem?_eq_getElem _⟩
    have hcs : w.cell? ⟨g, so + k, none⟩ = some (.int .u8 x.toNat) := HC.out k x hx
    have hpos : 0 < n - k := by omega
    by_cases hlt : k < T
    · have hx9 : x = 9 := by
        have := tabs_get (l := l) (k := k) (by rw [← HT.out]; exact hlt)
        rw [this] at hx; exact (Option.some.inj hx).symm
      subst hx9
      have hcs : w.cell? ⟨g, so + k, none⟩ = some (.int .u8 9) := hcs
      have q6 : ∀ w, (Instr.slice 22 (.slice (some ⟨g, so + k, none⟩) (n - k) (c - k)) (some (.int .i64 1)) none none).run Tryd.prog w = .ok (.slice (some ⟨g, so + (k + 1), none⟩) (n - (k + 1)) (c - (k + 1))) w := fun w => by
        have h := slice_from g (so + k) (n - k) (c - k) 1 (by omega) w
        have e1 : fromA g (so + k) (c - k) 1 = ⟨g, so + (k + 1), none⟩ := by unfold fromA; rw [if_neg (by omega)]; simp
        rw [e1, show n - k - 1 = n - (k + 1) by omega, show c - k - 1 = c - (k + 1) by omega] at h
        exact h
      clear hx hlen
      go_wp2_with fail
      go_round
      case rel => exact ⟨k + 1, by omega, rfl⟩
      case measure => simp [lenOf]; omega
    · have hkT : k = T := by omega
      subst hkT
      have hne : x.toNat ≠ 9 := tabs_stop (l := l) (by rw [← HT.out]; exact hx)
      have g1 : ((x.toNat : Int) == 9) = false := by simp; omega
      have g2 : ((n - k : Nat) : Int) ≠ 0 := by omega
      clear hx hlen hne
      go_wp2_with fail
      go_ret
      exact ⟨rfl, rfl⟩

set_option maxRecDepth 100000 in
theorem trim_left (w : World) (g so n c : Nat) (l : List UInt8) (hl : l.length = n) (hc : ∀ j x, l[j]? = some x → w.cell? ⟨g, so + j, none⟩ = some (By x)) (ht : tabs l < n) (hnc : n ≤ c) :
    Calls Tryd.prog 21 #[.slice (some ⟨g, so, none⟩) n c, .string ⟨#[9]⟩] w fun e w' => e = .returned (.slice (some ⟨g, so + tabs l, none⟩) (n - tabs l) (c - tabs l)) ∧ w = w' := by
  have HC := Lib.hid (trim_byte w g so n c l hl hc ht hnc)
  have g1 : ((n : Int) == 0) = false := by simp; omega
  clear hl hc ht
  go_enter Tryd.func21, Tryd.ntmps21
  go_wp2_with fail
  refine HC.out.mono ?_
  rintro e w' ⟨rfl, rfl⟩
  go_wp2_with fail
  go_ret
  exact ⟨rfl, rfl⟩

/-- What may turn: S; what is new in S' is new. -/
def Fp (S S' : List Nat) (w w' : World) : Prop := (∀ x ∈ S', x ∈ S ∨ w.heap.size ≤ x) ∧ Kept S w w'
theorem Fp.refl (S : List Nat) (w : World) : Fp S S w w := ⟨fun _ h => .inl h, Kept.refl _ _⟩
theorem Fp.trans {S1 S2 S3 : List Nat} {w1 w2 w3 : World} (h : Fp S1 S2 w1 w2) (k : Fp S2 S3 w2 w3) : Fp S1 S3 w1 w3 :=
  ⟨fun x hx => (k.1 x hx).elim (fun h2 => h.1 x h2) (fun h2 => .inr (Nat.le_trans h.2.size h2)), h.2.trans2 k.2 h.1⟩

def ieCells (wb : Nat) (base fi fc : Int) (cv : Value) : List Value := [wrV wb, .int .i64 base, .int .i64 fi, .int .i64 fc, cv]
/-- An indenter, its writer and its buffer, in the state s. -/
structure Ix (w : World) (eb wb rb b : Nat) (row : Option Nat) (cv : Value) (base : Int) (s : Is) : Prop where
  st : ∃ bs pend, St w wb rb TB b 0 R0 row bs pend ∧ bs ++ pend = s.out
  blk : w.heap[eb]? = some (.cells (ieCells wb base s.fi s.fc cv).toArray TE (0, 0))
  own : Own w cv s.cur
  d1 : eb ∉ wb :: rb :: b :: row.toList
  d2 : ∀ g ∈ cv.ownBlock, g ≠ eb ∧ g ∉ wb :: rb :: b :: row.toList
def fp (eb wb rb b : Nat) (row : Option Nat) (cv : Value) : List Nat := eb :: wb :: rb :: b :: (row.toList ++ cv.ownBlock.toList)
section
variable {w w' : World} {eb wb rb b : Nat} {row : Option Nat} {cv : Value} {base : Int} {s : Is}
theorem Ix.lt (h : Ix w eb wb rb b row cv base s) : ∀ x ∈ fp eb wb rb b row cv, x < w.heap.size := by
  obtain ⟨bs, pend, hs, _⟩ := h.st
  intro x hx
  simp only [fp, List.mem_cons, List.mem_append, Option.mem_toList] at hx
  rcases hx with rfl | rfl | rfl | rfl | hx | hx
  · exact heap_lt h.blk
  · exact hs.wr.lt
  · exact hs.wr.rlt
  · exact hs.bf.lt
  · exact (hs.bf.rowlt x hx).1
  · exact h.own.lt x hx
theorem Ix.kept {S : List Nat} (h : Ix w eb wb rb b row cv base s) (k : Kept S w w') (hS : ∀ x ∈ fp eb wb rb b row cv, x ∉ S) : Ix w' eb wb rb b row cv base s := by
  obtain ⟨bs, pend, hs, he⟩ := h.st
  have m : ∀ x, x = eb ∨ x = wb ∨ x = rb ∨ x = b ∨ x ∈ row ∨ x ∈ cv.ownBlock → x ∉ S := fun x hx => hS x (by simp only [fp, List.mem_cons, List.mem_append, Option.mem_toList]; exact hx)
  exact ⟨⟨bs, pend, hs.kept k (m _ (by simp)) (m _ (by simp)) (m _ (by simp)) (fun g hg => m g (.inr (.inr (.inr (.inr (.inl hg)))))), he⟩, (k.block eb (heap_lt h.blk) (m _ (by simp))).trans h.blk, h.own.kept k (fun g hg => m g (.inr (.inr (.inr (.inr (.inr hg)))))), h.d1, h.d2⟩
theorem Ix.wr (h : Ix w eb wb rb b row cv base s) : Wr w wb rb b row s.out w := by
  obtain ⟨bs, pend, hs, he⟩ := h.st
  exact Wr.of hs he
theorem Ix.c0 (h : Ix w eb wb rb b row cv base s) : w.cell? ⟨eb, 0, none⟩ = some (wrV wb) := by rw [row_cell h.blk]; rfl
theorem Ix.c1 (h : Ix w eb wb rb b row cv base s) : w.cell? ⟨eb, 1, none⟩ = some (.int .i64 base) := by rw [row_cell h.blk]; rfl
theorem Ix.c2 (h : Ix w eb wb rb b row cv base s) : w.cell? ⟨eb, 2, none⟩ = some (.int .i64 s.fi) := by rw [row_cell h.blk]; rfl
theorem Ix.c3 (h : Ix w eb wb rb b row cv base s) : w.cell? ⟨eb, 3, none⟩ = some (.int .i64 s.fc) := by rw [row_cell h.blk]; rfl
theorem Ix.c4 (h : Ix w eb wb rb b row cv base s) : w.cell? ⟨eb, 4, none⟩ = some cv := by rw [row_cell h.blk]; rfl
theorem Ix.free (h : Ix w eb wb rb b row cv base s) (i : Nat) : w.frozen? ⟨eb, i, none⟩ = false := row_free h.blk i
/-- A cell of the indenter's own is stored into. -/
theorem Ix.set (h : Ix w eb wb rb b row cv base s) (i : Nat) (v : Value) (s' : Is) (e : (ieCells wb base s.fi s.fc cv).set i v = ieCells wb base s'.fi s'.fc cv) (e1 : s'.cur = s.cur) (e2 : s'.out = s.out) : Ix (w.setCell ⟨eb, i, none⟩ v) eb wb rb b row cv base s' := by
  obtain ⟨bs, pend, hs, he⟩ := h.st
  have k : Kept [eb] w (w.setCell ⟨eb, i, none⟩ v) := (Kept.refl _ _).setCell (p := ⟨eb, i, none⟩) (by simp) _
  have hd := h.d1
  simp only [List.mem_cons, Option.mem_toList, not_or] at hd
  refine ⟨⟨bs, pend, hs.kept k (by simp; exact Ne.symm hd.1) (by simp; exact Ne.symm hd.2.1) (by simp; exact Ne.symm hd.2.2.1) (fun g hg => by simp; intro e; exact hd.2.2.2 (e ▸ hg)), by rw [he, e2]⟩, ?_, by rw [e1]; exact h.own.kept k (fun g hg => by simp; exact (h.d2 g hg).1), h.d1, h.d2⟩
  rw [row_set h.blk, e]
/-- The line's slice is turned for another one. -/
theorem Ix.setLine {w1 : World} (h : Ix w eb wb rb b row cv base s) (k : Kept cv.ownBlock.toList w w1) (cv' : Value) (cur' : List UInt8) (ho : Own w1 cv' cur') (hn : ∀ g ∈ cv'.ownBlock, cv.ownBlock = some g ∨ w.heap.size ≤ g) :
    Ix (w1.setCell ⟨eb, 4, none⟩ cv') eb wb rb b row cv' base { s with cur := cur' } ∧ Fp (fp eb wb rb b row cv) (fp eb wb rb b row cv') w (w1.setCell ⟨eb, 4, none⟩ cv') := by
  have hlt := h.lt
  have hm : ∀ x, x = eb ∨ x ∈ wb :: rb :: b :: row.toList → x ∉ cv.ownBlock.toList := by
    intro x hx hm
    have := h.d2 x (by simpa using hm)
    rcases hx with e | e
    · exact this.1 e
    · exact this.2 e
  obtain ⟨bs, pend, hs, he⟩ := h.st
  have hd := h.d1
  simp only [List.mem_cons, Option.mem_toList, not_or] at hd
  have k2 : Kept [eb] w1 (w1.setCell ⟨eb, 4, none⟩ cv') := (Kept.refl _ _).setCell (p := ⟨eb, 4, none⟩) (by simp) _
  have hs1 := hs.kept k (hm _ (by simp)) (hm _ (by simp)) (hm _ (by simp)) (fun g hg => hm g (.inr (by simp only [List.mem_cons, Option.mem_toList]; exact .inr (.inr (.inr hg)))))
  have hb1 : w1.heap[eb]? = some (.cells (ieCells wb base s.fi s.fc cv).toArray TE (0, 0)) := (k.block eb (heap_lt h.blk) (hm _ (by simp))).trans h.blk
  have hd2 : ∀ g ∈ cv'.ownBlock, g ≠ eb ∧ g ∉ wb :: rb :: b :: row.toList := by
    intro g hg
    rcases hn g hg with e | e
    · exact h.d2 g e
    · refine ⟨fun e2 => by have := hlt eb (by simp [fp]); omega, fun hx => ?_⟩
      simp only [List.mem_cons, Option.mem_toList] at hx
      have := hlt g (by simp only [fp, List.mem_cons, List.mem_append, Option.mem_toList]; rcases hx with hx | hx | hx | hx <;> simp [hx])
      omega
  refine ⟨⟨⟨bs, pend, hs1.kept k2 (by simp; exact Ne.symm hd.1) (by simp; exact Ne.symm hd.2.1) (by simp; exact Ne.symm hd.2.2.1) (fun g hg => by simp; intro e; exact hd.2.2.2 (e ▸ hg)), he⟩, ?_, ho.kept k2 (fun g hg => by simp; exact (hd2 g hg).1), h.d1, hd2⟩, fun x hx => ?_, (k.weaken ?_).trans (k2.weaken ?_)⟩
  · rw [row_set hb1]; rfl
  · simp only [fp, List.mem_cons, List.mem_append, Option.mem_toList] at hx ⊢
    rcases hx with hx | hx | hx | hx | hx | hx
    · simp [hx]
    · simp [hx]
    · simp [hx]
    · simp [hx]
    · simp [hx]
    · rcases hn x hx with e | e
      · exact .inl (.inr (.inr (.inr (.inr (.inr e)))))
      · exact .inr e
  · intro x hx
    left
    simp only [fp, List.mem_cons, List.mem_append]
    exact .inr (.inr (.inr (.inr (.inr hx))))
  · simp [fp]
/-- The writer has gone on. -/
theorem Ix.write {out : List UInt8} (h : Ix w eb wb rb b row cv base s) (k : Wr w wb rb b row out w') : ∃ row', Ix w' eb wb rb b row' cv base { s with out := out } ∧ Fp (fp eb wb rb b row cv) (fp eb wb rb b row' cv) w w' := by
  obtain ⟨row', bs, pend, hs, he, hm⟩ := k
  have hlt := h.lt
  have hk := hm.2
  have hne := h.d1
  refine ⟨row', ⟨⟨bs, pend, hs, he⟩, (hk.block eb (heap_lt h.blk) hne).trans h.blk, h.own.kept hk (fun g hg => (h.d2 g hg).2), hm.notin (heap_lt h.blk) hne, fun g hg => ⟨(h.d2 g hg).1, hm.notin (h.own.lt g hg) (h.d2 g hg).2⟩⟩, fun x hx => ?_, hk.weaken ?_⟩
  · simp only [fp, List.mem_cons, List.mem_append, Option.mem_toList] at hx ⊢
    rcases hx with hx | hx | hx | hx | hx | hx
    · simp [hx]
    · simp [hx]
    · simp [hx]
    · simp [hx]
    · rcases hm.1 x hx with e | e
      · subst e; simp [hx]
      · exact .inr e
    · simp [hx]
  · intro x hx
    simp only [fp, List.mem_cons, List.mem_append, Option.mem_toList] at hx ⊢
    rcases hx with hx | hx | hx | hx <;> simp [hx]
end
end Go.Proofs.YtejjmonaoajlgaaDoor
