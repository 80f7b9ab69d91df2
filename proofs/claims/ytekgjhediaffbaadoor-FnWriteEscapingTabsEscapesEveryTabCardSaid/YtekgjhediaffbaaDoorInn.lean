/-
  n010_120: a new indenter, WriteString, Flush and Bytes of it; comparing and copying bytes.
-/
import Derived.Test.YtekgjhediaffbaaDoorInw
namespace Go.Proofs.YtekgjhediaffbaaDoor
open Go.RowKit

theorem buf_built : Tryd.prog.built TB [] = some #[.slice none 0 0, .int .i64 0, .int .i8 0] := by kernel_rfl

/-- An indenter made since w0, which stands as it stood. -/
def In (w0 w : World) (eb wb rb b : Nat) (base : Int) (s : Is) : Prop := ∃ row cv, Ix w eb wb rb b row cv base s ∧ Kept [] w0 w ∧ ∀ x ∈ fp eb wb rb b row cv, w0.heap.size ≤ x
theorem In.kept {w0 w : World} {eb wb rb b : Nat} {base : Int} {s : Is} (h : In w0 w eb wb rb b base s) : Kept [] w0 w := by obtain ⟨_, _, _, h, _⟩ := h; exact h
theorem In.step {w0 w w' : World} {eb wb rb b : Nat} {base : Int} {s' : Is} {row row' : Option Nat} {cv cv' : Value} (hk : Kept [] w0 w) (hn : ∀ x ∈ fp eb wb rb b row cv, w0.heap.size ≤ x) (h : Ix w' eb wb rb b row' cv' base s') (hf : Fp (fp eb wb rb b row cv) (fp eb wb rb b row' cv') w w') : In w0 w' eb wb rb b base s' :=
  ⟨row', cv', h, hk.trans2 hf.2 (fun x hx => .inr (hn x hx)), fun x hx => (hf.1 x hx).elim (hn x) (fun h => Nat.le_trans hk.size h)⟩
theorem In.away {w0 w w' : World} {eb wb rb b : Nat} {base : Int} {s : Is} (h : In w0 w eb wb rb b base s) (k : Kept [] w w') : In w0 w' eb wb rb b base s := by
  obtain ⟨row, cv, h1, h2, h3⟩ := h
  exact ⟨row, cv, h1.kept k (by simp), h2.trans k, h3⟩

set_option maxRecDepth 100000 in
theorem newind (w : World) (base : Int) :
    Calls Tryd.prog 13 #[.int .i64 base] w fun e w' => e = .returned (.tuple #[.pointer (some ⟨w.heap.size + 3, 0, none⟩), .pointer (some ⟨w.heap.size + 2, 0, none⟩), .pointer (some ⟨w.heap.size, 0, none⟩)]) ∧ In w w' (w.heap.size + 3) (w.heap.size + 2) (w.heap.size + 1) w.heap.size base is0 := by
  have q0 := buf_built
  go_enter Tryd.func13, Tryd.ntmps13
  go_wp2_with fail
  refine (newwriter _ w.heap.size 0).mono ?_
  rintro e w2 ⟨rfl, hwb, hk2, hz2⟩
  have hsz : (w.alloc (.cells #[.slice none 0 0, .int .i64 0, .int .i8 0] TB)).heap.size = w.heap.size + 1 := by simp
  rw [hsz] at hwb hz2
  rw [hsz]
  have hb : w2.heap[w.heap.size]? = some (.cells #[.slice none 0 0, .int .i64 0, .int .i8 0] TB (0, 0)) := (hk2.block _ (by rw [hsz]; omega) (by simp)).trans (heap_alloc_new _ _)
  have HB := Lib.hid hb; have HWB := Lib.hid hwb; have HK2 := Lib.hid hk2; have HZ2 := Lib.hid hz2
  clear hb hwb hk2 hz2 hsz q0
  go_wp2_with fail
  go_ret3
  have hz2 := HZ2.out
  rw [hz2]
  have hk3 : Kept [] w2 (w2.alloc (.cells (ieCells (w.heap.size + 2) base (-1) 0 (.slice none 0 0)).toArray TE)) := (Kept.refl _ _).alloc _
  have hkw : Kept [] w w2 := ((Kept.refl _ _).alloc _).trans HK2.out
  refine ⟨by simp, none, .slice none 0 0, ⟨⟨[], [], ⟨HWB.out.kept hk3 (by simp) (by simp), ⟨0, .inl ⟨rfl, rfl, ?_⟩⟩, by omega, by omega, by simp⟩, rfl⟩, ?_, Own.nil _, by simp, by simp [Value.ownBlock]⟩, hkw.trans hk3, by simp [fp, Value.ownBlock]⟩
  · refine ⟨_, (hk3.block _ (heap_lt HB.out) (by simp)).trans HB.out, rfl, rfl, rfl, fun i hi => ?_⟩
    have : 3 ≤ i := by omega
    exact Array.getElem?_eq_none (by simp; omega)
  · have h := heap_alloc_new w2 (.cells (ieCells (w.heap.size + 2) base (-1) 0 (.slice none 0 0)).toArray TE)
    rw [hz2] at h
    exact h

set_option maxRecDepth 100000 in
set_option maxHeartbeats 800000 in
theorem wstring {w0 w : World} {eb wb rb b : Nat} {base : Int} {s : Is} {n : Nat} (h : In w0 w eb wb rb b base s) (hk : Iok base n s) (hb1 : 0 ≤ base) (hb2 : base ≤ 65536) (str : ByteArray) (l : List UInt8) (hl : l = str.data.toList) (hn : n + str.size ≤ 1000000) :
    Calls Tryd.prog 34 #[.pointer (some ⟨eb, 0, none⟩), .string str] w fun e w' => e = .returned (.tuple #[.int .i64 str.size, .nilIface]) ∧ In w0 w' eb wb rb b base (foldI base s l) := by
  have hst : Hid (In w0 w eb wb rb b base (foldI base s (l.take 0)) ∧ Iok base (n + 0) (foldI base s (l.take 0))) := Lib.hid ⟨h, hk⟩
  have hll : l.length = str.size := by rw [hl]; rfl
  have HLL := Lib.hid hll
  have hget : ∀ k (hk : k < str.size), l[k]? = some str[k] := fun k hk => by rw [hl]; exact List.getElem?_eq_getElem (show k < str.data.toList.length from hk)
  have HGT := Lib.hid hget
  clear h hk hl hll hget
  go_enter Tryd.func34, Tryd.ntmps34
  go_wp2_with fail
  go_loopw [9] (fun s9 wr => ∃ k : Nat, k ≤ str.size ∧ s9 = .int .i64 k ∧ Hid (In w0 wr eb wb rb b base (foldI base s (l.take k)) ∧ Iok base (n + k) (foldI base s (l.take k)))) (fun s9 _ => str.size - (intOf s9).toNat)
  case atStart => exact ⟨0, Nat.zero_le _, rfl, hst⟩
  case round =>
    obtain ⟨k, hk, rfl, hrel⟩ := hrel
    clear hst
    by_cases hlt : k < str.size
    · obtain ⟨row, cv, h1, h2, h3⟩ := hrel.out.1
      have hok := stepI_ok hrel.out.2 hb1 str[k]
      have hcon := wbyte h1 hrel.out.2 hb1 hb2 (by omega) str[k]
      rw [← foldI_take (HGT.out k hlt)] at hcon hok
      have HC := Lib.hid hcon; have HOK := Lib.hid hok; have H2 := Lib.hid h2; have H3 := Lib.hid h3
      clear hcon hok h1 h2 h3 hrel
      go_wp2_with fail
      refine HC.out.mono ?_
      rintro e w1 ⟨rfl, row', cv', h4, h5⟩
      have HR := Lib.hid (And.intro (In.step H2.out H3.out h4 h5) HOK.out)
      clear h4 h5
      go_wp2_with fail
      go_roundw
      case rel => exact ⟨k + 1, by omega, by go_num, HR⟩
      case measure => simp [intOf]; omega
    · have hkn : k = str.size := by omega
      subst hkn
      have hR := hrel.out.1
      rw [List.take_of_length_le (by have := HLL.out; omega)] at hR
      have HR := Lib.hid hR
      clear hR hrel
      go_wp2_with fail
      go_ret2
      exact ⟨rfl, HR.out⟩

set_option maxRecDepth 100000 in
theorem zwstring {w0 w : World} {eb wb rb b : Nat} {base : Int} {s : Is} {n : Nat} (h : In w0 w eb wb rb b base s) (hk : Iok base n s) (hb1 : 0 ≤ base) (hb2 : base ≤ 65536) (str : ByteArray) (l : List UInt8) (hl : l = str.data.toList) (hn : n + str.size ≤ 1000000) :
    Calls Tryd.prog 20 #[.pointer (some ⟨eb, 0, none⟩), .string str] w fun e w' => e = .returned (.tuple #[.int .i64 str.size, .nilIface]) ∧ In w0 w' eb wb rb b base (foldI base s l) := by
  have HC := Lib.hid (wstring h hk hb1 hb2 str l hl hn)
  clear h hk hl
  go_enter Tryd.func20, Tryd.ntmps20
  go_wp2_with fail
  refine HC.out.mono ?_
  rintro e w1 ⟨rfl, h1⟩
  have H1 := Lib.hid h1; clear h1
  go_wp2_with fail
  go_ret2
  exact ⟨rfl, H1.out⟩

set_option maxRecDepth 100000 in
theorem zwbyte {w0 w : World} {eb wb rb b : Nat} {base : Int} {s : Is} {n : Nat} (h : In w0 w eb wb rb b base s) (hk : Iok base n s) (hb1 : 0 ≤ base) (hb2 : base ≤ 65536) (hn : n ≤ 1000000) (x : UInt8) (z : Int) (hz : z = x.toNat) :
    Calls Tryd.prog 26 #[.pointer (some ⟨eb, 0, none⟩), .int .u8 z] w fun e w' => e = .returned .nilIface ∧ In w0 w' eb wb rb b base (stepI base s x) := by
  subst hz
  obtain ⟨row, cv, h1, h2, h3⟩ := h
  have HC := Lib.hid (wbyte h1 hk hb1 hb2 hn x)
  have H2 := Lib.hid h2; have H3 := Lib.hid h3
  clear h1 hk h2 h3
  go_enter Tryd.func26, Tryd.ntmps26
  go_wp2_with fail
  refine HC.out.mono ?_
  rintro e w1 ⟨rfl, row', cv', h4, h5⟩
  have HR := Lib.hid (In.step H2.out H3.out h4 h5)
  clear h4 h5
  go_wp2_with fail
  go_ret
  exact ⟨rfl, HR.out⟩

set_option maxRecDepth 100000 in
theorem zwesc {w0 w : World} {eb wb rb b : Nat} {base : Int} {s : Is} (h : In w0 w eb wb rb b base s) (A : Option Addr) (n c : Nat) (l : List UInt8) (hs : SrcB w0 A n l) (hA : ∀ a ∈ A, a.block < w0.heap.size) (hlim : s.out.length + 3 * n ≤ 100000000000) :
    Calls Tryd.prog 14 #[.pointer (some ⟨eb, 0, none⟩), .slice A n c] w fun e w' => e = .returned (.tuple #[]) ∧ In w0 w' eb wb rb b base { s with out := s.out ++ (escF l).1 } := by
  obtain ⟨row, cv, h1, h2, h3⟩ := h
  have hd : ∀ a ∈ A, a.block ∉ wb :: rb :: b :: row.toList := fun a ha hm => by
    have := hA a ha
    have h4 := h3 a.block (by simp only [fp, List.mem_cons, List.mem_append] at hm ⊢; rcases hm with e | e | e | e <;> simp [e])
    omega
  have HC := Lib.hid (esc_walk h1.wr h1.c0 (heap_lt h1.blk) h1.d1 A n c l ⟨hs.kept h2 (by simp), hd⟩ hlim)
  have H1 := Lib.hid h1; have H2 := Lib.hid h2; have H3 := Lib.hid h3
  clear h1 h2 h3 hs hA hd
  go_enter Tryd.func14, Tryd.ntmps14
  go_wp2_with fail
  refine HC.out.mono ?_
  rintro e w1 ⟨rfl, h4⟩
  have HR : Hid (In w0 w1 eb wb rb b base { s with out := s.out ++ (escF l).1 }) := Lib.hid (by
    obtain ⟨row', h5, h6⟩ := H1.out.write h4
    exact In.step H2.out H3.out h5 h6)
  clear h4
  go_wp2_with fail
  go_end0
  exact ⟨rfl, HR.out⟩

/-- All that was written lies in the buffer. -/
def Out (w0 w : World) (eb wb rb b : Nat) (base : Int) (s : Is) : Prop := ∃ row cv, Ix w eb wb rb b row cv base s ∧ Bf w TB b 0 R0 row s.out ∧ Kept [] w0 w ∧ ∀ x ∈ fp eb wb rb b row cv, w0.heap.size ≤ x
theorem Out.inn {w0 w : World} {eb wb rb b : Nat} {base : Int} {s : Is} (h : Out w0 w eb wb rb b base s) : In w0 w eb wb rb b base s := by
  obtain ⟨row, cv, h1, _, h3, h4⟩ := h
  exact ⟨row, cv, h1, h3, h4⟩
theorem Ix.flush {w : World} {eb wb rb b : Nat} {row : Option Nat} {cv : Value} {base : Int} {s : Is} (h : Ix w eb wb rb b row cv base s) (hl : s.out.length ≤ 100000000000) :
    Calls Tryd.prog 15 #[.pointer (some ⟨wb, 0, none⟩)] w fun e w' => e = .returned .nilIface ∧ ∃ row', Ix w' eb wb rb b row' cv base s ∧ Bf w' TB b 0 R0 row' s.out ∧ Fp (fp eb wb rb b row cv) (fp eb wb rb b row' cv) w w' := by
  obtain ⟨bs, pend, hs, he⟩ := h.st
  refine (Go.Proofs.YtekgjhediaffbaaDoor.flush hs (by rw [← he] at hl; simp at hl; omega)).mono ?_
  rintro e w' ⟨rfl, row', h4, h5⟩
  rw [he] at h4
  have h0 := h
  have hlt := h.lt
  have hk := h5.2
  have hne := h.d1
  refine ⟨rfl, row', ⟨⟨s.out, [], h4, by simp⟩, (hk.block eb (heap_lt h.blk) hne).trans h.blk, h.own.kept hk (fun g hg => (h.d2 g hg).2), h5.notin (heap_lt h.blk) hne, fun g hg => ⟨(h.d2 g hg).1, h5.notin (h.own.lt g hg) (h.d2 g hg).2⟩⟩, h4.bf, fun x hx => ?_, hk.weaken ?_⟩
  · simp only [fp, List.mem_cons, List.mem_append, Option.mem_toList] at hx ⊢
    rcases hx with hx | hx | hx | hx | hx | hx
    · simp [hx]
    · simp [hx]
    · simp [hx]
    · simp [hx]
    · rcases h5.1 x hx with e | e
      · subst e; simp [hx]
      · exact .inr e
    · simp [hx]
  · intro x hx
    simp only [fp, List.mem_cons, List.mem_append, Option.mem_toList] at hx ⊢
    rcases hx with hx | hx | hx | hx <;> simp [hx]
theorem In.flush {w0 w : World} {eb wb rb b : Nat} {base : Int} {s : Is} (h : In w0 w eb wb rb b base s) (hl : s.out.length ≤ 100000000000) :
    Calls Tryd.prog 15 #[.pointer (some ⟨wb, 0, none⟩)] w fun e w' => e = .returned .nilIface ∧ Out w0 w' eb wb rb b base s := by
  obtain ⟨row, cv, h1, h2, h3⟩ := h
  refine (h1.flush hl).mono ?_
  rintro e w' ⟨rfl, row', h4, h5, h6⟩
  obtain ⟨row2, cv2, _, h8, h9⟩ := In.step h2 h3 h4 h6
  exact ⟨rfl, row', cv, h4, h5, h8, fun x hx => (h6.1 x hx).elim (h3 x) (fun h => Nat.le_trans h2.size h)⟩
theorem Out.bytes {w0 w : World} {eb wb rb b : Nat} {base : Int} {s : Is} (h : Out w0 w eb wb rb b base s) :
    Calls Tryd.prog 17 #[.pointer (some ⟨b, 0, none⟩)] w fun e w' => ∃ A cap, e = .returned (.slice A s.out.length cap) ∧ SrcB w' A s.out.length s.out ∧ s.out.length ≤ cap ∧ cap ≤ maxLen ∧ Kept [] w w' := by
  obtain ⟨row, cv, h1, h2, h3, h4⟩ := h
  refine (buf_bytes h2).mono ?_
  rintro e w' ⟨A, cap, rfl, h5, h6, h7, h8⟩
  exact ⟨A, cap, rfl, h7, h5, h6, h8⟩

set_option maxRecDepth 100000 in
set_option maxHeartbeats 800000 in
theorem zeq (w : World) (A B : Option Addr) (n c d : Nat) (l : List UInt8) (h1 : SrcB w A n l) (h2 : SrcB w B n l) (hn : n ≤ 1000000000000) :
    Calls Tryd.prog 16 #[.slice A n c, .slice B n d] w fun e w' => e = .returned (.bool true) ∧ Kept [] w w' := by
  have H1 := Lib.hid h1; have H2 := Lib.hid h2
  clear h1 h2
  have g0 : ((n : Int) != n) = false := by simp
  go_enter Tryd.func16, Tryd.ntmps16
  go_wp2_with fail
  go_loopw [5] (fun s5 wr => ∃ k : Nat, k ≤ n ∧ s5 = .int .i64 k ∧ Hid (Kept [] w wr)) (fun s5 _ => n - (intOf s5).toNat)
  case atStart => exact ⟨0, Nat.zero_le _, rfl, Lib.hid (Kept.refl _ _)⟩
  case round =>
    obtain ⟨k, hk, rfl, hrel⟩ := hrel
    by_cases hlt : k < n
    · obtain ⟨x, hx⟩ : ∃ x, l[k]? = some x := ⟨l[k]'(by have := H1.out.1; omega), List.getElem?_eq_getElem _⟩
      obtain ⟨g, o, hA, hg, hcc⟩ := H1.out.2 (by omega)
      obtain ⟨g2, o2, hB, hg2, hcc2⟩ := H2.out.2 (by omega)
      subst hA hB
      have c1 : wr.cell? ⟨g, o + k, none⟩ = some (.int .u8 x.toNat) := (hrel.out.cell (p := ⟨g, o + k, none⟩) hg (by simp)).trans (hcc k x hx)
      have c2 : wr.cell? ⟨g2, o2 + k, none⟩ = some (.int .u8 x.toNat) := (hrel.out.cell (p := ⟨g2, o2 + k, none⟩) hg2 (by simp)).trans (hcc2 k x hx)
      have i1 : (0 : Int) ≤ k := by omega
      have i2 : (k : Int) < n := by omega
      clear hcc hcc2 hx
      go_wp2_with fail
      go_quiet (fail)
      go_wp2_with fail
      go_roundw
      case rel => exact ⟨k + 1, by omega, by go_num, Lib.hid (hrel.out.drewN _)⟩
      case measure => simp [intOf]; omega
    · go_wp2_with fail
      go_ret
      exact ⟨rfl, hrel.out⟩
end Go.Proofs.YtekgjhediaffbaaDoor
