/-
  n010_58: the indenter's Write and the three ways of writing; comparing, copying, counting bytes.
-/
import Derived.Test.YtejjmonaoajlgaaDoorInw
import Derived.Test.YtejjmonaoajlgaaDoorBwn
namespace Go.Proofs.YtejjmonaoajlgaaDoor
open Go.RowKit

theorem buf_built : Tryd.prog.built TB [] = some #[.slice none 0 0, .int .i64 0, .int .i8 0] := by kernel_rfl
/-- An indenter made since w0, which stands as it stood. -/
def In (w0 w : World) (eb wb rb b : Nat) (base : Int) (s : Is) : Prop := ∃ row cv, Ix w eb wb rb b row cv base s ∧ Kept [] w0 w ∧ ∀ x ∈ fp eb wb rb b row cv, w0.heap.size ≤ x
theorem In.kept {w0 w : World} {eb wb rb b : Nat} {base : Int} {s : Is} (h : In w0 w eb wb rb b base s) : Kept [] w0 w := by obtain ⟨_, _, _, h, _⟩ := h; exact h
theorem In.step {w0 w w' : World} {eb wb rb b : Nat} {base : Int} {s' : Is} {row row' : Option Nat} {cv cv' : Value} (hk : Kept [] w0 w) (hn : ∀ x ∈ fp eb wb rb b row cv, w0.heap.size ≤ x) (h : Ix w' eb wb rb b row' cv' base s') (hf : Fp (fp eb wb rb b row cv) (fp eb wb rb b row' cv') w w') : In w0 w' eb wb rb b base s' :=
  ⟨row', cv', h, hk.trans2 hf.2 (fun x hx => .inr (hn x hx)), fun x hx => (hf.1 x hx).elim (hn x) (fun h => Nat.le_trans hk.size h)⟩
theorem In.away {w0 w w' : World} {eb wb rb b : Nat} {base : Int} {s : Is} (h : In w0 w eb wb rb b base s) (k : Kept [] w w') : In w0 w' eb wb rb b base s := by
  obtain ⟨row, cv, h1, h2, h3⟩ := h
  exact ⟨row, cv, h1.kept k (by simp), h2.trans k, h3⟩
set_option maxRecDepth 100000 in
set_option maxHeartbeats 800000 in
theorem wstring {w0 w : World} {eb wb rb b : Nat} {base : Int} {s : Is} {n : Nat} (h : In w0 w eb wb rb b base s) (hk : Iok base n s) (hb1 : 0 ≤ base) (hb2 : base ≤ 65536) (str : ByteArray) (l : List UInt8) (hl : l = str.data.toList) (hn : n + str.size ≤ 1000000) :
    Calls Tryd.prog 18 #[.pointer (some ⟨eb, 0, none⟩), .string str] w fun e w' => e = .returned (.tuple #[.int .i64 str.size, .nilIface]) ∧ In w0 w' eb wb rb b base (foldI base s l) := by
  have hst : Hid (In w0 w eb wb rb b base (foldI base s (l.take 0)) ∧ Iok base (n + 0) (foldI base s (l.take 0))) := Lib.hid ⟨h, hk⟩
  have hll : l.length = str.size := by rw [hl]; rfl
  have HLL := Lib.hid hll
  have hget : ∀ k (hk : k < str.size), l[k]? = some str[k] := fun k hk => by rw [hl]; exact List.getElem?_eq_getElem (show k < str.data.toList.length from hk)
  have HGT := Lib.hid hget
  clear h hk hl hll hget
  go_enter Tryd.func18, Tryd.ntmps18
  go_wp2_with fail
  go_loopw [9] (fun s9 wr => ∃ k : Nat, k ≤ str.size ∧ s9 = .int .i64 k ∧ Hid (In w0 wr eb wb rb b base (foldI base s (l.take k)) ∧ Iok base (n + k) (foldI base s (l.take k)))) (fun s9 _ => str.size - (intOf s9).toNat)
  case atStart => exact ⟨0, Nat.zero_le _, rfl, hst⟩
  case round =>
    obtain ⟨k, hk, rfl, hrel⟩ := hrel
    clear hst
    by_cases hlt : k < str.size
    · obtain ⟨row, cv, h1, h2, h3⟩ := hrel.out.1
      have hok := stepI_ok hrel.out.2 hb1 str[k]
      have hcon := wbyte h1 hrel.out.2 hb1 hb2 (by omega) str[k]
      rw [← foldI_take (HGT.out k hlt)] at hcon hok
      have HC := Lib.hid hcon; have HOK := Lib.hid hok; have H2 := Lib.hid h2; have H3 := Lib.hid h3
      clear hcon hok h1 h2 h3 hrel
      go_wp2_with fail
      refine HC.out.mono ?_
      rintro e w1 ⟨rfl, row', cv', h4, h5⟩
      have HR := Lib.hid (And.intro (In.step H2.out H3.out h4 h5) HOK.out)
      clear h4 h5
      go_wp2_with fail
      go_roundw
      case rel => exact ⟨k + 1, by omega, by go_num, HR⟩
      case measure => simp [intOf]; omega
    · have hkn : k = str.size := by omega
      subst hkn
      have hR := hrel.out.1
      rw [List.take_of_length_le (by have := HLL.out; omega)] at hR
      have HR := Lib.hid hR
      clear hR hrel
      go_wp2_with fail
      go_ret2
      exact ⟨rfl, HR.out⟩
/-- All that was written lies in the buffer. -/
def Out (w0 w : World) (eb wb rb b : Nat) (base : Int) (s : Is) : Prop := ∃ row cv, Ix w eb wb rb b row cv base s ∧ Bf w TB b 0 R0 row s.out ∧ Kept [] w0 w ∧ ∀ x ∈ fp eb wb rb b row cv, w0.heap.size ≤ x
theorem Out.inn {w0 w : World} {eb wb rb b : Nat} {base : Int} {s : Is} (h : Out w0 w eb wb rb b base s) : In w0 w eb wb rb b base s := by
  obtain ⟨row, cv, h1, _, h3, h4⟩ := h
  exact ⟨row, cv, h1, h3, h4⟩
theorem Ix.flush {w : World} {eb wb rb b : Nat} {row : Option Nat} {cv : Value} {base : Int} {s : Is} (h : Ix w eb wb rb b row cv base s) (hl : s.out.length ≤ 100000000000) :
    Calls Tryd.prog 16 #[.pointer (some ⟨wb, 0, none⟩)] w fun e w' => e = .returned .nilIface ∧ ∃ row', Ix w' eb wb rb b row' cv base s ∧ Bf w' TB b 0 R0 row' s.out ∧ Fp (fp eb wb rb b row cv) (fp eb wb rb b row' cv) w w' := by
  obtain ⟨bs, pend, hs, he⟩ := h.st
  refine (Go.Proofs.YtejjmonaoajlgaaDoor.flush hs (by rw [← he] at hl; simp at hl; omega)).mono ?_
  rintro e w' ⟨rfl, row', h4, h5⟩
  rw [he] at h4
  have h0 := h
  have hlt := h.lt
  have hk := h5.2
  have hne := h.d1
  refine ⟨rfl, row', ⟨⟨s.out, [], h4, by simp⟩, (hk.block eb (heap_lt h.blk) hne).trans h.blk, h.own.kept hk (fun g hg => (h.d2 g hg).2), h5.notin (heap_lt h.blk) hne, fun g hg => ⟨(h.d2 g hg).1, h5.notin (h.own.lt g hg) (h.d2 g hg).2⟩⟩, h4.bf, fun x hx => ?_, hk.weaken ?_⟩
  · simp only [fp, List.mem_cons, List.mem_append, Option.mem_toList] at hx ⊢
    rcases hx with hx | hx | hx | hx | hx | hx
    · simp [hx]
    · simp [hx]
    · simp [hx]
    · simp [hx]
    · rcases h5.1 x hx with e | e
      · subst e; simp [hx]
      · exact .inr e
    · simp [hx]
  · intro x hx
    simp only [fp, List.mem_cons, List.mem_append, Option.mem_toList] at hx ⊢
    rcases hx with hx | hx | hx | hx <;> simp [hx]
theorem In.flush {w0 w : World} {eb wb rb b : Nat} {base : Int} {s : Is} (h : In w0 w eb wb rb b base s) (hl : s.out.length ≤ 100000000000) :
    Calls Tryd.prog 16 #[.pointer (some ⟨wb, 0, none⟩)] w fun e w' => e = .returned .nilIface ∧ Out w0 w' eb wb rb b base s := by
  obtain ⟨row, cv, h1, h2, h3⟩ := h
  refine (h1.flush hl).mono ?_
  rintro e w' ⟨rfl, row', h4, h5, h6⟩
  obtain ⟨row2, cv2, _, h8, h9⟩ := In.step h2 h3 h4 h6
  exact ⟨rfl, row', cv, h4, h5, h8, fun x hx => (h6.1 x hx).elim (h3 x) (fun h => Nat.le_trans h2.size h)⟩
theorem Out.bytes {w0 w : World} {eb wb rb b : Nat} {base : Int} {s : Is} (h : Out w0 w eb wb rb b base s) :
    Calls Tryd.prog 17 #[.pointer (some ⟨b, 0, none⟩)] w fun e w' => ∃ A cap, e = .returned (.slice A s.out.length cap) ∧ SrcB w' A s.out.length s.out ∧ s.out.length ≤ cap ∧ cap ≤ maxLen ∧ Kept [] w w' := by
  obtain ⟨row, cv, h1, h2, h3, h4⟩ := h
  refine (buf_bytes h2).mono ?_
  rintro e w' ⟨A, cap, rfl, h5, h6, h7, h8⟩
  exact ⟨A, cap, rfl, h7, h5, h6, h8⟩
set_option maxRecDepth 100000 in
set_option maxHeartbeats 800000 in
theorem zeq (w : World) (A B : Option Addr) (n c d : Nat) (l : List UInt8) (h1 : SrcB w A n l) (h2 : SrcB w B n l) (hn : n ≤ 1000000000000) :
    Calls Tryd.prog 9 #[.slice A n c, .slice B n d] w fun e w' => e = .returned (.bool true) ∧ Kept [] w w' := by
  have H1 := Lib.hid h1; have H2 := Lib.hid h2
  clear h1 h2
  have g0 : ((n : Int) != n) = false := by simp
  go_enter Tryd.func9, Tryd.ntmps9
  go_wp2_with fail
  go_loopw [5] (fun s5 wr => ∃ k : Nat, k ≤ n ∧ s5 = .int .i64 k ∧ Hid (Kept [] w wr)) (fun s5 _ => n - (intOf s5).toNat)
  case atStart => exact ⟨0, Nat.zero_le _, rfl, Lib.hid (Kept.refl _ _)⟩
  case round =>
    obtain ⟨k, hk, rfl, hrel⟩ := hrel
    by_cases hlt : k < n
    · obtain ⟨x, hx⟩ : ∃ x, l[k]? = some x := ⟨l[k]'(by have := H1.out.1; omega), List.getElem?_eq_getElem _⟩
      obtain ⟨g, o, hA, hg, hcc⟩ := H1.out.2 (by omega)
      obtain ⟨g2, o2, hB, hg2, hcc2⟩ := H2.out.2 (by omega)
      subst hA hB
      have c1 : wr.cell? ⟨g, o + k, none⟩ = some (.int .u8 x.toNat) := (hrel.out.cell (p := ⟨g, o + k, none⟩) hg (by simp)).trans (hcc k x hx)
      have c2 : wr.cell? ⟨g2, o2 + k, none⟩ = some (.int .u8 x.toNat) := (hrel.out.cell (p := ⟨g2, o2 + k, none⟩) hg2 (by simp)).trans (hcc2 k x hx)
      have i1 : (0 : Int) ≤ k := by omega
      have i2 : (k : Int) < n := by omega
      clear hcc hcc2 hx
      go_wp2_with fail
      go_quiet (fail)
      go_wp2_with fail
      go_roundw
      case rel => exact ⟨k + 1, by omega, by go_num, Lib.hid (hrel.out.drewN _)⟩
      case measure => simp [intOf]; omega
    · go_wp2_with fail
      go_ret
      exact ⟨rfl, hrel.out⟩
theorem Own.slice {w : World} {v : Value} {l : List UInt8} (h : Own w v l) : ∃ A c, v = .slice A l.length c := by
  rcases h.2 with ⟨h1, h2⟩ | ⟨g, cap, cur, h1, _⟩
  · exact ⟨none, 0, by rw [h1, h2]⟩
  · exact ⟨_, cap, h1⟩
theorem prod_bound {a b : Int} (h1 : 0 ≤ a) (h2 : a ≤ 65538) (h3 : 0 ≤ b) (h4 : b ≤ 65539) : 0 ≤ a * b ∧ a * b ≤ 4295294982 := by
  refine ⟨Int.mul_nonneg h1 h3, ?_⟩
  have e1 : a * b ≤ 65538 * b := Int.mul_le_mul_of_nonneg_right h2 h3
  omega
/-- What comes out of n bytes is not too long. -/
theorem out_le {base : Int} (hb1 : 0 ≤ base) (hb2 : base ≤ 65536) (l : List UInt8) (hl : l.length ≤ 65537) : (foldI base is0 l).out.length ≤ 5000000000 := by
  have h := foldI_ok hb1 l (is0_ok base)
  have h1 := h.out
  have h2 : ((0 + l.length : Nat) : Int) * (base + 8) ≤ 65537 * (base + 8) := Int.mul_le_mul_of_nonneg_right (by omega) (by omega)
  omega
/-- The three blocks of a new indenter. -/
theorem in_made {w w2 : World} {base : Int} (hwb : Wb w2 (w.heap.size + 2) (w.heap.size + 1) (bufV w.heap.size 0) []) (hb : w2.heap[w.heap.size]? = some (.cells #[.slice none 0 0, .int .i64 0, .int .i8 0] TB (0, 0))) (hkw : Kept [] w w2) (hz2 : w2.heap.size = w.heap.size + 3) :
    In w (w2.alloc (.cells (ieCells (w.heap.size + 2) base (-1) 0 (.slice none 0 0)).toArray TE)) (w.heap.size + 3) (w.heap.size + 2) (w.heap.size + 1) w.heap.size base is0 := by
  have hk3 : Kept [] w2 (w2.alloc (.cells (ieCells (w.heap.size + 2) base (-1) 0 (.slice none 0 0)).toArray TE)) := (Kept.refl _ _).alloc _
  refine ⟨none, .slice none 0 0, ⟨⟨[], [], ⟨hwb.kept hk3 (by simp) (by simp), ⟨0, .inl ⟨rfl, rfl, ?_⟩⟩, by omega, by omega, by simp⟩, rfl⟩, ?_, Own.nil _, by simp, by simp [Value.ownBlock]⟩, hkw.trans hk3, by simp [fp, Value.ownBlock]⟩
  · refine ⟨_, (hk3.block _ (heap_lt hb) (by simp)).trans hb, rfl, rfl, rfl, fun i hi => ?_⟩
    have : 3 ≤ i := by omega
    exact Array.getElem?_eq_none (by simp; omega)
  · have h := heap_alloc_new w2 (.cells (ieCells (w.heap.size + 2) base (-1) 0 (.slice none 0 0)).toArray TE)
    rw [hz2] at h
    exact h

set_option maxRecDepth 100000 in
set_option maxHeartbeats 800000 in
theorem wwrite {w0 w : World} {eb wb rb b : Nat} {base : Int} {s : Is} {n0 : Nat} (h : In w0 w eb wb rb b base s) (hk : Iok base n0 s) (hb1 : 0 ≤ base) (hb2 : base ≤ 65536) (A : Option Addr) (n c : Nat) (l : List UInt8) (hs : SrcB w0 A n l) (hn : n0 + n ≤ 1000000) :
    Calls Tryd.prog 15 #[.pointer (some ⟨eb, 0, none⟩), .slice A n c] w fun e w' => e = .returned (.tuple #[.int .i64 n, .nilIface]) ∧ In w0 w' eb wb rb b base (foldI base s l) := by
  have hst : Hid (In w0 w eb wb rb b base (foldI base s (l.take 0)) ∧ Iok base (n0 + 0) (foldI base s (l.take 0))) := Lib.hid ⟨h, hk⟩
  have HS := Lib.hid hs
  clear h hk hs
  go_enter Tryd.func15, Tryd.ntmps15
  go_wp2_with fail
  go_loopw [9] (fun s9 wr => ∃ k : Nat, k ≤ n ∧ s9 = .int .i64 k ∧ Hid (In w0 wr eb wb rb b base (foldI base s (l.take k)) ∧ Iok base (n0 + k) (foldI base s (l.take k)))) (fun s9 _ => n - (intOf s9).toNat)
  case atStart => exact ⟨0, Nat.zero_le _, rfl, hst⟩
  case round =>
    obtain ⟨k, hk, rfl, hrel⟩ := hrel
    clear hst
    by_cases hlt : k < n
    · obtain ⟨x, hx⟩ : ∃ x, l[k]? = some x := ⟨l[k]'(by have := HS.out.1; omega), List.getElem?_eq_getElem _⟩
      obtain ⟨g, o, hA, hg, hcc⟩ := HS.out.2 (by omega)
      subst hA
      obtain ⟨row, cv, h1, h2, h3⟩ := hrel.out.1
      have hcs : wr.cell? ⟨g, o + k, none⟩ = some (.int .u8 x.toNat) := (h2.cell (p := ⟨g, o + k, none⟩) hg (by simp)).trans (hcc k x hx)
      have hok := stepI_ok hrel.out.2 hb1 x
      have hcon := wbyte h1 hrel.out.2 hb1 hb2 (by omega) x
      rw [← foldI_take hx] at hcon hok
      have HC := Lib.hid hcon; have HOK := Lib.hid hok; have H2 := Lib.hid h2; have H3 := Lib.hid h3
      clear hcon hok h1 h2 h3 hrel hcc hx
      go_wp2_with fail
      refine HC.out.mono ?_
      rintro e w1 ⟨rfl, row', cv', h4, h5⟩
      have HR := Lib.hid (And.intro (In.step H2.out H3.out h4 h5) HOK.out)
      clear h4 h5
      go_wp2_with fail
      go_roundw
      case rel => exact ⟨k + 1, by omega, by go_num, HR⟩
      case measure => simp [intOf]; omega
    · have hkn : k = n := by omega
      subst hkn
      have hR := hrel.out.1
      rw [List.take_of_length_le (by have := HS.out.1; omega)] at hR
      have HR := Lib.hid hR
      clear hR hrel
      go_wp2_with fail
      go_ret2
      exact ⟨rfl, HR.out⟩

set_option maxRecDepth 100000 in
set_option maxHeartbeats 800000 in
theorem zone (w : World) (base : Int) (A : Option Addr) (n c : Nat) (l : List UInt8) (hs : SrcB w A n l) (hb1 : 0 ≤ base) (hb2 : base ≤ 65536) (hn : n ≤ 65536) :
    Calls Tryd.prog 8 #[.int .i64 base, .slice A n c] w fun e w' => ∃ B d, e = .returned (.tuple #[.slice B (foldI base is0 l).out.length d, .int .i64 n]) ∧ SrcB w' B (foldI base is0 l).out.length (foldI base is0 l).out ∧ Kept [] w w' := by
  have q0 := buf_built
  have hol := out_le hb1 hb2 l (by have := hs.1; omega)
  have HS := Lib.hid hs; clear hs
  go_enter Tryd.func8, Tryd.ntmps8
  go_wp2_with fail
  refine (newwriter _ w.heap.size 0).mono ?_
  rintro e w2 ⟨rfl, hwb, hk2, hz2⟩
  have hsz : (w.alloc (.cells #[.slice none 0 0, .int .i64 0, .int .i8 0] TB)).heap.size = w.heap.size + 1 := by simp
  rw [hsz] at hwb hz2
  rw [hsz]
  have hb : w2.heap[w.heap.size]? = some (.cells #[.slice none 0 0, .int .i64 0, .int .i8 0] TB (0, 0)) := (hk2.block _ (by rw [hsz]; omega) (by simp)).trans (heap_alloc_new _ _)
  have hin := in_made (base := base) hwb hb (((Kept.refl _ _).alloc _).trans hk2) hz2
  have HIN := Lib.hid hin
  have hz3 := hz2
  clear hb hwb hk2 hsz q0 hin hz2
  go_wp2_with fail
  have H1 := HIN
  rw [show w.heap.size + 1 + 2 = w.heap.size + 3 from rfl, show w.heap.size + 1 + 1 = w.heap.size + 2 from rfl]
  clear hz3
  refine (wwrite H1.out (is0_ok base) hb1 hb2 A n c l HS.out (by omega)).mono ?_
  rintro e w3 ⟨rfl, h3⟩
  have HF := Lib.hid h3; clear h3
  go_wp2_with fail
  refine (HF.out.flush (by omega)).mono ?_
  rintro e w8 ⟨rfl, h8⟩
  have H8 := Lib.hid h8; clear h8
  go_wp2_with fail
  refine H8.out.bytes.mono ?_
  rintro e w9 ⟨A9, c9, rfl, hs9, _, _, hk9⟩
  have HS9 := Lib.hid hs9; have HK9 := Lib.hid hk9; clear hs9 hk9
  go_wp2_with fail
  go_ret2
  exact ⟨A9, c9, rfl, HS9.out, H8.out.inn.kept.trans HK9.out⟩

set_option maxRecDepth 100000 in
set_option maxHeartbeats 800000 in
theorem ztwo (w : World) (base : Int) (A : Option Addr) (n c : Nat) (l : List UInt8) (A2 : Option Addr) (n2 c2 : Nat) (l2 : List UInt8) (hs : SrcB w A n l) (hs2 : SrcB w A2 n2 l2) (hb1 : 0 ≤ base) (hb2 : base ≤ 65536) (hn : n + n2 ≤ 65536) :
    Calls Tryd.prog 12 #[.int .i64 base, .slice A n c, .slice A2 n2 c2] w fun e w' => ∃ B d, e = .returned (.tuple #[.slice B (foldI base is0 (l ++ l2)).out.length d, .int .i64 n, .int .i64 n2]) ∧ SrcB w' B (foldI base is0 (l ++ l2)).out.length (foldI base is0 (l ++ l2)).out ∧ Kept [] w w' := by
  have q0 := buf_built
  have hol := out_le hb1 hb2 (l ++ l2) (by rw [List.length_append, hs.1, hs2.1]; omega)
  have HS := Lib.hid hs; have HS2 := Lib.hid hs2; clear hs hs2
  go_enter Tryd.func12, Tryd.ntmps12
  go_wp2_with fail
  refine (newwriter _ w.heap.size 0).mono ?_
  rintro e w2 ⟨rfl, hwb, hk2, hz2⟩
  have hsz : (w.alloc (.cells #[.slice none 0 0, .int .i64 0, .int .i8 0] TB)).heap.size = w.heap.size + 1 := by simp
  rw [hsz] at hwb hz2
  rw [hsz]
  have hb : w2.heap[w.heap.size]? = some (.cells #[.slice none 0 0, .int .i64 0, .int .i8 0] TB (0, 0)) := (hk2.block _ (by rw [hsz]; omega) (by simp)).trans (heap_alloc_new _ _)
  have hin := in_made (base := base) hwb hb (((Kept.refl _ _).alloc _).trans hk2) hz2
  have HIN := Lib.hid hin
  have hz3 := hz2
  clear hb hwb hk2 hsz q0 hin hz2
  go_wp2_with fail
  have H1 := HIN
  rw [show w.heap.size + 1 + 2 = w.heap.size + 3 from rfl, show w.heap.size + 1 + 1 = w.heap.size + 2 from rfl]
  clear hz3
  refine (wwrite H1.out (is0_ok base) hb1 hb2 A n c l HS.out (by omega)).mono ?_
  rintro e w3 ⟨rfl, h3⟩
  have H3 := Lib.hid h3; clear h3
  have hok := foldI_ok hb1 l (is0_ok base)
  have HOK := Lib.hid hok; clear hok
  go_wp2_with fail
  refine (wwrite H3.out HOK.out hb1 hb2 A2 n2 c2 l2 HS2.out (by have := HS.out.1; omega)).mono ?_
  rintro e w4 ⟨rfl, h4⟩
  rw [← foldI_app] at h4
  have HF := Lib.hid h4; clear h4
  go_wp2_with fail
  refine (HF.out.flush (by omega)).mono ?_
  rintro e w8 ⟨rfl, h8⟩
  have H8 := Lib.hid h8; clear h8
  go_wp2_with fail
  refine H8.out.bytes.mono ?_
  rintro e w9 ⟨A9, c9, rfl, hs9, _, _, hk9⟩
  have HS9 := Lib.hid hs9; have HK9 := Lib.hid hk9; clear hs9 hk9
  go_wp2_with fail
  go_ret3
  exact ⟨A9, c9, rfl, HS9.out, H8.out.inn.kept.trans HK9.out⟩

set_option maxRecDepth 100000 in
set_option maxHeartbeats 800000 in
theorem zstr (w : World) (base : Int) (str : ByteArray) (l : List UInt8) (hs : l = str.data.toList) (hb1 : 0 ≤ base) (hb2 : base ≤ 65536) (hn : str.size ≤ 65536) :
    Calls Tryd.prog 13 #[.int .i64 base, .string str] w fun e w' => ∃ B d, e = .returned (.tuple #[.slice B (foldI base is0 l).out.length d, .int .i64 str.size]) ∧ SrcB w' B (foldI base is0 l).out.length (foldI base is0 l).out ∧ Kept [] w w' := by
  have q0 := buf_built
  have hol := out_le hb1 hb2 l (by rw [hs]; show str.size ≤ _; omega)
  have HS := Lib.hid hs; clear hs
  go_enter Tryd.func13, Tryd.ntmps13
  go_wp2_with fail
  refine (newwriter _ w.heap.size 0).mono ?_
  rintro e w2 ⟨rfl, hwb, hk2, hz2⟩
  have hsz : (w.alloc (.cells #[.slice none 0 0, .int .i64 0, .int .i8 0] TB)).heap.size = w.heap.size + 1 := by simp
  rw [hsz] at hwb hz2
  rw [hsz]
  have hb : w2.heap[w.heap.size]? = some (.cells #[.slice none 0 0, .int .i64 0, .int .i8 0] TB (0, 0)) := (hk2.block _ (by rw [hsz]; omega) (by simp)).trans (heap_alloc_new _ _)
  have hin := in_made (base := base) hwb hb (((Kept.refl _ _).alloc _).trans hk2) hz2
  have HIN := Lib.hid hin
  have hz3 := hz2
  clear hb hwb hk2 hsz q0 hin hz2
  go_wp2_with fail
  have H1 := HIN
  rw [show w.heap.size + 1 + 2 = w.heap.size + 3 from rfl, show w.heap.size + 1 + 1 = w.heap.size + 2 from rfl]
  clear hz3
  refine (wstring H1.out (is0_ok base) hb1 hb2 str l HS.out (by omega)).mono ?_
  rintro e w3 ⟨rfl, h3⟩
  have HF := Lib.hid h3; clear h3
  go_wp2_with fail
  refine (HF.out.flush (by omega)).mono ?_
  rintro e w8 ⟨rfl, h8⟩
  have H8 := Lib.hid h8; clear h8
  go_wp2_with fail
  refine H8.out.bytes.mono ?_
  rintro e w9 ⟨A9, c9, rfl, hs9, _, _, hk9⟩
  have HS9 := Lib.hid hs9; have HK9 := Lib.hid hk9; clear hs9 hk9
  go_wp2_with fail
  go_ret2
  exact ⟨A9, c9, rfl, HS9.out, H8.out.inn.kept.trans HK9.out⟩

set_option maxRecDepth 100000 in
theorem zcount (w : World) (A : Option Addr) (n c : Nat) (l : List UInt8) (hs : SrcB w A n l) (hn : n ≤ 65536) :
    Calls Tryd.prog 6 #[.slice A n c] w fun e w' => (∃ m : Nat, m ≤ n ∧ e = .returned (.int .i64 m)) ∧ w = w' := by
  have HS := Lib.hid hs; clear hs
  go_enter Tryd.func6, Tryd.ntmps6
  go_wp2_with fail
  go_loop [3, 4] (fun s3 s4 => ∃ k m : Nat, k ≤ n ∧ m ≤ k ∧ s4 = .int .i64 k ∧ s3 = .int .i64 m) (fun _ s4 => n - (intOf s4).toNat)
  case atStart => exact ⟨0, 0, Nat.zero_le _, Nat.le_refl _, rfl, rfl⟩
  case round =>
    obtain ⟨k, m, hk, hm, rfl, rfl⟩ := hrel
    by_cases hlt : k < n
    · obtain ⟨x, hx⟩ : ∃ x, l[k]? = some x := ⟨l[k]'(by have := HS.out.1; omega), List.getElem?_eq_getElem _⟩
      obtain ⟨g, o, hA, hg, hcc⟩ := HS.out.2 (by omega)
      subst hA
      have hcs : w.cell? ⟨g, o + k, none⟩ = some (.int .u8 x.toNat) := hcc k x hx
      have hxl := x.toNat_lt
      clear hcc hx
      by_cases h10 : x.toNat = 10
      · rw [h10] at hcs
        clear h10
        go_wp2_with fail
        go_round
        case rel => exact ⟨k + 1, m + 1, by omega, by omega, by go_num, by go_num⟩
        case measure => simp [intOf]; omega
      · have g1 : ((x.toNat : Int) == 10) = false := by simp; omega
        clear h10
        go_wp2_with fail
        go_round
        case rel => exact ⟨k + 1, m, by omega, by omega, by go_num, rfl⟩
        case measure => simp [intOf]; omega
    · go_wp2_with fail
      go_ret
      exact ⟨⟨m, by omega, rfl⟩, rfl⟩


set_option maxRecDepth 100000 in
set_option maxHeartbeats 400000 in
theorem clone_some (w : World) (g o n c : Nat) (l : List UInt8) (hn : n < 1000000000) (hl : l.length = n) (hg : 0 < n → g < w.heap.size) (hc : ∀ j x, l[j]? = some x → w.cell? ⟨g, o + j, none⟩ = some (By x)) :
    Calls Tryd.prog 7 #[.slice (some ⟨g, o, none⟩) n c] w fun e w' => e = .returned (.slice (some ⟨w.heap.size, 0, none⟩) n n) ∧ w'.heap[w.heap.size]? = some (.cells (Bys l).toArray 5 (0, 0)) ∧ Kept [] w w' := by
  have q1 : ∀ (w : World) (a : Option Addr) (n c n' c' : Nat), (binOp .eql 22 (.slice a n c) (.slice none n' c')).run Tryd.prog w = .ok (.bool a.isNone) w := fun w a n c n' c' => Lib.run_eql_slice_nil w _ _ a n c n' c' u8_und
  have q2 := fun w => make_u8 n hn w
  have HL := Lib.hid hl
  have HC := Lib.hid hc
  have HG := Lib.hid hg
  clear hl hc hg
  go_enter Tryd.func7, Tryd.ntmps7
  go_wp2
  clear q1 q2
  have hst : (w.alloc (.cells (zs n).toArray 5)).heap[w.heap.size]? = some (.cells (Bys (l.take 0) ++ zs (n - 0)).toArray 5 (0, 0)) := by
    rw [heap_alloc_new]; simp [Bys]
  have hst2 : Kept [] w (w.alloc (.cells (zs n).toArray 5)) := (Kept.refl _ _).alloc _
  have HS1 := Lib.hid hst
  have HS2 := Lib.hid hst2
  clear hst hst2
  go_loopw [4] (fun i wr => ∃ k : Nat, k ≤ n ∧ i = .int .i64 k ∧ Hid (wr.heap[w.heap.size]? = some (.cells (Bys (l.take k) ++ zs (n - k)).toArray 5 (0, 0))) ∧ Hid (Kept [] w wr)) (fun i _ => n - (intOf i).toNat)
  case atStart => exact ⟨0, Nat.zero_le _, rfl, HS1, HS2⟩
  case round =>
    obtain ⟨k, hk, rfl, hb, hkp⟩ := hrel
    by_cases hlt : k < n
    · obtain ⟨x, hx⟩ : ∃ x, l[k]? = some x := ⟨l[k]'(by have := HL.out; omega), List.getElem?_eq_getElem _⟩
      have hcs : wr.cell? ⟨g, o + k, none⟩ = some (By x) := by
        rw [hkp.out.cell (p := ⟨g, o + k, none⟩) (HG.out (by omega)) (by simp)]; exact HC.out k x hx
      have hco : ∃ v, wr.cell? ⟨w.heap.size, k, none⟩ = some v := by
        rw [row_cell hb.out]
        have : k < (Bys (l.take k) ++ zs (n - k)).length := by have := HL.out; simp [zs]; omega
        exact ⟨_, List.getElem?_eq_getElem this⟩
      obtain ⟨v0, hco⟩ := hco
      have hfo := row_free hb.out k
      have HX := Lib.hid hx; clear hx
      unfold By at hcs
      go_wp2
      go_roundw
      case rel =>
        refine ⟨k + 1, by omega, by go_num, ?_, ?_⟩
        · have h1 := row_set hb.out k (By x)
          rw [set_step l n k x HL.out HX.out] at h1
          exact h1
        · have : Kept [w.heap.size] wr (wr.setCell ⟨w.heap.size, k, none⟩ (By x)) := (Kept.refl _ _).setCell (by simp) _
          exact (hkp.out.weaken (S' := [w.heap.size]) (by simp)).trans this |>.weaken (by simp)
      case measure => simp [intOf]; omega
    · go_wp2
      go_ret
      have hkn : k = n := by omega
      subst hkn
      refine ⟨rfl, ?_, hkp.out⟩
      have h1 := hb.out
      rw [List.take_of_length_le (by have := HL.out; omega), Nat.sub_self] at h1
      simpa [zs] using h1

theorem clone_nil (w : World) (n c : Nat) :
    Calls Tryd.prog 7 #[.slice none n c] w fun e w' => e = .returned (.slice none 0 0) ∧ w = w' := by
  have q1 : ∀ (w : World) (a : Option Addr) (n c n' c' : Nat), (binOp .eql 22 (.slice a n c) (.slice none n' c')).run Tryd.prog w = .ok (.bool a.isNone) w := fun w a n c n' c' => Lib.run_eql_slice_nil w _ _ a n c n' c' u8_und
  go_enter Tryd.func7, Tryd.ntmps7
  go_wp2
  go_ret
  exact ⟨rfl, rfl⟩

set_option maxRecDepth 100000 in
theorem clone_zero (w : World) (ad : Addr) (c : Nat) :
    Calls Tryd.prog 7 #[.slice (some ad) 0 c] w fun e w' => e = .returned (.slice (some ⟨w.heap.size, 0, none⟩) 0 0) ∧ Kept [] w w' := by
  have q1 : ∀ (w : World) (a : Option Addr) (n c n' c' : Nat), (binOp .eql 22 (.slice a n c) (.slice none n' c')).run Tryd.prog w = .ok (.bool a.isNone) w := fun w a n c n' c' => Lib.run_eql_slice_nil w _ _ a n c n' c' u8_und
  have q2 : ∀ w, (Instr.makeSlice 22 (.int .i64 0) (.int .i64 0)).run Tryd.prog w = .ok (.slice (some ⟨w.heap.size, 0, none⟩) 0 0) (w.alloc (.cells (zs 0).toArray 5)) := fun w => make_u8 0 (by omega) w
  go_enter Tryd.func7, Tryd.ntmps7
  go_wp2
  refine wp_loop_once ?_
  go_wp2
  go_ret
  exact ⟨rfl, (Kept.refl _ _).alloc _⟩

set_option maxRecDepth 100000 in
theorem clone_zero2 (w : World) (ad : Addr) (c : Nat) :
    Calls Tryd.prog 7 #[.slice (some ad) 0 c] w fun e w' => e = .returned (.slice (some ⟨w.heap.size, 0, none⟩) 0 0) ∧ Kept [] w w' ∧ w.heap.size < w'.heap.size := by
  have q1 : ∀ (w : World) (a : Option Addr) (n c n' c' : Nat), (binOp .eql 22 (.slice a n c) (.slice none n' c')).run Tryd.prog w = .ok (.bool a.isNone) w := fun w a n c n' c' => Lib.run_eql_slice_nil w _ _ a n c n' c' u8_und
  have q2 : ∀ w, (Instr.makeSlice 22 (.int .i64 0) (.int .i64 0)).run Tryd.prog w = .ok (.slice (some ⟨w.heap.size, 0, none⟩) 0 0) (w.alloc (.cells (zs 0).toArray 5)) := fun w => make_u8 0 (by omega) w
  go_enter Tryd.func7, Tryd.ntmps7
  go_wp2
  refine wp_loop_once ?_
  go_wp2
  go_ret
  exact ⟨rfl, (Kept.refl _ _).alloc _, by simp⟩


theorem clone2 (w : World) (A : Option Addr) (n c : Nat) (l : List UInt8) (hn : n < 1000000000) (hA : A = none → n = 0 ∧ c = 0) (h : SrcB w A n l) :
    Calls Tryd.prog 7 #[.slice A n c] w fun e w' => ∃ A', e = .returned (.slice A' n n) ∧ SrcB w' A' n l ∧ Kept [] w w' ∧ ((A' = none ∧ n = 0) ∨ (A' = some ⟨w.heap.size, 0, none⟩ ∧ w.heap.size < w'.heap.size)) := by
  cases A with
  | none =>
    obtain ⟨rfl, rfl⟩ := hA rfl
    refine (clone_nil w 0 0).mono ?_
    rintro e w' ⟨rfl, rfl⟩
    exact ⟨none, rfl, h, Kept.refl _ _, .inl ⟨rfl, rfl⟩⟩
  | some a =>
    by_cases h0 : 0 < n
    · obtain ⟨g, o, e, hg, hc⟩ := h.2 h0
      obtain rfl : a = ⟨g, o, none⟩ := Option.some.inj e
      refine (clone_some w g o n c l hn h.1 (fun _ => hg) hc).mono ?_
      rintro e w' ⟨rfl, hb, hk⟩
      exact ⟨_, rfl, SrcB.row hb h.1, hk, .inr ⟨rfl, heap_lt hb⟩⟩
    · obtain rfl : n = 0 := by omega
      refine (clone_zero2 w a c).mono ?_
      rintro e w' ⟨rfl, hk, hz⟩
      exact ⟨_, rfl, ⟨h.1, fun h => absurd h (by omega)⟩, hk, .inr ⟨rfl, hz⟩⟩


end Go.Proofs.YtejjmonaoajlgaaDoor
