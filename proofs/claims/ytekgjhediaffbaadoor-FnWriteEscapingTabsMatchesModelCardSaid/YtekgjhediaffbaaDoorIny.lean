/-
  n010_120: two indenters at once; what a write keeps besides; chains of indenters and their sink; stripping Escape bytes.
-/
import Derived.Test.YtekgjhediaffbaaDoorInx
namespace Go.Proofs.YtekgjhediaffbaaDoor
open Go.RowKit

section
variable {w0 w w1 w' : World} {e1 a1 r1 b1 e2 a2 r2 b2 : Nat} {base : Int} {s1 s2 : Is}
/-- Two indenters; of the first one all is flushed (f1), of the second one (f2). -/
def Two (w0 w : World) (e1 a1 r1 b1 e2 a2 r2 b2 : Nat) (base : Int) (s1 s2 : Is) (f1 f2 : Prop) : Prop := ∃ row1 cv1 row2 cv2, Ix w e1 a1 r1 b1 row1 cv1 base s1 ∧ Ix w e2 a2 r2 b2 row2 cv2 base s2 ∧ (∀ x ∈ fp e1 a1 r1 b1 row1 cv1, x ∉ fp e2 a2 r2 b2 row2 cv2) ∧ Kept [] w0 w ∧
  (∀ x ∈ fp e1 a1 r1 b1 row1 cv1, w0.heap.size ≤ x) ∧ (∀ x ∈ fp e2 a2 r2 b2 row2 cv2, w0.heap.size ≤ x) ∧ (f1 → Bf w TB b1 0 R0 row1 s1.out) ∧ (f2 → Bf w TB b2 0 R0 row2 s2.out)
theorem Two.of (h1 : In w0 w1 e1 a1 r1 b1 base s1) (h2 : In w1 w e2 a2 r2 b2 base s2) : Two w0 w e1 a1 r1 b1 e2 a2 r2 b2 base s1 s2 False False := by
  obtain ⟨row1, cv1, i1, k1, n1⟩ := h1
  obtain ⟨row2, cv2, i2, k2, n2⟩ := h2
  refine ⟨row1, cv1, row2, cv2, i1.kept k2 (by simp), i2, fun x hx hx2 => ?_, k1.trans k2, n1, fun x hx => Nat.le_trans k1.size (n2 x hx), False.elim, False.elim⟩
  have := i1.lt x hx
  have := n2 x hx2
  omega
theorem Two.flush1 (h : Two w0 w e1 a1 r1 b1 e2 a2 r2 b2 base s1 s2 False False) (hl : s1.out.length ≤ 100000000000) :
    Calls Tryd.prog 15 #[.pointer (some ⟨a1, 0, none⟩)] w fun e w' => e = .returned .nilIface ∧ Two w0 w' e1 a1 r1 b1 e2 a2 r2 b2 base s1 s2 True False := by
  obtain ⟨row1, cv1, row2, cv2, i1, i2, d, k, n1, n2, _, _⟩ := h
  refine (i1.flush hl).mono ?_
  rintro e w' ⟨rfl, row', h4, h5, h6⟩
  refine ⟨rfl, row', cv1, row2, cv2, h4, i2.kept h6.2 (fun x hx hm => d x hm hx), fun x hx hx2 => ?_, k.trans2 h6.2 (fun x hx => .inr (n1 x hx)), fun x hx => (h6.1 x hx).elim (n1 x) (fun h => Nat.le_trans k.size h), n2, fun _ => h5, False.elim⟩
  rcases h6.1 x hx with h | h
  · exact d x h hx2
  · have := i2.lt x hx2; omega
theorem Two.flush2 (h : Two w0 w e1 a1 r1 b1 e2 a2 r2 b2 base s1 s2 True False) (hl : s2.out.length ≤ 100000000000) :
    Calls Tryd.prog 15 #[.pointer (some ⟨a2, 0, none⟩)] w fun e w' => e = .returned .nilIface ∧ Two w0 w' e1 a1 r1 b1 e2 a2 r2 b2 base s1 s2 True True := by
  obtain ⟨row1, cv1, row2, cv2, i1, i2, d, k, n1, n2, hb, _⟩ := h
  refine (i2.flush hl).mono ?_
  rintro e w' ⟨rfl, row', h4, h5, h6⟩
  refine ⟨rfl, row1, cv1, row', cv2, i1.kept h6.2 d, h4, fun x hx hx2 => ?_, k.trans2 h6.2 (fun x hx => .inr (n2 x hx)), n1, fun x hx => (h6.1 x hx).elim (n2 x) (fun h => Nat.le_trans k.size h), fun _ => (hb trivial).kept h6.2 (d _ (by simp [fp])) (fun g hg => d g (by simp only [fp, List.mem_cons, List.mem_append, Option.mem_toList]; exact .inr (.inr (.inr (.inr (.inl hg)))))), fun _ => h5⟩
  rcases h6.1 x hx2 with h | h
  · exact d x hx h
  · have := i1.lt x hx; omega
theorem Two.kept (h : Two w0 w e1 a1 r1 b1 e2 a2 r2 b2 base s1 s2 True True) : Kept [] w0 w := by obtain ⟨_, _, _, _, _, _, _, k, _⟩ := h; exact k
theorem Two.bytes1 (h : Two w0 w e1 a1 r1 b1 e2 a2 r2 b2 base s1 s2 True True) (k : Kept [] w w') :
    Calls Tryd.prog 17 #[.pointer (some ⟨b1, 0, none⟩)] w' fun e w2 => ∃ A cap, e = .returned (.slice A s1.out.length cap) ∧ SrcB w2 A s1.out.length s1.out ∧ Kept [] w' w2 := by
  obtain ⟨row1, cv1, row2, cv2, i1, i2, d, _, n1, n2, hb, _⟩ := h
  refine (buf_bytes ((hb trivial).kept k (by simp) (by simp))).mono ?_
  rintro e w' ⟨A, cap, rfl, h5, h6, h7, h8⟩
  exact ⟨A, cap, rfl, h7, h8⟩
theorem Two.bytes2 (h : Two w0 w e1 a1 r1 b1 e2 a2 r2 b2 base s1 s2 True True) (k : Kept [] w w') :
    Calls Tryd.prog 17 #[.pointer (some ⟨b2, 0, none⟩)] w' fun e w2 => ∃ A cap, e = .returned (.slice A s2.out.length cap) ∧ SrcB w2 A s2.out.length s2.out ∧ Kept [] w' w2 := by
  obtain ⟨row1, cv1, row2, cv2, i1, i2, d, _, n1, n2, _, hb⟩ := h
  refine (buf_bytes ((hb trivial).kept k (by simp) (by simp))).mono ?_
  rintro e w' ⟨A, cap, rfl, h5, h6, h7, h8⟩
  exact ⟨A, cap, rfl, h7, h8⟩
end

/-- An indenter with its blocks S. -/
def Ixs (w : World) (eb wb rb b : Nat) (base : Int) (s : Is) (S : List Nat) : Prop := ∃ row cv, Ix w eb wb rb b row cv base s ∧ S = fp eb wb rb b row cv
theorem Ixs.lt {w : World} {eb wb rb b : Nat} {base : Int} {s : Is} {S : List Nat} (h : Ixs w eb wb rb b base s S) : ∀ x ∈ S, x < w.heap.size := by
  obtain ⟨row, cv, h1, rfl⟩ := h
  exact h1.lt
theorem Ixs.kept {w w' : World} {eb wb rb b : Nat} {base : Int} {s : Is} {S S' : List Nat} (h : Ixs w eb wb rb b base s S) (k : Kept S' w w') (hS : ∀ x ∈ S, x ∉ S') : Ixs w' eb wb rb b base s S := by
  obtain ⟨row, cv, h1, rfl⟩ := h
  exact ⟨row, cv, h1.kept k hS, rfl⟩
theorem In.ixs {w0 w : World} {eb wb rb b : Nat} {base : Int} {s : Is} (h : In w0 w eb wb rb b base s) : ∃ S, Ixs w eb wb rb b base s S ∧ Kept [] w0 w ∧ ∀ x ∈ S, w0.heap.size ≤ x := by
  obtain ⟨row, cv, h1, h2, h3⟩ := h
  exact ⟨_, ⟨row, cv, h1, rfl⟩, h2, h3⟩
theorem Ixs.c0 {w : World} {eb wb rb b : Nat} {base : Int} {s : Is} {S : List Nat} (h : Ixs w eb wb rb b base s S) : w.cell? ⟨eb, 0, none⟩ = some (wrV wb) := by
  obtain ⟨row, cv, h1, rfl⟩ := h
  exact h1.c0
theorem Ixs.flush {w : World} {eb wb rb b : Nat} {base : Int} {s : Is} {S : List Nat} (h : Ixs w eb wb rb b base s S) (hl : s.out.length ≤ 100000000000) :
    Calls Tryd.prog 15 #[.pointer (some ⟨wb, 0, none⟩)] w fun e w' => e = .returned .nilIface ∧ ∃ S', Ixs w' eb wb rb b base s S' ∧ (∃ row, Bf w' TB b 0 R0 row s.out) ∧ Fp S S' w w' := by
  obtain ⟨row, cv, h1, rfl⟩ := h
  refine (h1.flush hl).mono ?_
  rintro e w' ⟨rfl, row', h4, h5, h6⟩
  exact ⟨rfl, _, ⟨row', cv, h4, rfl⟩, ⟨row', h5⟩, h6⟩

set_option maxRecDepth 100000 in
theorem zwbyteX {w : World} {eb wb rb b : Nat} {base : Int} {s : Is} {n : Nat} {S : List Nat} (h : Ixs w eb wb rb b base s S) (hk : Iok base n s) (hb1 : 0 ≤ base) (hb2 : base ≤ 65536) (hn : n ≤ 1000000) (x : UInt8) (z : Int) (hz : z = x.toNat) :
    Calls Tryd.prog 26 #[.pointer (some ⟨eb, 0, none⟩), .int .u8 z] w fun e w' => e = .returned .nilIface ∧ ∃ S', Ixs w' eb wb rb b base (stepI base s x) S' ∧ Fp S S' w w' := by
  subst hz
  obtain ⟨row, cv, h1, rfl⟩ := h
  have HC := Lib.hid (wbyte h1 hk hb1 hb2 hn x)
  clear h1 hk
  go_enter Tryd.func26, Tryd.ntmps26
  go_wp2_with fail
  refine HC.out.mono ?_
  rintro e w1 ⟨rfl, row', cv', h4, h5⟩
  have HR := Lib.hid (show ∃ S', Ixs w1 eb wb rb b base (stepI base s x) S' ∧ Fp (fp eb wb rb b row cv) S' w w1 from ⟨_, ⟨row', cv', h4, rfl⟩, h5⟩)
  clear h4 h5
  go_wp2_with fail
  go_ret
  exact ⟨rfl, HR.out⟩

set_option maxRecDepth 100000 in
set_option maxHeartbeats 800000 in
theorem wstringX {w : World} {eb wb rb b : Nat} {base : Int} {s : Is} {n : Nat} {S : List Nat} (h : Ixs w eb wb rb b base s S) (hk : Iok base n s) (hb1 : 0 ≤ base) (hb2 : base ≤ 65536) (str : ByteArray) (l : List UInt8) (hl : l = str.data.toList) (hn : n + str.size ≤ 1000000) :
    Calls Tryd.prog 34 #[.pointer (some ⟨eb, 0, none⟩), .string str] w fun e w' => e = .returned (.tuple #[.int .i64 str.size, .nilIface]) ∧ ∃ S', Ixs w' eb wb rb b base (foldI base s l) S' ∧ Fp S S' w w' := by
  have hst : Hid ((∃ S', Ixs w eb wb rb b base (foldI base s (l.take 0)) S' ∧ Fp S S' w w) ∧ Iok base (n + 0) (foldI base s (l.take 0))) := Lib.hid ⟨⟨S, h, Fp.refl _ _⟩, hk⟩
  have hll : l.length = str.size := by rw [hl]; rfl
  have HLL := Lib.hid hll
  have hget : ∀ k (hk : k < str.size), l[k]? = some str[k] := fun k hk => by rw [hl]; exact List.getElem?_eq_getElem (show k < str.data.toList.length from hk)
  have HGT := Lib.hid hget
  clear h hk hl hll hget
  go_enter Tryd.func34, Tryd.ntmps34
  go_wp2_with fail
  go_loopw [9] (fun s9 wr => ∃ k : Nat, k ≤ str.size ∧ s9 = .int .i64 k ∧ Hid ((∃ S', Ixs wr eb wb rb b base (foldI base s (l.take k)) S' ∧ Fp S S' w wr) ∧ Iok base (n + k) (foldI base s (l.take k)))) (fun s9 _ => str.size - (intOf s9).toNat)
  case atStart => exact ⟨0, Nat.zero_le _, rfl, hst⟩
  case round =>
    obtain ⟨k, hk, rfl, hrel⟩ := hrel
    clear hst
    by_cases hlt : k < str.size
    · obtain ⟨S1, ⟨row, cv, h1, hS1⟩, h2⟩ := hrel.out.1
      rw [hS1] at h2
      have hok := stepI_ok hrel.out.2 hb1 str[k]
      have hcon := wbyte h1 hrel.out.2 hb1 hb2 (by omega) str[k]
      rw [← foldI_take (HGT.out k hlt)] at hcon hok
      have HC := Lib.hid hcon; have HOK := Lib.hid hok; have H2 := Lib.hid h2
      clear hcon hok h1 h2 hrel hS1
      go_wp2_with fail
      refine HC.out.mono ?_
      rintro e w1 ⟨rfl, row', cv', h4, h5⟩
      have HR := Lib.hid (show (∃ S', Ixs w1 eb wb rb b base (foldI base s (l.take (k + 1))) S' ∧ Fp S S' w w1) ∧ Iok base (n + (k + 1)) (foldI base s (l.take (k + 1))) from ⟨⟨_, ⟨row', cv', h4, rfl⟩, H2.out.trans h5⟩, HOK.out⟩)
      clear h4 h5
      go_wp2_with fail
      go_roundw
      case rel => exact ⟨k + 1, by omega, by go_num, HR⟩
      case measure => simp [intOf]; omega
    · have hkn : k = str.size := by omega
      subst hkn
      have hR := hrel.out.1
      rw [List.take_of_length_le (by have := HLL.out; omega)] at hR
      have HR := Lib.hid hR
      clear hR hrel
      go_wp2_with fail
      go_ret2
      exact ⟨rfl, HR.out⟩
set_option maxRecDepth 100000 in
theorem zwstringX {w : World} {eb wb rb b : Nat} {base : Int} {s : Is} {n : Nat} {S : List Nat} (h : Ixs w eb wb rb b base s S) (hk : Iok base n s) (hb1 : 0 ≤ base) (hb2 : base ≤ 65536) (str : ByteArray) (l : List UInt8) (hl : l = str.data.toList) (hn : n + str.size ≤ 1000000) :
    Calls Tryd.prog 20 #[.pointer (some ⟨eb, 0, none⟩), .string str] w fun e w' => e = .returned (.tuple #[.int .i64 str.size, .nilIface]) ∧ ∃ S', Ixs w' eb wb rb b base (foldI base s l) S' ∧ Fp S S' w w' := by
  have HC := Lib.hid (wstringX h hk hb1 hb2 str l hl hn)
  clear h hk hl
  go_enter Tryd.func20, Tryd.ntmps20
  go_wp2_with fail
  refine HC.out.mono ?_
  rintro e w1 ⟨rfl, h1⟩
  have H1 := Lib.hid h1; clear h1
  go_wp2_with fail
  go_ret2
  exact ⟨rfl, H1.out⟩

/-- d indenters over the root eb; the outermost is e; each lies from N on. -/
def Chain (w : World) (N eb : Nat) : Nat → Nat → Prop
  | 0, e => e = eb
  | d + 1, e => N ≤ e ∧ e < w.heap.size ∧ ∃ e', w.cell? ⟨e, 0, none⟩ = some (.iface 25 (.pointer (some ⟨e', 0, none⟩))) ∧ Chain w N eb d e'
theorem Chain.kept {w w' : World} {N eb : Nat} {S : List Nat} (k : Kept S w w') (hS : ∀ x ∈ S, x < N ∨ w.heap.size ≤ x) : ∀ {d e : Nat}, Chain w N eb d e → Chain w' N eb d e := by
  intro d
  induction d with
  | zero => intro e h; exact h
  | succ d ih =>
    intro e h
    obtain ⟨h1, h2, e', h3, h4⟩ := h
    refine ⟨h1, Nat.lt_of_lt_of_le h2 k.size, e', (k.cell (p := ⟨e, 0, none⟩) h2 (fun hm => ?_)).trans h3, ih h4⟩
    have := hS e hm
    omega
theorem assert_no (wb : Nat) (w : World) : (Instr.typeAssert (wrV wb) 51 25 true).run Tryd.prog w = .ok (.tuple #[.pointer none, .bool false]) w := by kernel_rfl
theorem assert_yes (a : Addr) (w : World) : (Instr.typeAssert (.iface 25 (.pointer (some a))) 51 25 true).run Tryd.prog w = .ok (.tuple #[.pointer (some a), .bool true]) w := by kernel_rfl
set_option maxRecDepth 100000 in
theorem sink_walk {w : World} {N eb wb : Nat} (h0 : w.cell? ⟨eb, 0, none⟩ = some (wrV wb)) : ∀ {d e : Nat}, Chain w N eb d e →
    Calls Tryd.prog 35 #[.pointer (some ⟨e, 0, none⟩)] w fun r w' => r = .returned (wrV wb) ∧ w = w' := by
  intro d
  induction d with
  | zero =>
    intro e h
    have h : e = eb := h
    subst h
    have q1 := fun w => assert_no wb w
    go_enter Tryd.func35, Tryd.ntmps35
    go_wp2_with fail
    go_ret
    exact ⟨rfl, rfl⟩
  | succ d ih =>
    intro e h
    obtain ⟨_, _, e', h3, h4⟩ := h
    have HC := Lib.hid (ih h4)
    have q1 := fun w => assert_yes ⟨e', 0, none⟩ w
    clear ih h4 h0
    go_enter Tryd.func35, Tryd.ntmps35
    go_wp2_with fail
    refine HC.out.mono ?_
    rintro e w' ⟨rfl, rfl⟩
    go_wp2_with fail
    go_ret
    exact ⟨rfl, rfl⟩
set_option maxRecDepth 100000 in
theorem nested {w : World} {N eb : Nat} {d e : Nat} (h : Chain w N eb d e) (hN : N ≤ w.heap.size) (z : Int) :
    Calls Tryd.prog 23 #[.pointer (some ⟨e, 0, none⟩), .int .i64 z] w fun r w' => r = .returned (.pointer (some ⟨w.heap.size, 0, none⟩)) ∧ Chain w' N eb (d + 1) w.heap.size ∧ Kept [] w w' := by
  have H := Lib.hid h; clear h
  go_enter Tryd.func23, Tryd.ntmps23
  go_wp2_with fail
  go_ret
  have hk := ((Kept.refl [] w).alloc (.cells #[.iface 25 (.pointer (some ⟨e, 0, none⟩)), .int .i64 z, .int .i64 (-1), .int .i64 0, .slice none 0 0] TE))
  have hb := heap_alloc_new w (.cells #[.iface 25 (.pointer (some ⟨e, 0, none⟩)), .int .i64 z, .int .i64 (-1), .int .i64 0, .slice none 0 0] TE)
  exact ⟨rfl, ⟨hN, heap_lt hb, e, row_cell (L := [.iface 25 (.pointer (some ⟨e, 0, none⟩)), .int .i64 z, .int .i64 (-1), .int .i64 0, .slice none 0 0]) hb 0, Chain.kept hk (by simp) H.out⟩, hk⟩
theorem method_wws (k : Nat) (a : Addr) (w : World) : (method (k + 1) 26 (.pointer (some a)) "WriteString").run Tryd.prog w = .ok (66, .pointer (some a)) w := by kernel_rfl
theorem nil_ahead_wws (k : Nat) (a : Addr) (w : World) : (nilAhead (k + 1) 26 (.pointer (some a)) "WriteString").run Tryd.prog w = .ok (some false) w := by kernel_rfl
set_option maxRecDepth 100000 in
theorem sinkwrite {w : World} {eb wb rb b : Nat} {base : Int} {s : Is} {S : List Nat} (h : Ixs w eb wb rb b base s S) {N d e : Nat} (hc : Chain w N eb d e) (str : ByteArray) (l : List UInt8) (hl : l = str.data.toList) (hlim : s.out.length + str.size ≤ 100000000000) :
    Calls Tryd.prog 24 #[.pointer (some ⟨e, 0, none⟩), .string str] w fun r w' => r = .returned (.tuple #[.int .i64 str.size, .nilIface]) ∧ ∃ S', Ixs w' eb wb rb b base { s with out := s.out ++ l } S' ∧ Fp S S' w w' := by
  have hs := sink_walk h.c0 hc
  obtain ⟨row, cv, h1, hS⟩ := h
  obtain ⟨bs, pend, h2, he⟩ := h1.st
  have hw := bw_writeString h2 str str.size l hl (by rw [hl]; rfl) (by rw [he]; exact hlim)
  have HS := Lib.hid hs; have HW := Lib.hid hw; have HE := Lib.hid he; have H1 := Lib.hid h1; have HSS := Lib.hid hS
  have q4 := fun k w => method_wws k ⟨wb, 0, none⟩ w
  have q5 := fun k w => nil_ahead_wws k ⟨wb, 0, none⟩ w
  clear hs hw h1 h2 he hc hl hS
  go_enter Tryd.func24, Tryd.ntmps24
  go_wp2_with fail
  refine HS.out.mono ?_
  rintro r w' ⟨rfl, rfl⟩
  go_wp2_with fail
  refine HW.out.mono ?_
  rintro r w1 ⟨rfl, row', bs', pend', h3, h4, h5⟩
  have HR := Lib.hid (show ∃ S', Ixs w1 eb wb rb b base { s with out := s.out ++ l } S' ∧ Fp S S' w w1 by
    rw [HE.out] at h4
    obtain ⟨row6, h6, h7⟩ := H1.out.write ⟨row', bs', pend', h3, h4, h5⟩
    rw [HSS.out]
    exact ⟨_, ⟨row6, cv, h6, rfl⟩, h7⟩)
  clear h3 h4 h5
  go_wp2_with fail
  go_ret2
  exact ⟨rfl, HR.out⟩

def notEsc (x : UInt8) : Bool := x.toNat != 255
set_option maxRecDepth 100000 in
set_option maxHeartbeats 800000 in
theorem zstrip (w : World) (A : Option Addr) (n c : Nat) (l : List UInt8) (hn : n < 100000000000) (hs : SrcB w A n l) :
    Calls Tryd.prog 28 #[.slice A n c] w fun e w' => ∃ B d, e = .returned (.slice B (l.filter notEsc).length d) ∧ SrcB w' B (l.filter notEsc).length (l.filter notEsc) ∧ Kept [] w w' := by
  have hst : Hid (Own w nilS ((l.take 0).filter notEsc) ∧ Av nilS nilS w w) := Lib.hid ⟨Own.nil _, Av.refl _ _⟩
  have HS := Lib.hid hs
  clear hs
  go_enter Tryd.func28, Tryd.ntmps28
  go_wp2_with fail
  go_loopw [3, 4] (fun s3 s4 wr => ∃ (k : Nat) (v : Value), k ≤ n ∧ s4 = .int .i64 k ∧ v = s3 ∧ Hid (Own wr v ((l.take k).filter notEsc) ∧ Av nilS v w wr)) (fun _ s4 _ => n - (intOf s4).toNat)
  case atStart => exact ⟨0, nilS, Nat.zero_le _, rfl, rfl, hst⟩
  case round =>
    clear hst
    obtain ⟨k, v, hk, rfl, rfl, hrel⟩ := hrel
    by_cases hlt : k < n
    · obtain ⟨x, hx⟩ : ∃ x, l[k]? = some x := ⟨l[k]'(by have := HS.out.1; omega), List.getElem?_eq_getElem _⟩
      obtain ⟨g, o, hA, hg, hcc⟩ := HS.out.2 (by omega)
      subst hA
      have hcs : wr.cell? ⟨g, o + k, none⟩ = some (.int .u8 x.toNat) := (hrel.out.2.cell hg (by simp [Value.ownBlock])).trans (hcc k x hx)
      obtain ⟨P, hP⟩ : ∃ P, P = (l.take k).filter notEsc := ⟨_, rfl⟩
      have hPl : P.length + 1 ≤ 1000000000000 := by
        have h1 := List.length_filter_le notEsc (l.take k)
        have h2 : (l.take k).length ≤ k := by simp; omega
        rw [hP]; omega
      have hnx : (l.take (k + 1)).filter notEsc = P ++ [x].filter notEsc := by rw [hP, take_snoc' hx, List.filter_append]
      have hPo : Own wr v P := by rw [hP]; exact hrel.out.1
      have hxl := x.toNat_lt
      have HAV := Lib.hid hrel.out.2; have HNX := Lib.hid hnx; have HPO := Lib.hid hPo
      clear hcc hx hP hnx hPo hrel
      by_cases h255 : x.toNat = 255
      · have g1 : ((x.toNat : Int) != 255) = false := by rw [h255]; rfl
        have hE : (l.take (k + 1)).filter notEsc = P := by rw [HNX.out]; simp [notEsc, h255]
        have HE := Lib.hid hE
        clear hE h255
        go_wp2_with fail
        go_roundw
        case rel => exact ⟨k + 1, v, by omega, by go_num, rfl, Lib.hid ⟨by rw [HE.out]; exact HPO.out, HAV.out⟩⟩
        case measure => simp [intOf]; omega
      · have g1 : ((x.toNat : Int) != 255) = true := by rw [bne_iff_ne]; omega
        have hE : P ++ [x] = (l.take (k + 1)).filter notEsc := by rw [HNX.out, List.filter_cons_of_pos (by simp [notEsc, h255])]; rfl
        have HE := Lib.hid hE
        clear hE h255
        go_wp2_with (at_builtin; refine wpList_app_lit rfl _ _ rfl v P rfl HPO.out 1 1 _ [x] rfl rfl (by omega) rfl hPl ?_; intro g1 cap1 w1 ho1 hn1 hk1; have HR := Lib.hid (show Own w1 _ _ ∧ Av nilS _ w w1 from ⟨HE.out ▸ ho1, HAV.out.trans (Av.step (n := P.length + 1) (c := cap1) hn1 hk1)⟩); clear ho1 hn1 hk1)
        go_roundw
        case rel => exact ⟨k + 1, _, by omega, by go_num, rfl, HR⟩
        case measure => simp [intOf]; omega
    · have hkn : k = n := by omega
      subst hkn
      go_wp2_with fail
      go_ret
      have h1 := hrel.out.1
      rw [List.take_of_length_le (by have := HS.out.1; omega)] at h1
      obtain ⟨B, d, rfl⟩ := h1.slice
      exact ⟨B, d, rfl, h1.src.1, hrel.out.2.2⟩

/-- Escape bytes, counted by twos. -/
def tog (l : List UInt8) : Bool := l.foldl (fun b x => if x.toNat = 255 then !b else b) false
theorem tog_snoc (l : List UInt8) (x : UInt8) : tog (l ++ [x]) = if x.toNat = 255 then !tog l else tog l := by simp [tog]
theorem tog_take {l : List UInt8} {k : Nat} {x : UInt8} (h : l[k]? = some x) : tog (l.take (k + 1)) = if x.toNat = 255 then !tog (l.take k) else tog (l.take k) := by
  rw [take_snoc' h]; exact tog_snoc _ _
def Shut (o : List UInt8) (b : Bool) : Prop := tog o = b ∧ ∀ i, o[i]? = some 9 → tog (o.take i) = true
theorem Shut.snoc {o : List UInt8} {b : Bool} (h : Shut o b) (x : UInt8) (hx : x.toNat = 9 → b = true) : Shut (o ++ [x]) (if x.toNat = 255 then !b else b) := by
  refine ⟨by rw [tog_snoc, h.1], fun i hi => ?_⟩
  by_cases hlt : i < o.length
  · rw [List.getElem?_append_left hlt] at hi
    rw [List.take_append_of_le_length (by omega)]
    exact h.2 i hi
  · have hil : i < (o ++ [x]).length := (List.getElem?_eq_some_iff.1 hi).1
    have hie : i = o.length := by simp at hil; omega
    subst hie
    rw [List.getElem?_append_right (Nat.le_refl _), Nat.sub_self] at hi
    simp at hi
    subst hi
    rw [List.take_left, h.1]
    exact hx rfl
theorem esc_shut (l : List UInt8) : ∀ k, k ≤ l.length → Shut (escF (l.take k)).1 (escF (l.take k)).2 ∧ (escF (l.take k)).1.filter notEsc = (l.take k).filter notEsc := by
  intro k
  induction k with
  | zero => intro _; exact ⟨⟨rfl, fun i h => by simp [escF] at h⟩, rfl⟩
  | succ k ih =>
    intro hk
    have hx : l[k]? = some l[k] := List.getElem?_eq_getElem (by omega)
    obtain ⟨h1, h2⟩ := ih (by omega)
    rw [escF_take hx, take_snoc' hx, List.filter_append, ← h2]
    unfold stepE
    by_cases h255 : l[k].toNat = 255
    · rw [if_pos h255]
      refine ⟨?_, by simp⟩
      have := h1.snoc l[k] (fun h => by omega)
      rwa [if_pos h255] at this
    · rw [if_neg h255]
      by_cases h9 : l[k].toNat = 9 ∧ (escF (l.take k)).2 = false
      · rw [if_pos h9]
        have e9 : l[k] = 9 := UInt8.toNat_inj.1 h9.1
        refine ⟨?_, by rw [List.filter_append, e9]; rfl⟩
        have a1 := h1.snoc 255 (fun h => by cases h)
        rw [if_pos (by decide), h9.2] at a1
        have a2 := a1.snoc 9 (fun _ => rfl)
        rw [if_neg (by decide)] at a2
        have a3 := a2.snoc 255 (fun h => by cases h)
        rw [if_pos (by decide)] at a3
        rw [h9.2]
        simpa using a3
      · rw [if_neg h9]
        refine ⟨?_, by simp⟩
        have := h1.snoc l[k] (fun h => by
          rcases Bool.eq_false_or_eq_true (escF (l.take k)).2 with e | e
          · exact e
          · exact absurd ⟨h, e⟩ h9)
        rwa [if_neg h255] at this
end Go.Proofs.YtekgjhediaffbaaDoor
