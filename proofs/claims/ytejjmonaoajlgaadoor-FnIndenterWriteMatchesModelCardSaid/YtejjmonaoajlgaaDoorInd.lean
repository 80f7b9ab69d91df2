/-
  The heredoc indenter over a bufio.Writer over a bytes.Buffer: writeEscapingTabs, bytes.TrimLeft.
-/
import Derived.Test.YtejjmonaoajlgaaDoorApp
import Derived.Test.YtejjmonaoajlgaaDoorIndP
import Derived.Test.YtejjmonaoajlgaaDoorBwn
import Derived.Test.YtejjmonaoajlgaaDoorBwb
namespace Go.Proofs.YtejjmonaoajlgaaDoor
open Go.RowKit

abbrev TB : Nat := 37
abbrev TE : Nat := 45
/-- A bufio.Writer as the indenter's writer. -/
abbrev wrV (wb : Nat) : Value := .iface 38 (.pointer (some ⟨wb, 0, none⟩))
def R0 : Nat → Option Value := fun _ => none
theorem method_wb (k : Nat) (a : Addr) (w : World) : (method (k + 1) 38 (.pointer (some a)) "WriteByte").run Tryd.prog w = .ok (48, .pointer (some a)) w := by kernel_rfl
theorem nil_ahead_wb (k : Nat) (a : Addr) (w : World) : (nilAhead (k + 1) 38 (.pointer (some a)) "WriteByte").run Tryd.prog w = .ok (some false) w := by kernel_rfl
theorem method_ww (k : Nat) (a : Addr) (w : World) : (method (k + 1) 38 (.pointer (some a)) "Write").run Tryd.prog w = .ok (47, .pointer (some a)) w := by kernel_rfl
theorem nil_ahead_ww (k : Nat) (a : Addr) (w : World) : (nilAhead (k + 1) 38 (.pointer (some a)) "Write").run Tryd.prog w = .ok (some false) w := by kernel_rfl

/-- Since w0 the writer has come to out; nothing else has turned. -/
def Wr (w0 : World) (wb rb b : Nat) (row0 : Option Nat) (out : List UInt8) (w : World) : Prop := ∃ row bs pend, St w wb rb TB b 0 R0 row bs pend ∧ bs ++ pend = out ∧ Mv wb rb b row0 row w0 w
section
variable {w0 w w' : World} {wb rb b : Nat} {row0 : Option Nat} {out : List UInt8}
theorem Wr.of {row : Option Nat} {bs pend : List UInt8} (h : St w wb rb TB b 0 R0 row bs pend) (ho : bs ++ pend = out) : Wr w wb rb b row out w := ⟨row, bs, pend, h, ho, Mv.refl _ _ _ _ _⟩
theorem Wr.away {S : List Nat} (h : Wr w0 wb rb b row0 out w) (k : Kept S w w') (hS : ∀ x ∈ S, w.heap.size ≤ x) : Wr w0 wb rb b row0 out w' := by
  obtain ⟨row, bs, pend, h1, h2, h3⟩ := h
  refine ⟨row, bs, pend, h1.kept k (fun hm => by have := hS _ hm; have := h1.wr.lt; omega) (fun hm => by have := hS _ hm; have := h1.wr.rlt; omega) (fun hm => by have := hS _ hm; have := h1.bf.lt; omega) (fun g hg hm => by have := hS _ hm; have := (h1.bf.rowlt g hg).1; omega), h2, h3.trans (Mv.of (k.weaken fun x hx => .inr (hS x hx)))⟩
theorem Wr.cell (h : Wr w0 wb rb b row0 out w) {g o : Nat} (h1 : g < w0.heap.size) (h2 : g ∉ wb :: rb :: b :: row0.toList) : w.cell? ⟨g, o, none⟩ = w0.cell? ⟨g, o, none⟩ := by
  obtain ⟨row, bs, pend, _, _, h3⟩ := h
  exact h3.cell h1 h2
theorem Wr.size (h : Wr w0 wb rb b row0 out w) : w0.heap.size ≤ w.heap.size := by
  obtain ⟨row, bs, pend, _, _, h3⟩ := h
  exact h3.2.size
theorem Wr.trans {w1 : World} {row1 : Option Nat} (h3 : Mv wb rb b row0 row1 w0 w1) (k : Wr w1 wb rb b row1 out w) : Wr w0 wb rb b row0 out w := by
  obtain ⟨row2, bs2, pend2, k1, k2, k3⟩ := k
  exact ⟨row2, bs2, pend2, k1, k2, h3.trans k3⟩
theorem Wr.byte (h : Wr w0 wb rb b row0 out w) (c : UInt8) (n : Int) (hn : n = c.toNat) (hlim : out.length ≤ 100000000000) :
    Calls Tryd.prog 48 #[.pointer (some ⟨wb, 0, none⟩), .int .u8 n] w fun e w' => e = .returned .nilIface ∧ Wr w0 wb rb b row0 (out ++ [c]) w' := by
  subst hn
  obtain ⟨row, bs, pend, h1, h2, h3⟩ := h
  refine (bw_writeByte h1 c (by rw [← h2] at hlim; simp at hlim; omega)).mono ?_
  rintro e w' ⟨rfl, row', bs', pend', h4, h5, h6⟩
  exact ⟨rfl, row', bs', pend', h4, by rw [h5, h2], h3.trans h6⟩
theorem Wr.write (h : Wr w0 wb rb b row0 out w) (sg so n c : Nat) (p : List UInt8) (hpl : p.length = n) (hsg : sg < w0.heap.size) (hp : ∀ j x, p[j]? = some x → w0.cell? ⟨sg, so + j, none⟩ = some (By x))
    (hA : sg ∉ wb :: rb :: b :: row0.toList) (hnc : n ≤ c) (hc : c ≤ 9223372036854775807) (hlim : out.length + n ≤ 100000000000) :
    Calls Tryd.prog 47 #[.pointer (some ⟨wb, 0, none⟩), .slice (some ⟨sg, so, none⟩) n c] w fun e w' => e = .returned (.tuple #[.int .i64 n, .nilIface]) ∧ Wr w0 wb rb b row0 (out ++ p) w' := by
  have h0 := h
  obtain ⟨row, bs, pend, h1, h2, h3⟩ := h
  refine (bw_write h1 sg so n c p hpl (fun _ => Nat.lt_of_lt_of_le hsg h0.size) (fun j x hj => (h0.cell hsg hA).trans (hp j x hj)) (h3.notin hsg hA) hnc hc (by rw [h2]; exact hlim)).mono ?_
  rintro e w' ⟨rfl, row', bs', pend', h4, h5, h6⟩
  exact ⟨rfl, row', bs', pend', h4, by rw [h5, h2], h3.trans h6⟩
end

/-- Where a slice's bytes lie: below w0's end, apart from S. -/
def Lies (w0 : World) (S : List Nat) (A : Option Addr) (n : Nat) (l : List UInt8) : Prop := SrcB w0 A n l ∧ ∀ a ∈ A, a.block ∉ S

set_option maxRecDepth 100000 in
set_option maxHeartbeats 1600000 in
theorem esc_walk {w0 w : World} {wb rb b eb : Nat} {row0 : Option Nat} {out : List UInt8} (h : Wr w0 wb rb b row0 out w) (he : w0.cell? ⟨eb, 0, none⟩ = some (wrV wb)) (hel : eb < w0.heap.size) (hen : eb ∉ wb :: rb :: b :: row0.toList)
    (A : Option Addr) (n c : Nat) (l : List UInt8) (hs : Lies w0 (wb :: rb :: b :: row0.toList) A n l) (hlim : out.length + 3 * n ≤ 100000000000) :
    Calls Tryd.prog 22 #[.pointer (some ⟨eb, 0, none⟩), .slice A n c] w fun e w' => e = .returned (.tuple #[]) ∧ Wr w0 wb rb b row0 (out ++ (escF l).1) w' := by
  have hst : Hid (Wr w0 wb rb b row0 (out ++ (escF (l.take 0)).1) w) := by rw [show (escF (l.take 0)).1 = [] from rfl, List.append_nil]; exact h
  have q4 := fun k w => method_wb k ⟨wb, 0, none⟩ w
  have q5 := fun k w => nil_ahead_wb k ⟨wb, 0, none⟩ w
  have HE := Lib.hid he; have HEN := Lib.hid hen; have HS := Lib.hid hs
  have hn : n ≤ 100000000000 := by omega
  clear h he hen hs
  go_enter Tryd.func22, Tryd.ntmps22
  go_wp2_with fail
  go_loopw [4, 9] (fun s4 s9 wr => ∃ (k : Nat) (b4 : Bool), k ≤ n ∧ s9 = .int .i64 k ∧ s4 = .bool b4 ∧ Hid (b4 = (escF (l.take k)).2) ∧ Hid (Wr w0 wb rb b row0 (out ++ (escF (l.take k)).1) wr)) (fun _ s9 _ => n - (intOf s9).toNat)
  case atStart => exact ⟨0, false, Nat.zero_le _, rfl, rfl, rfl, hst⟩
  case round =>
    obtain ⟨k, b4, hk, rfl, rfl, hb4, hrel⟩ := hrel
    clear hst
    by_cases hlt : k < n
    · obtain ⟨x, hx⟩ : ∃ x, l[k]? = some x := ⟨l[k]'(by have := HS.out.1.1; omega), List.getElem?_eq_getElem _⟩
      obtain ⟨g, o, hA, hg, hcc⟩ := HS.out.1.2 (by omega)
      subst hA
      have hgn := HS.out.2 _ rfl
      have hcs : wr.cell? ⟨g, o + k, none⟩ = some (.int .u8 x.toNat) := (hrel.out.cell hg hgn).trans (hcc k x hx)
      have c0 : wr.cell? ⟨eb, 0, none⟩ = some (wrV wb) := (hrel.out.cell hel HEN.out).trans HE.out
      have hst := escF_take hx
      have hbl := escF_len (l.take k)
      have hbl2 : (l.take k).length ≤ k := by simp; omega
      have hlm : (out ++ (escF (l.take k)).1).length + 3 ≤ 100000000000 := by rw [List.length_append]; omega
      have hB := hb4.out
      have HLM := Lib.hid hlm
      clear hcc hx hgn hbl hbl2 hlm hb4
      have hxl := x.toNat_lt
      by_cases h255 : x.toNat = 255
      · obtain rfl : x = 255 := UInt8.toNat_inj.1 h255
        have hcs : wr.cell? ⟨g, o + k, none⟩ = some (.int .u8 255) := hcs
        have hN : out ++ (escF (l.take (k + 1))).1 = out ++ (escF (l.take k)).1 ++ [255] ∧ (!b4) = (escF (l.take (k + 1))).2 := by rw [hst, hB]; simp [stepE]
        have HN := Lib.hid hN; clear hN hst hB h255
        generalize out ++ (escF (l.take k)).1 = O at *
        go_wp2_with fail
        refine (hrel.out.byte 255 255 rfl (by have := HLM.out; omega)).mono ?_
        rintro e w1 ⟨rfl, h1⟩
        rw [← HN.out.1] at h1
        have H1 := Lib.hid h1; clear h1
        go_wp2_with fail
        go_roundw
        case rel => exact ⟨k + 1, !b4, by omega, by go_num, rfl, HN.out.2, H1⟩
        case measure => simp [intOf]; omega
      · have g1 : ((x.toNat : Int) == 255) = false := by simp; omega
        by_cases h9 : x.toNat = 9
        · obtain rfl : x = 9 := UInt8.toNat_inj.1 h9
          have hcs : wr.cell? ⟨g, o + k, none⟩ = some (.int .u8 9) := hcs
          cases b4 with
          | true =>
            have hN : out ++ (escF (l.take (k + 1))).1 = out ++ (escF (l.take k)).1 ++ [9] ∧ true = (escF (l.take (k + 1))).2 := by rw [hst]; simp [stepE, ← hB]
            have HN := Lib.hid hN; clear hN hst hB h255 h9 g1
            generalize out ++ (escF (l.take k)).1 = O at *
            go_wp2_with fail
            refine (hrel.out.byte 9 9 rfl (by have := HLM.out; omega)).mono ?_
            rintro e w1 ⟨rfl, h1⟩
            rw [← HN.out.1] at h1
            have H1 := Lib.hid h1; clear h1
            go_wp2_with fail
            go_roundw
            case rel => exact ⟨k + 1, true, by omega, by go_num, rfl, HN.out.2, H1⟩
            case measure => simp [intOf]; omega
          | false =>
            have hN : out ++ (escF (l.take (k + 1))).1 = out ++ (escF (l.take k)).1 ++ [255] ++ [9] ++ [255] ∧ false = (escF (l.take (k + 1))).2 := by rw [hst]; simp [stepE, ← hB]
            have HN := Lib.hid hN; clear hN hst hB h255 h9 g1
            generalize out ++ (escF (l.take k)).1 = O at *
            have hl1 := HLM.out
            go_wp2_with fail
            refine (hrel.out.byte 255 255 rfl (by omega)).mono ?_
            rintro e w1 ⟨rfl, h1⟩
            have c1 : w1.cell? ⟨eb, 0, none⟩ = some (wrV wb) := (h1.cell hel HEN.out).trans HE.out
            have H1 := Lib.hid h1; clear h1
            go_wp2_with fail
            refine (H1.out.byte 9 9 rfl (by simp; omega)).mono ?_
            rintro e w2 ⟨rfl, h2⟩
            have c2 : w2.cell? ⟨eb, 0, none⟩ = some (wrV wb) := (h2.cell hel HEN.out).trans HE.out
            have H2 := Lib.hid h2; clear h2
            go_wp2_with fail
            refine (H2.out.byte 255 255 rfl (by simp; omega)).mono ?_
            rintro e w3 ⟨rfl, h3⟩
            rw [← HN.out.1] at h3
            have H3 := Lib.hid h3; clear h3
            go_wp2_with fail
            go_roundw
            case rel => exact ⟨k + 1, false, by omega, by go_num, rfl, HN.out.2, H3⟩
            case measure => simp [intOf]; omega
        · have g2 : ((x.toNat : Int) == 9) = false := by simp; omega
          have hN : out ++ (escF (l.take (k + 1))).1 = out ++ (escF (l.take k)).1 ++ [x] ∧ b4 = (escF (l.take (k + 1))).2 := by rw [hst, hB]; simp [stepE, h255, h9]
          have HN := Lib.hid hN; clear hN hst hB h255 h9
          generalize out ++ (escF (l.take k)).1 = O at *
          go_wp2_with fail
          refine (hrel.out.byte x x.toNat rfl (by have := HLM.out; omega)).mono ?_
          rintro e w1 ⟨rfl, h1⟩
          rw [← HN.out.1] at h1
          have H1 := Lib.hid h1; clear h1
          go_wp2_with fail
          go_roundw
          case rel => exact ⟨k + 1, b4, by omega, by go_num, rfl, HN.out.2, H1⟩
          case measure => simp [intOf]; omega
    · have hkn : k = n := by omega
      subst hkn
      have hR := hrel.out
      rw [List.take_of_length_le (by have := HS.out.1.1; omega)] at hR
      have HR := Lib.hid hR
      clear hR hrel hb4
      go_wp2_with fail
      go_end0
      exact ⟨rfl, HR.out⟩
end Go.Proofs.YtejjmonaoajlgaaDoor
