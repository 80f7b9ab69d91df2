/-
  n010_56: two bytes and a tail, joined.
-/
import Derived.Test.YtbkhlidamhblbaaFmtPe
import Derived.Test.YtbkhlidamhblbaaFmtApl
import Derived.Lib.LazyBuf
import Derived.Lib.ConvBytes
namespace Go.Proofs.YtbkhlidamhblbaaFmt
open Go.RowKit

theorem conv_str (w : World) (A : Option Addr) (n c : Nat) (l : List UInt8) (hs : SrcB w A n l) (hA : ∃ g o, A = some ⟨g, o, none⟩) : (convert 28 9 (.slice A n c)).run Tryf.prog w = .ok (.string ⟨l.toArray⟩) w := by
  have hu : Tryf.prog.underlying 9 = some .string := by kernel_rfl
  have h8 : Tryf.prog.underlying 5 = some (.int .u8) := by kernel_rfl
  obtain ⟨g, o, rfl⟩ := hA
  have hl := hs.1
  subst hl
  refine run_convert_bytes_back (P := Tryf.prog) w 28 9 5 ⟨g, o, none⟩ c l u8_und h8 hu ?_
  intro j hj
  obtain ⟨g', o', e, _, hcc⟩ := hs.2 (by omega)
  cases e
  rw [addr_add]
  exact hcc j _ (List.getElem?_eq_getElem hj)

theorem make56 (m : Nat) (hm : m ≤ 10000000) (w : World) : (Instr.makeSlice 28 (.int .i64 0) (.int .i64 m)).run Tryf.prog w = .ok (.slice (some ⟨w.heap.size, 0, none⟩) 0 m) (w.alloc (.cells (List.replicate m (.int .u8 0)).toArray 5)) := by
  obtain ⟨i, hi, hz, h1, hby⟩ := u8_info
  have hb : m * i.bytes ≤ m * 16 := Nat.mul_le_mul_left _ (by omega)
  have hb2 : i.bytes * m ≤ 16 * m := Nat.mul_le_mul_right _ (by omega)
  have := run_make w _ _ i _ u8_und hi hz .i64 .i64 0 m (by omega) (by omega) (by omega) (by omega)
  rw [this]
  have e : madeCells (Value.int .u8 0).cells m = (List.replicate m (Value.int .u8 0)).toArray := by
    apply Array.ext
    · simp [madeCells, Value.cells]
    · intro i h1 h2
      simp [madeCells, Value.cells, Nat.mod_one]
  simp [h1, e]
theorem own56 (m : Nat) (hm : m ≤ 10000000) (w : World) : Own (w.alloc (.cells (List.replicate m (.int .u8 0)).toArray 5)) (.slice (some ⟨w.heap.size, 0, none⟩) 0 m) [] :=
  ⟨rfl, .inr ⟨w.heap.size, m, _, rfl, Nat.zero_le _, heap_alloc_new w _, Nat.zero_le _, by unfold maxLen; omega, by simp, by simp [Bys]⟩⟩

theorem wpList_app_z {w : World} {ops : Array Oper} {rest : List Oper} {o : Oper} {a : Act} {Q : Exit → Act → World → Prop} {z : Nat} (hz : w.heap.size = z) (hgd : o.guard = none) (s x : Operand)
    (ho : o.op = .call { callee := .builtin .append, args := #[s, x], argTypes := #[28, 28] })
    (v : Value) (l : List UInt8) (hs : a.eval s = v) (hown : Own w v l) (m c : Nat) (cs : Array Value) (p : List UInt8) (hx : a.eval x = .slice (some ⟨z, 0, none⟩) m c) (hp : p.length = m) (hm : 0 < m) (hcs : cs = (Bys p).toArray) (hlim : l.length + m ≤ 1000000000000)
    (h : ∀ g cap w', Own w' (.slice (some ⟨g, 0, none⟩) (l.length + m) cap) (l ++ p) → (v.ownBlock = some g ∨ w.heap.size ≤ g) → Kept v.ownBlock.toList w w' → wpList Tryf.prog ops Q rest (a.put o.dst (.slice (some ⟨g, 0, none⟩) (l.length + m) cap)) w') : wpList Tryf.prog ops Q (o :: rest) a (w.alloc (.cells cs 5)) := by
  subst hz
  exact wpList_app_lit hgd s x ho v l hs hown m c cs p hx hp hm hcs hlim h

/-- The bytes so far. -/
def Jn (w wr : World) (A : Option Addr) (n c : Nat) (l : List UInt8) : Prop := l.length = n ∧ Own wr (.slice A n c) l ∧ (∀ g ∈ (Value.slice A n c).ownBlock, w.heap.size ≤ g) ∧ Kept [] w wr ∧ ∃ g, A = some ⟨g, 0, none⟩

theorem jn_start {w w1 : World} {ob : Obj} {m g1 c1 : Nat} {x y : UInt8} (ho1 : Own w1 (.slice (some ⟨g1, 0, none⟩) 2 c1) [x, y]) (hn1 : (Value.slice (some ⟨w.heap.size, 0, none⟩) 0 m).ownBlock = some g1 ∨ (w.alloc ob).heap.size ≤ g1) (hk1 : Kept (Value.slice (some ⟨w.heap.size, 0, none⟩) 0 m).ownBlock.toList (w.alloc ob) w1) : Jn w w1 (some ⟨g1, 0, none⟩) 2 c1 [x, y] := by
  have e : (Value.slice (some ⟨w.heap.size, 0, none⟩) 0 m).ownBlock = some w.heap.size := rfl
  rw [e] at hn1 hk1
  have hz : (w.alloc ob).heap.size = w.heap.size + 1 := by simp
  refine ⟨rfl, ho1, fun g hg => ?_, ?_, _, rfl⟩
  · cases hg
    rcases hn1 with h | h
    · cases h; exact Nat.le_refl _
    · exact Nat.le_trans ((Kept.refl [] w).alloc ob).size h
  · exact ((((Kept.refl [] w).alloc ob).weaken (S' := [w.heap.size]) (by simp)).trans hk1).weaken (by simp)

theorem jn_step {w wr w2 : World} {g n c g1 c1 : Nat} {l : List UInt8} {z : UInt8} (h : Jn w wr (some ⟨g, 0, none⟩) n c l) (ho : Own w2 (.slice (some ⟨g1, 0, none⟩) (l.length + 1) c1) (l ++ [z])) (hn : (Value.slice (some ⟨g, 0, none⟩) n c).ownBlock = some g1 ∨ wr.heap.size ≤ g1) (hk : Kept (Value.slice (some ⟨g, 0, none⟩) n c).ownBlock.toList wr w2) : Jn w w2 (some ⟨g1, 0, none⟩) (l.length + 1) c1 (l ++ [z]) := by
  obtain ⟨h1, h2, h3, h4, _⟩ := h
  have e : (Value.slice (some ⟨g, 0, none⟩) n c).ownBlock = some g := rfl
  have hg := h3 g rfl
  rw [e] at hn hk
  refine ⟨by simp, ho, fun g' hg' => ?_, ?_, _, rfl⟩
  · cases hg'
    rcases hn with h | h
    · cases h; exact hg
    · exact Nat.le_trans h4.size h
  · exact ((h4.weaken (S' := [g]) (by simp)).trans hk).weaken (fun y hy => .inr (by simp at hy; omega))

set_option maxRecDepth 100000 in
set_option maxHeartbeats 800000 in
theorem zjoin (x y : UInt8) (s : ByteArray) (w : World) (hs : s.size ≤ 1000000) :
    Calls Tryf.prog 7 #[.int .u8 x.toNat, .int .u8 y.toNat, .string s] w fun e w' => e = .returned (.string ⟨(x :: y :: s.data.toList).toArray⟩) ∧ Kept [] w w' := by
  obtain ⟨m, hm⟩ : ∃ m, m = 2 + s.size := ⟨_, rfl⟩
  have em : (2 : Int) + s.size = m := by rw [hm]; simp
  have hmk := make56 m (by omega)
  have HM := Lib.hid hm
  clear hm
  go_enter Tryf.func7, Tryf.ntmps7
  go_wp2_with (at_builtin; refine wpList_app_z (z := w.heap.size + 1) (by simp) rfl _ _ rfl (.slice (some ⟨w.heap.size, 0, none⟩) 0 m) [] rfl (own56 m (by have := HM.out; omega) w) 2 2 _ [x, y] rfl rfl (by omega) rfl (by simp) ?_; intro g1 cap1 w1 ho1 hn1 hk1; have H1 := Lib.hid (jn_start ho1 hn1 hk1); clear ho1 hn1 hk1)
  go_loopw [7, 8] (fun b i wr => ∃ (k g n c : Nat), k ≤ s.size ∧ i = .int .i64 k ∧ b = .slice (some ⟨g, 0, none⟩) n c ∧ Hid (Jn w wr (some ⟨g, 0, none⟩) n c (x :: y :: s.data.toList.take k))) (fun _ i _ => s.size - (intOf i).toNat)
  case atStart => exact ⟨0, _, _, _, Nat.zero_le _, rfl, rfl, H1⟩
  case round =>
    obtain ⟨k, g, n, c, hk, rfl, rfl, HJ⟩ := hrel
    by_cases hlt : k < s.size
    · have hat := Lib.hid (str_at hlt)
      have hnl := HJ.out.1
      have HNL := Lib.hid hnl
      have hnn : n ≤ 1000010 := by rw [← hnl]; simp; omega
      clear hnl
      go_wp2_with (at_builtin; refine wpList_app_lit rfl _ _ rfl (.slice (some ⟨g, 0, none⟩) n c) (x :: y :: s.data.toList.take k) rfl HJ.out.2.1 1 1 _ [s[k]] rfl rfl (by omega) rfl (by rw [HNL.out]; omega) ?_; intro g2 cap2 w2 ho2 hn2 hk2; have H2 := Lib.hid (jn_step HJ.out ho2 hn2 hk2); clear ho2 hn2 hk2)
      go_roundw
      case rel => exact ⟨k + 1, _, _, _, by omega, by go_num, rfl, Lib.hid (by
        have h2 := H2.out
        have e : s.data.toList.take (k + 1) = s.data.toList.take k ++ [s[k]] := by rw [List.take_add_one, hat.out]; rfl
        have hl : (x :: y :: s.data.toList.take k).length = k + 1 + 1 := by simp; omega
        rw [hl] at h2
        rw [e]
        exact h2)⟩
      case measure => simp [intOf]; omega
    · obtain rfl : k = s.size := by omega
      have hcv := conv_str wr (some ⟨g, 0, none⟩) n c _ HJ.out.2.1.src.1 ⟨_, _, rfl⟩
      have HT : Hid (s.data.toList.take s.size = s.data.toList) := Lib.hid (List.take_of_length_le (Nat.le_refl _))
      rw [HT.out] at hcv
      go_wp2_with fail
      go_ret
      exact ⟨rfl, HJ.out.2.2.2.1⟩
end Go.Proofs.YtbkhlidamhblbaaFmt
