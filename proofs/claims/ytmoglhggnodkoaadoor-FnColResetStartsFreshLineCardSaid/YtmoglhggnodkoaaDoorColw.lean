/-
  n010_113's colCounter: Write, WriteString, Reset, and the sink's own functions.
-/
import Derived.Test.YtmoglhggnodkoaaDoorCol
import Derived.Test.YtmoglhggnodkoaaDoorBws
namespace Go.Proofs.YtmoglhggnodkoaaDoor
open Go.RowKit

/-- '[]byte(s)': the new row is the last block. -/
theorem wpList_bytesN {w : World} {ops : Array Oper} {rest : List Oper} {o : Oper} {a : Act} {Q : Exit → Act → World → Prop} (hgd : o.guard = none) (x : Operand) (ho : o.op = .convert 9 28 x) (s : ByteArray) (hx : a.eval x = .string s)
    (h : ∀ cap w', SrcB w' (some ⟨w.heap.size, 0, none⟩) s.size s.data.toList → s.size ≤ cap → Kept [] w w' → w'.heap.size = w.heap.size + 1 → wpList Tryd.prog ops Q rest (a.put o.dst (.slice (some ⟨w.heap.size, 0, none⟩) s.size cap)) w') : wpList Tryd.prog ops Q (o :: rest) a w := by
  refine wpList_plain hgd fun K hK => ?_
  have hrun := Lib.run_convert_string_bytes (P := Tryd.prog) w 9 28 5 s (u := .string) (by kernel_rfl) u8_und (by kernel_rfl)
  have hs : SrcB (Lib.bytesWorld w 5 s) (some ⟨w.heap.size, 0, none⟩) s.size s.data.toList := by
    refine ⟨rfl, fun _ => ⟨w.heap.size, 0, rfl, by rw [Lib.bytesWorld_size]; omega, fun j c hj => ?_⟩⟩
    have hlt : j < s.size := (List.getElem?_eq_some_iff.1 hj).1
    rw [Nat.zero_add, Lib.bytesWorld_cell w _ s j hlt]
    simp only [List.getD_eq_getElem?_getD, hj]
    rfl
  have hcap : s.size ≤ grownCap w s.size 0 5 := by unfold grownCap Question.cut; simp
  unfold Oper.wp
  simp only [execOp, ho, hx, Sem.run_bind, hrun, Result.andThen_ok]
  exact hK _ _ (h _ _ hs hcap (kept_bytesWorld w _ s) (Lib.bytesWorld_size ..))

def foldC (col : Int) (ls : Bool) (l : List UInt8) : Int × Bool := l.foldl stepC (col, ls)
theorem foldC_snoc (col : Int) (ls : Bool) (l : List UInt8) (x : UInt8) : foldC col ls (l ++ [x]) = stepC (foldC col ls l) x := by simp [foldC]
theorem foldC_app (col : Int) (ls : Bool) (l m : List UInt8) : foldC col ls (l ++ m) = foldC (foldC col ls l).1 (foldC col ls l).2 m := by simp [foldC]
theorem foldC_bound (l : List UInt8) : ∀ (col : Int) (ls : Bool), 0 ≤ col → 0 ≤ (foldC col ls l).1 ∧ (foldC col ls l).1 ≤ col + l.length := by
  induction l with
  | nil => intro col ls h; exact ⟨h, by simp [foldC]⟩
  | cons x l ih =>
    intro col ls h
    have e : foldC col ls (x :: l) = foldC (stepC (col, ls) x).1 (stepC (col, ls) x).2 l := by simp [foldC]
    have hb : 0 ≤ (stepC (col, ls) x).1 ∧ (stepC (col, ls) x).1 ≤ col + 1 := by
      unfold stepC; split <;> simp <;> omega
    have := ih (stepC (col, ls) x).1 (stepC (col, ls) x).2 hb.1
    rw [e]
    simp only [List.length_cons]
    omega
theorem take_snoc {l : List UInt8} {k : Nat} {x : UInt8} (h : l[k]? = some x) : l.take (k + 1) = l.take k ++ [x] := by
  rw [List.take_add_one, h]; rfl

set_option maxRecDepth 100000 in
set_option maxHeartbeats 800000 in
theorem colwrite {w : World} {wb rb b : Nat} {col : Int} {ls : Bool} {row : Option Nat} {bs pend : List UInt8} (h : Sk w wb rb b col ls row bs pend) (sg so n c : Nat) (p : List UInt8) (hpl : p.length = n) (hsg : 0 < n → sg < w.heap.size) (hp : ∀ j x, p[j]? = some x → w.cell? ⟨sg, so + j, none⟩ = some (By x))
    (hA : sg ∉ wb :: rb :: b :: row.toList) (hnc : n ≤ c) (hc : c ≤ 9223372036854775807) (hlim : (bs ++ pend).length + n ≤ 100000000000) (hc1 : 0 ≤ col) (hc2 : col ≤ 100000000000) :
    Calls Tryd.prog 31 #[.pointer (some ⟨b, 0, none⟩), .slice (some ⟨sg, so, none⟩) n c] w fun e w' => e = .returned (.tuple #[.int .i64 n, .nilIface]) ∧ ∃ row' bs' pend', Sk w' wb rb b (foldC col ls p).1 (foldC col ls p).2 row' bs' pend' ∧ bs' ++ pend' = bs ++ pend ++ p ∧ Mv wb rb b row row' w w' := by
  have hst : Hid (Sk w wb rb b (foldC col ls (p.take 0)).1 (foldC col ls (p.take 0)).2 row bs pend ∧ Kept [b] w w) := ⟨h, Kept.refl _ _⟩
  have HPL := Lib.hid hpl; have HSG := Lib.hid hsg; have HA := Lib.hid hA; have HP := Lib.hid hp
  clear h hpl hsg hA hp
  go_enter Tryd.func31, Tryd.ntmps31
  go_wp2_with fail
  go_loopw [10] (fun i wr => ∃ k : Nat, k ≤ n ∧ i = .int .i64 k ∧ Hid (Sk wr wb rb b (foldC col ls (p.take k)).1 (foldC col ls (p.take k)).2 row bs pend ∧ Kept [b] w wr)) (fun i _ => n - (intOf i).toNat)
  case atStart => exact ⟨0, Nat.zero_le _, rfl, hst⟩
  case round =>
    obtain ⟨k, hk, rfl, hrel⟩ := hrel
    clear hst
    by_cases hlt : k < n
    · obtain ⟨x, hx⟩ : ∃ x, p[k]? = some x := ⟨p[k]'(by have := HPL.out; omega), List.getElem?_eq_getElem _⟩
      have hsb : sg ≠ b := by intro e; apply HA.out; simp [e]
      have hcs : wr.cell? ⟨sg, so + k, none⟩ = some (.int .u8 x.toNat) := (hrel.out.2.cell (p := ⟨sg, so + k, none⟩) (HSG.out (by omega)) (by simp; exact hsb)).trans (HP.out k x hx)
      have hb := foldC_bound (p.take k) col ls hc1
      have hbl : (p.take k).length ≤ k := by simp; omega
      have hcon := addbyte hrel.out.1 x (by omega) (by omega)
      rw [← show foldC col ls (p.take (k + 1)) = stepC ((foldC col ls (p.take k)).1, (foldC col ls (p.take k)).2) x by rw [take_snoc hx, foldC_snoc]] at hcon
      have HCON := Lib.hid hcon; have HK := Lib.hid hrel.out.2
      clear hcon hrel hb hbl hx
      go_wp2_with fail
      refine HCON.out.mono ?_
      rintro e w' ⟨rfl, h1, h2⟩
      have HR : Hid (Sk w' wb rb b (foldC col ls (p.take (k + 1))).1 (foldC col ls (p.take (k + 1))).2 row bs pend ∧ Kept [b] w w') := ⟨h1, HK.out.trans h2⟩
      clear h1 h2 HCON
      go_wp2_with fail
      go_roundw
      case rel => exact ⟨k + 1, by omega, by go_num, HR⟩
      case measure => simp [intOf]; omega
    · have hkn : k = n := by omega
      subst hkn
      have h1 := hrel.out.1
      rw [List.take_of_length_le (by have := HPL.out; omega)] at h1
      have hc0 := sk_c0 h1
      have hk1 := hrel.out.2
      have hsz := hk1.size
      have hcon := bw_write h1 sg so k c p HPL.out (fun h => by have := HSG.out h; omega) (fun j x hj => by
        have hj2 : j < p.length := (List.getElem?_eq_some_iff.1 hj).1
        have hsb : sg ≠ b := by intro e; apply HA.out; simp [e]
        exact (hk1.cell (p := ⟨sg, so + j, none⟩) (HSG.out (by have := HPL.out; omega)) (by simp; exact hsb)).trans (HP.out j x hj)) HA.out hnc hc hlim
      have HCON := Lib.hid hcon; have HK := Lib.hid hk1
      clear hcon h1 hk1 hrel
      go_wp2_with fail
      refine HCON.out.mono ?_
      rintro e w' ⟨rfl, row', bs', pend', h2, h3, h4⟩
      have HR : Hid (∃ row' bs' pend', Sk w' wb rb b (foldC col ls p).1 (foldC col ls p).2 row' bs' pend' ∧ bs' ++ pend' = bs ++ pend ++ p ∧ Mv wb rb b row row' w w') := ⟨row', bs', pend', h2, h3, (Mv.of (HK.out.weaken (by simp))).trans h4⟩
      clear h2 h3 h4 HCON
      go_wp2_with fail
      go_ret2
      exact ⟨rfl, HR.out⟩

set_option maxRecDepth 100000 in
theorem colwrite_nil {w : World} {wb rb b : Nat} {col : Int} {ls : Bool} {row : Option Nat} {bs pend : List UInt8} (h : Sk w wb rb b col ls row bs pend) :
    Calls Tryd.prog 31 #[.pointer (some ⟨b, 0, none⟩), .slice none 0 0] w fun e w' => e = .returned (.tuple #[.int .i64 0, .nilIface]) ∧ Sk w' wb rb b col ls row bs pend ∧ Mv wb rb b row row w w' := by
  have c0 := sk_c0 h
  have HCON := Lib.hid (bw_write_nil h)
  clear h
  go_enter Tryd.func31, Tryd.ntmps31
  go_wp2_with fail
  refine wp_loop_once ?_
  go_wp2_with fail
  refine HCON.out.mono ?_
  rintro e w' ⟨rfl, h2⟩
  have HR := Lib.hid h2; clear h2
  go_wp2_with fail
  go_ret2
  exact ⟨rfl, HR.out⟩

set_option maxRecDepth 100000 in
set_option maxHeartbeats 800000 in
theorem colwriteString {w : World} {wb rb b : Nat} {col : Int} {ls : Bool} {row : Option Nat} {bs pend : List UInt8} (h : Sk w wb rb b col ls row bs pend) (s : ByteArray) (n : Nat) (p : List UInt8) (hps : p = s.data.toList) (hpl : p.length = n)
    (hlim : (bs ++ pend).length + n ≤ 100000000000) (hc1 : 0 ≤ col) (hc2 : col ≤ 100000000000) :
    Calls Tryd.prog 26 #[.pointer (some ⟨b, 0, none⟩), .string s] w fun e w' => e = .returned (.tuple #[.int .i64 n, .nilIface]) ∧ ∃ row' bs' pend', Sk w' wb rb b (foldC col ls p).1 (foldC col ls p).2 row' bs' pend' ∧ bs' ++ pend' = bs ++ pend ++ p ∧ Mv wb rb b row row' w w' := by
  have hss : s.size = n := by rw [← hpl, hps]; rfl
  have HPS := Lib.hid hps; have HPL := Lib.hid hpl; have H := Lib.hid h
  have hsn1 : s.size ≤ n := by omega
  have hsn2 : n ≤ s.size := by omega
  have HSS := Lib.hid hss
  clear h hps hpl hss
  go_enter Tryd.func26, Tryd.ntmps26
  go_wp2_with (refine wpList_bytesN rfl (.tmp 8) rfl s rfl ?_; intro cap w1 hs1 hcap1 hk1 hz1; have HS1 := Lib.hid hs1; have HK1 := Lib.hid hk1; have HZ1 := Lib.hid hz1; clear hs1 hk1 hz1)
  have hst0 : Sk w1 wb rb b (foldC col ls (p.take 0)).1 (foldC col ls (p.take 0)).2 row bs pend := H.out.kept HK1.out (by simp) (by simp) (by simp) (by simp)
  have hst : Hid (Sk w1 wb rb b (foldC col ls (p.take 0)).1 (foldC col ls (p.take 0)).2 row bs pend ∧ Kept [b] w1 w1) := ⟨hst0, Kept.refl _ _⟩
  clear hst0
  go_loopw [11] (fun i wr => ∃ k : Nat, k ≤ s.size ∧ i = .int .i64 k ∧ Hid (Sk wr wb rb b (foldC col ls (p.take k)).1 (foldC col ls (p.take k)).2 row bs pend ∧ Kept [b] w1 wr)) (fun i _ => s.size - (intOf i).toNat)
  case atStart => exact ⟨0, Nat.zero_le _, rfl, hst⟩
  case round =>
    obtain ⟨k, hk, rfl, hrel⟩ := hrel
    clear hst
    by_cases hlt : k < s.size
    · obtain ⟨x, hx⟩ : ∃ x, p[k]? = some x := ⟨p[k]'(by have := HPL.out; omega), List.getElem?_eq_getElem _⟩
      have hcs : wr.cell? ⟨w.heap.size, k, none⟩ = some (.int .u8 x.toNat) := by
        obtain ⟨sg, so, had, hgl, hcc⟩ := HS1.out.2 (by omega)
        cases had
        have hbl := H.out.bf.lt
        have h1 := hcc k x (HPS.out ▸ hx)
        rw [Nat.zero_add] at h1
        exact (hrel.out.2.cell (p := ⟨w.heap.size, k, none⟩) hgl (by simp; omega)).trans h1
      have hb := foldC_bound (p.take k) col ls hc1
      have hbl : (p.take k).length ≤ k := by simp; omega
      have hcon := addbyte hrel.out.1 x (by omega) (by omega)
      rw [← show foldC col ls (p.take (k + 1)) = stepC ((foldC col ls (p.take k)).1, (foldC col ls (p.take k)).2) x by rw [take_snoc hx, foldC_snoc]] at hcon
      have HCON := Lib.hid hcon; have HK := Lib.hid hrel.out.2
      clear hcon hrel hb hbl hx
      go_wp2_with fail
      refine HCON.out.mono ?_
      rintro e w' ⟨rfl, h1, h2⟩
      have HR : Hid (Sk w' wb rb b (foldC col ls (p.take (k + 1))).1 (foldC col ls (p.take (k + 1))).2 row bs pend ∧ Kept [b] w1 w') := ⟨h1, HK.out.trans h2⟩
      clear h1 h2 HCON
      go_wp2_with fail
      go_roundw
      case rel => exact ⟨k + 1, by omega, by go_num, HR⟩
      case measure => simp [intOf]; omega
    · have h1 := hrel.out.1
      rw [List.take_of_length_le (by have := HPL.out; omega)] at h1
      have hc0 := sk_c0 h1
      have hk1 := HK1.out.weaken (S' := [b]) (by simp) |>.trans hrel.out.2
      have hcon := bw_writeString h1 s n p HPS.out HPL.out hlim
      have HCON := Lib.hid hcon; have HK := Lib.hid hk1
      clear hcon h1 hk1 hrel
      go_wp2_with fail
      refine HCON.out.mono ?_
      rintro e w' ⟨rfl, row', bs', pend', h2, h3, h4⟩
      have HR : Hid (∃ row' bs' pend', Sk w' wb rb b (foldC col ls p).1 (foldC col ls p).2 row' bs' pend' ∧ bs' ++ pend' = bs ++ pend ++ p ∧ Mv wb rb b row row' w w') := ⟨row', bs', pend', h2, h3, (Mv.of (HK.out.weaken (by simp))).trans h4⟩
      clear h2 h3 h4 HCON
      go_wp2_with fail
      go_ret2
      exact ⟨rfl, HR.out⟩
end Go.Proofs.YtmoglhggnodkoaaDoor
