/-
  bufio.Writer over a bytes.Buffer: WriteString, and Write of nil.
-/
import Derived.Test.YtekgjhediaffbaaDoorBww
namespace Go.Proofs.YtekgjhediaffbaaDoor
open Go.RowKit

set_option maxHeartbeats 6400000 in
set_option maxRecDepth 100000 in
theorem buf_writeString {w : World} {T b q : Nat} {R : Nat → Option Value} {row : Option Nat} {bs : List UInt8} (h : Bf w T b q R row bs) (s : ByteArray) (n : Nat) (p : List UInt8) (hpe : p = s.data.toList) (hp : p.length = n) (hn : 0 < n) (hlim : bs.length + n ≤ 1000000000000) :
    Calls Tryd.prog 72 #[.pointer (some ⟨b, q, none⟩), .string s] w fun e w' => e = .returned (.tuple #[.int .i64 n, .nilIface]) ∧ ∃ row', Bf w' T b q R row' (bs ++ p) ∧ (∀ g ∈ row', row' = row ∨ w.heap.size ≤ g) ∧ Kept (b :: row.toList) w w' := by
  obtain ⟨lr, c2⟩ := h.c2
  have f2 := h.free (q + 2)
  have hss : s.size = n := by rw [← hp, hpe]; rfl
  obtain ⟨w0, hw0⟩ : ∃ w0, w0 = w.setCell ⟨b, q + 2, none⟩ (.int .i8 0) := ⟨_, rfl⟩
  have h0 : Bf w0 T b q R row bs := by rw [hw0]; exact h.setLast 0
  have hk0 : Kept [b] w w0 := by rw [hw0]; exact (Kept.refl _ _).setCell (p := ⟨b, q + 2, none⟩) (by simp) _
  have hsz : w0.heap.size = w.heap.size := by rw [hw0]; simp [World.setCell]
  have hpl : p.length = n := hp
  have hend : ∀ w1 g, (row = some g ∨ w.heap.size ≤ g) → ∀ cap cur lr, LibA.Three w1 b q T R (.slice (some ⟨g, 0, none⟩) (bs.length + n) cap) (.int .i64 0) (.int .i8 lr) → w1.heap[g]? = some (.cells cur 5 (0, 0)) → cur.size = cap → cap ≤ maxLen → bs.length + n ≤ cap → cur.toList.take bs.length = Bys bs → g ≠ b → Kept [b] w w1 →
      Ending.returned (.tuple #[.int .i64 (n : Int), .nilIface]) = .returned (.tuple #[.int .i64 n, .nilIface]) ∧ ∃ row', Bf (w1.setRow g (cur.toList.take bs.length ++ Bys p ++ cur.toList.drop (bs.length + n)).toArray) T b q R row' (bs ++ p) ∧ (∀ g ∈ row', row' = row ∨ w.heap.size ≤ g) ∧ Kept (b :: row.toList) w (w1.setRow g (cur.toList.take bs.length ++ Bys p ++ cur.toList.drop (bs.length + n)).toArray) := by
    intro w1 g hgr cap cur lr a1 a2 a3 a4 a5 a6 a7 a8
    obtain ⟨r1, r2⟩ := Rm.done a1 a2 a3 a4 a5 a6 a7 a8 rfl hpl hn
    refine ⟨rfl, some g, r1, fun g' hg' => ?_, r2.weaken ?_⟩
    · cases hg'
      exact hgr.imp (fun e => e.symm) id
    · rcases hgr with e | e
      · rw [e]; simp
      · simp; exact .inr e
  have HEND := Lib.hid hend
  have HW0 := Lib.hid hw0
  have HPE := Lib.hid hpe
  clear hend hp hw0 hpe
  go_enter Tryd.func72, Tryd.ntmps72
  go_wp2_with fail
  rw [← HW0.out]
  refine (buf_try h0 n hn).mono ?_
  rintro e w1 (⟨rfl, g, hrow, cap, cur, lr1, a1, a2, a3, a4, a5, a6, a7, a8⟩ | ⟨rfl, rfl, hgrow⟩)
  · have hk1 := hk0.trans a8
    have d0 : w1.cell? ⟨b, q, none⟩ = some (.slice (some ⟨g, 0, none⟩) (bs.length + n) cap) := a1.c0
    have hcp := copy_str w1 g bs.length n cap s cur p HPE.out a2 a5 a3 hpl
    have hfin := HEND.out w1 g (.inl hrow) cap cur lr1 a1 a2 a3 a4 a5 a6 a7 hk1
    have HF := Lib.hid hfin
    have hne : ¬ cap = bs.length := by omega
    unfold maxLen at a4
    clear hfin a2 a3 a6 a8 hk1 hrow
    go_wp2_with fail
    go_ret2
    refine ⟨rfl, ?_⟩
    rw [← List.append_assoc]
    exact HF.out.2
  · have hg1 := hgrow (by omega)
    clear hgrow
    go_wp2_with fail
    refine hg1.mono ?_
    rintro e w2 ⟨rfl, g, hrow, cap, cur, lr1, a1, a2, a3, a4, a5, a6, a7, a8⟩
    have hk1 := hk0.trans a8
    have d0 : w2.cell? ⟨b, q, none⟩ = some (.slice (some ⟨g, 0, none⟩) (bs.length + n) cap) := a1.c0
    have hcp := copy_str w2 g bs.length n cap s cur p HPE.out a2 a5 a3 hpl
    have hfin := HEND.out w2 g (.inr (by omega)) cap cur lr1 a1 a2 a3 a4 a5 a6 a7 hk1
    have HF := Lib.hid hfin
    have hne : ¬ cap = bs.length := by omega
    unfold maxLen at a4
    clear hfin a2 a3 a6 a8 hk1 hrow
    go_wp2_with fail
    go_ret2
    refine ⟨rfl, ?_⟩
    rw [← List.append_assoc]
    exact HF.out.2

/-- copy of a string, as much of it as there is room for. -/
theorem run_copy_str_part (w : World) (g o dLen dCap : Nat) (s : ByteArray) (L : List Value) (cs : List UInt8) (hg : w.heap[g]? = some (.cells L.toArray 5 (0, 0))) (hcs : cs = s.data.toList.take dLen) (hfit : o + cs.length ≤ L.length) :
    (Builtin.copy_ #[22, 9] 3 #[.slice (some ⟨g, o, none⟩) dLen dCap, .string s]).run Tryd.prog w = .ok (goInt cs.length) (w.setRow g (L.take o ++ Bys cs ++ L.drop (o + cs.length)).toArray) := by
  have hst := run_storeCells_at Tryd.prog g o 5 (Bys cs) 0 L.toArray w hg (by rw [Bys_length]; simpa using hfit) (Bys_one _)
  have hcl : cs.length = Nat.min s.size dLen := by rw [hcs, List.length_take]; show min dLen s.size = min s.size dLen; omega
  have htk : List.take (Nat.min s.size dLen) (List.map (fun b : UInt8 => Value.int IntKind.u8 (b.toNat : Int)) s.data.toList) = Bys cs := by
    rw [hcs, ← List.map_take]
    show _ = List.map By _
    have e : List.take (Nat.min s.size dLen) s.data.toList = List.take dLen s.data.toList := by
      show List.take (min s.size dLen) s.data.toList = _
      rcases Nat.le_total s.size dLen with h | h
      · rw [Nat.min_eq_left h, List.take_of_length_le (l := s.data.toList) (i := dLen) h]; exact List.take_of_length_le (Nat.le_refl _)
      · rw [Nat.min_eq_right h]
    rw [e]; rfl
  rw [Bys_length] at hst
  simp only [Nat.add_zero] at hst
  obtain ⟨i, h1, h2, h3, h4⟩ := u8_info
  simp [Builtin.copy_, run_underlying u8_und, Builtin.lenOf, Builtin.firstCells, sizeOf, typeInfo, h1]
  rw [htk, hst, hcl]
  simp [Result.andThen]
theorem run_copy_str_none (w : World) (d : Option Addr) (dLen dCap : Nat) (s : ByteArray) (hn : Nat.min s.size dLen = 0) :
    (Builtin.copy_ #[22, 9] 3 #[.slice d dLen dCap, .string s]).run Tryd.prog w = .ok (goInt 0) w := by
  obtain ⟨i, h1, h2, h3, h4⟩ := u8_info
  cases d <;> simp [Builtin.copy_, run_underlying u8_und, Builtin.lenOf, Builtin.firstCells, sizeOf, typeInfo, h1, hn, storeCells]

theorem copy_in_str {w : World} {wb rb : Nat} {wv : Value} {pend : List UInt8} (h : Wb w wb rb wv pend) (s : ByteArray) (p cs : List UInt8) (hm : s.data.toList = p) (hcs : cs = p.take (4096 - pend.length)) :
    ∃ w', (Builtin.copy_ #[22, 9] 3 #[.slice (some (fromA rb 0 4096 pend.length)) (4096 - pend.length) (4096 - pend.length), .string s]).run Tryd.prog w = .ok (goInt cs.length) w' ∧ Kept [rb] w w' ∧
      ∃ L : List Value, w'.heap[rb]? = some (.cells L.toArray 5 (0, 0)) ∧ L.length = 4096 ∧ L.take pend.length = Bys pend ∧ L.take (pend ++ cs).length = Bys (pend ++ cs) := by
  have hle := h.le
  have hss : s.size = p.length := by rw [← hm]; rfl
  have hcl : cs.length = min s.size (4096 - pend.length) := by rw [hcs, List.length_take, hss]; omega
  obtain ⟨L, h1, h2, h3⟩ := h.row
  by_cases h0 : cs.length = 0
  · obtain rfl : cs = [] := List.eq_nil_of_length_eq_zero h0
    refine ⟨w, run_copy_str_none w _ _ _ _ (by show min _ _ = 0; omega), Kept.refl _ _, L, h1, h2, h3, by simpa using h3⟩
  · have e1 : fromA rb 0 4096 pend.length = ⟨rb, pend.length, none⟩ := by unfold fromA; rw [if_neg (by omega)]; simp
    have hr := run_copy_str_part w rb pend.length (4096 - pend.length) (4096 - pend.length) s L cs h1 (by rw [hcs, hm]) (by omega)
    refine ⟨_, by rw [e1]; exact hr, (Kept.refl _ _).setRow (by simp) _, _, setRow_heap _ _ _ _ _ _ h1, ?_, ?_, ?_⟩
    · simp; omega
    · show List.take pend.length (L.take pend.length ++ Bys cs ++ L.drop (pend.length + cs.length)) = _
      rw [h3, List.append_assoc]; exact List.take_left' (by simp)
    · show List.take (pend ++ cs).length (L.take pend.length ++ Bys cs ++ L.drop (pend.length + cs.length)) = _
      rw [h3]
      rw [List.take_left' (by simp)]; simp [Bys]

theorem assert_sw (b q : Nat) (w : World) : (Instr.typeAssert (bufV b q) 56 103 true).run Tryd.prog w = .ok (.tuple #[bufV b q, .bool true]) w := by kernel_rfl
theorem method_writeString (k : Nat) (a : Addr) (w : World) : (method (k + 1) 27 (.pointer (some a)) "WriteString").run Tryd.prog w = .ok (72, .pointer (some a)) w := by kernel_rfl
theorem nil_ahead_writeString (k : Nat) (a : Addr) (w : World) : (nilAhead (k + 1) 27 (.pointer (some a)) "WriteString").run Tryd.prog w = .ok (some false) w := by kernel_rfl

/-- WriteString's loop: k bytes are through; s is the rest. -/
def Ws (w0 wr : World) (wb rb T b q : Nat) (R : Nat → Option Value) (row0 : Option Nat) (out : List UInt8) (s : ByteArray) (k : Nat) (p : List UInt8) : Prop :=
  ∃ row bs pend, St wr wb rb T b q R row bs pend ∧ bs ++ pend = out ++ p.take k ∧ Mv wb rb b row0 row w0 wr ∧ s.data.toList = p.drop k


set_option maxRecDepth 100000 in
theorem bw_write_nil {w : World} {wb rb T b q : Nat} {R : Nat → Option Value} {row : Option Nat} {bs pend : List UInt8} (h : St w wb rb T b q R row bs pend) :
    Calls Tryd.prog 64 #[.pointer (some ⟨wb, 0, none⟩), .slice none 0 0] w fun e w' => e = .returned (.tuple #[.int .i64 0, .nilIface]) ∧ St w' wb rb T b q R row bs pend ∧ Mv wb rb b row row w w' := by
  have hle := h.wr.le
  have q6 := fun w => slice_from rb 0 4096 4096 pend.length hle w
  have q7 : ∀ w, (Builtin.copy_ #[22, 22] 3 #[.slice (some (fromA rb 0 4096 pend.length)) (4096 - pend.length) (4096 - pend.length), .slice none 0 0]).run Tryd.prog w = .ok (goInt 0) w := fun w => run_copy_none w _ _ _ 5 _ _ _ _ _ _ u8_und u8info (by simp)
  have H := Lib.hid h; clear h
  go_enter Tryd.func64, Tryd.ntmps64
  go_wp2_with fail
  refine wp_loop_once ?_
  go_wp2_with fail
  refine (avail H.out.wr).mono ?_
  rintro e w1 ⟨rfl, kk, hw1⟩
  have h2 : St w1 wb rb T b q R row bs pend := by rw [hw1]; exact H.out.drewN kk
  have hm2 : Mv wb rb b row row w w1 := by rw [hw1]; exact Mv.of ((Kept.refl _ _).drewN kk)
  have c0 := h2.wr.c0; have c1 := h2.wr.c1; have c2 := h2.wr.c2; have f2 := h2.wr.free 2
  have H2 := Lib.hid h2; have HM2 := Lib.hid hm2; clear h2 hm2 hw1
  go_wp2_with fail
  refine wp_region_tail 10 (by kernel_rfl) (by kernel_rfl) ?_
  simp only [List.take_succ_cons, List.take_zero, List.drop_succ_cons, List.drop_zero]
  repeat still_step
  refine wpStill_nil ?_
  go_wp2_with fail
  go_ret2
  refine ⟨rfl, ?_⟩
  have h3 := H2.out.drew
  have h4 : Wb (w1.drew.setCell ⟨wb, 2, none⟩ (.int .i64 pend.length)) wb rb (bufV b q) pend := h3.wr.setN pend _ rfl h3.wr.row hle
  have hk : Kept [wb] w1.drew (w1.drew.setCell ⟨wb, 2, none⟩ (.int .i64 pend.length)) := (Kept.refl _ _).setCell (p := ⟨wb, 2, none⟩) (by simp) _
  exact ⟨⟨h4, h3.bf.kept hk (by simp; exact Ne.symm h3.d1) (fun g hg => by simp; exact (h3.d3 g hg).1), h3.d1, h3.d2, h3.d3⟩, HM2.out.trans (Mv.of (((Kept.refl _ _).drew).trans (hk.weaken (by simp))))⟩

set_option maxRecDepth 100000 in
set_option maxHeartbeats 3200000 in
theorem bw_writeString {w : World} {wb rb T b q : Nat} {R : Nat → Option Value} {row : Option Nat} {bs pend : List UInt8} (h : St w wb rb T b q R row bs pend) (s : ByteArray) (n : Nat) (p : List UInt8) (hps : p = s.data.toList) (hpl : p.length = n) (hlim : (bs ++ pend).length + n ≤ 100000000000) :
    Calls Tryd.prog 66 #[.pointer (some ⟨wb, 0, none⟩), .string s] w fun e w' => e = .returned (.tuple #[.int .i64 n, .nilIface]) ∧ ∃ row' bs' pend', St w' wb rb T b q R row' bs' pend' ∧ bs' ++ pend' = bs ++ pend ++ p ∧ Mv wb rb b row row' w w' := by
  have hst : Hid (Ws w w wb rb T b q R row (bs ++ pend) s 0 p) := ⟨row, bs, pend, h, by simp, Mv.refl _ _ _ _ _, by simpa using hps.symm⟩
  have hss : s.size = n := by rw [← hpl, hps]; rfl
  have HPL := Lib.hid hpl
  clear h hps hpl
  have q4 := fun k w => method_write k ⟨b, q, none⟩ w
  have q5 := fun k w => nil_ahead_write k ⟨b, q, none⟩ w
  generalize hout : bs ++ pend = out at *
  clear hout
  go_enter Tryd.func66, Tryd.ntmps66
  go_wp2_with fail
  go_loopw [1, 6, 7, 8] (fun s1 s6 s7 s8 wr => ∃ (k : Nat) (s : ByteArray), s1 = .string s ∧ (s6 = .nilIface ∨ s6 = bufV b q) ∧ s7 = .bool true ∧ s8 = .int .i64 k ∧ k ≤ n ∧ s.size = n - k ∧ Hid (Ws w wr wb rb T b q R row out s k p)) (fun s1 _ _ _ wr => 2 * lenOf s1 + (if pendOf wr wb = 0 then 0 else 1))
  case atStart => exact ⟨0, s, rfl, .inl rfl, rfl, rfl, by omega, by omega, hst⟩
  case round =>
    obtain ⟨k, s, rfl, hs6, rfl, rfl, hk, hsz, hrel⟩ := hrel
    obtain ⟨row1, bs1, pend1, h1, he1, hm1, hp1⟩ := hrel.out
    have hbl : bs1.length + pend1.length = out.length + k := by
      have := congrArg List.length he1
      rw [List.length_append, List.length_append, List.length_take, HPL.out] at this
      omega
    have hle := h1.wr.le
    have HM := Lib.hid hm1; have HE := Lib.hid he1; have HP := Lib.hid hp1; have H1 := Lib.hid h1
    clear hst hrel hm1 he1 hp1 h1
    obtain ⟨m, hm⟩ : ∃ m, n - k = m := ⟨_, rfl⟩
    rw [hm] at hsz
    have hmn1 : k + m ≤ n := by omega
    have hmn2 : n ≤ k + m := by omega
    have HMK := Lib.hid hm; clear hm
    go_wp2_with fail
    refine (avail H1.out.wr).mono ?_
    rintro e w1 ⟨rfl, kk, hw1⟩
    have h2 : St w1 wb rb T b q R row1 bs1 pend1 := by rw [hw1]; exact H1.out.drewN kk
    have hm2 : Mv wb rb b row row1 w w1 := by rw [hw1]; exact HM.out.trans (Mv.of ((Kept.refl _ _).drewN kk))
    have hpd : pendOf wr wb = pend1.length := pendOf_eq H1.out.wr
    have hpm : (p.drop k).length = m := by rw [List.length_drop, HPL.out]; exact HMK.out
    have c0 := h2.wr.c0; have c1 := h2.wr.c1; have c2 := h2.wr.c2; have c3 := h2.wr.c3
    have f0 := h2.wr.free 0; have f2 := h2.wr.free 2
    have HM2 := Lib.hid hm2; have H2 := Lib.hid h2; have HPD := Lib.hid hpd; have HPM := Lib.hid hpm; have HSZ := Lib.hid hsz
    clear h2 hm2 hw1 HM H1 hpd hpm
    by_cases hex : m ≤ 4096 - pend1.length
    · -- there is room: the loop ends
      have q6 := fun w => slice_from rb 0 4096 4096 pend1.length hle w
      obtain ⟨w2, hcp, hk2, hL2⟩ := copy_in_str H2.out.drew.wr s (p.drop k) (p.drop k) HP.out (by rw [List.take_of_length_le]; rw [HPM.out]; exact hex)
      rw [HPM.out] at hcp
      have hps := H2.out.drew
      have hlen : (pend1 ++ p.drop k).length = pend1.length + m := by rw [List.length_append, HPM.out]
      obtain ⟨h3, hk3, hw3⟩ := hps.push (n := (pend1.length : Int) + m) hk2 hL2 (by rw [hlen]; simp) (by omega)
      have d2 := hw3.c2
      have g2 := hw3.free 2
      have H3 := Lib.hid h3; have HK3 := Lib.hid hk3
      clear h3 hk3 hw3 hk2 hL2 hps hlen
      go_wp2_with fail
      refine wp_region_tail 10 (by kernel_rfl) (by kernel_rfl) ?_
      simp only [List.take_succ_cons, List.take_zero, List.drop_succ_cons, List.drop_zero]
      repeat still_step
      refine wpStill_nil ?_
      go_wp2_with fail
      go_ret2
      have hmk := HMK.out
      refine ⟨by congr 3; simp; omega, row1, bs1, pend1 ++ p.drop k, H3.out, ?_, HM2.out.trans (Mv.of (((Kept.refl _ _).drew).trans HK3.out))⟩
      rw [← List.append_assoc, HE.out, List.append_assoc, List.take_append_drop]
    · have hgt : 4096 - pend1.length < m := by omega
      by_cases h0 : pend1.length = 0
      · -- nothing is held back: s goes through at once
        obtain rfl : pend1 = [] := List.eq_nil_of_length_eq_zero h0
        have hcon := buf_writeString H2.out.bf s m (p.drop k) HP.out.symm HPM.out (by omega) (by simp at hbl; omega)
        have HCON := Lib.hid hcon
        clear hcon
        have q4 := fun k w => method_writeString k ⟨b, q, none⟩ w
        have q5 := fun k w => nil_ahead_writeString k ⟨b, q, none⟩ w
        have q7 := fun w => assert_sw b q w
        rcases hs6 with rfl | rfl
        · go_wp2_with fail
          refine (buffered H2.out.wr).mono ?_
          rintro e w' ⟨rfl, rfl⟩
          go_wp2_with fail
          refine (buffered H2.out.wr).mono ?_
          rintro e w' ⟨rfl, rfl⟩
          go_wp2_with fail
          refine HCON.out.mono ?_
          rintro e w2 ⟨rfl, row2, hb2, hr2, hk2⟩
          have hw2 := H2.out.stays hk2
          have d0 := hw2.c0; have g0 := hw2.free 0
          have h3 := H2.out.turn hb2 hr2 hk2 ((Kept.refl [wb] _).setCell (p := ⟨wb, 0, none⟩) (by simp) .nilIface) hw2.setErr
          have H3 := Lib.hid h3
          clear hb2 hr2 hk2 hw2 h3 HCON
          go_wp2_with fail
          go_roundw
          case rel =>
            have hmk := HMK.out
            refine ⟨n, _, rfl, .inr rfl, rfl, by congr 1; omega, by omega, by simp, row2, bs1 ++ p.drop k, [], H3.out.1, ?_, HM2.out.trans H3.out.2, ?_⟩
            · have he := HE.out
              rw [List.append_nil] at he ⊢
              rw [he, List.append_assoc, List.take_append_drop, List.take_of_length_le (by have := HPL.out; omega)]
            · rw [List.drop_of_length_le (by have := HPL.out; omega)]
              simp
          case measure =>
            simp [lenOf]
            split <;> omega
        · go_wp2_with fail
          refine (buffered H2.out.wr).mono ?_
          rintro e w' ⟨rfl, rfl⟩
          go_wp2_with fail
          refine (buffered H2.out.wr).mono ?_
          rintro e w' ⟨rfl, rfl⟩
          go_wp2_with fail
          refine HCON.out.mono ?_
          rintro e w2 ⟨rfl, row2, hb2, hr2, hk2⟩
          have hw2 := H2.out.stays hk2
          have d0 := hw2.c0; have g0 := hw2.free 0
          have h3 := H2.out.turn hb2 hr2 hk2 ((Kept.refl [wb] _).setCell (p := ⟨wb, 0, none⟩) (by simp) .nilIface) hw2.setErr
          have H3 := Lib.hid h3
          clear hb2 hr2 hk2 hw2 h3 HCON
          go_wp2_with fail
          go_roundw
          case rel =>
            have hmk := HMK.out
            refine ⟨n, _, rfl, .inr rfl, rfl, by congr 1; omega, by omega, by simp, row2, bs1 ++ p.drop k, [], H3.out.1, ?_, HM2.out.trans H3.out.2, ?_⟩
            · have he := HE.out
              rw [List.append_nil] at he ⊢
              rw [he, List.append_assoc, List.take_append_drop, List.take_of_length_le (by have := HPL.out; omega)]
            · rw [List.drop_of_length_le (by have := HPL.out; omega)]
              simp
          case measure =>
            simp [lenOf]
            split <;> omega
      · -- the room is filled up and flushed
        obtain ⟨av, hav⟩ : ∃ av, av = 4096 - pend1.length := ⟨_, rfl⟩
        have hcl : ((p.drop k).take av).length = av := by rw [List.length_take, HPM.out]; omega
        have q6 := fun w => slice_from rb 0 4096 4096 pend1.length hle w
        obtain ⟨w2, hcp, hk2, hL2⟩ := copy_in_str H2.out.drew.wr s (p.drop k) ((p.drop k).take av) HP.out (by rw [hav])
        rw [hcl] at hcp
        have hps := H2.out.drew
        have hlen : (pend1 ++ (p.drop k).take av).length = pend1.length + av := by rw [List.length_append, hcl]
        obtain ⟨h3, hk3, hw3⟩ := hps.push (n := (pend1.length : Int) + av) hk2 hL2 (by rw [hlen]; simp) (by omega)
        have d2 := hw3.c2
        have g2 := hw3.free 2
        have hav1 : pend1.length + av ≤ 4096 := by omega
        have hav2 : av < m := by omega
        have hf3 := flush h3 (by omega)
        have H3 := Lib.hid h3; have HK3 := Lib.hid hk3; have HF3 := Lib.hid hf3; have HAV := Lib.hid hav; have HCL := Lib.hid hcl
        clear h3 hk3 hw3 hk2 hL2 hps hlen hf3 hav hcl
        go_wp2_with fail
        refine (buffered H2.out.wr).mono ?_
        rintro e w' ⟨rfl, rfl⟩
        go_wp2_with fail
        refine (buffered H2.out.wr).mono ?_
        rintro e w' ⟨rfl, rfl⟩
        go_wp2_with fail
        refine wp_region_tail 10 (by kernel_rfl) (by kernel_rfl) ?_
        simp only [List.take_succ_cons, List.take_zero, List.drop_succ_cons, List.drop_zero]
        repeat still_step
        refine wpStill_nil ?_
        go_wp2_with fail
        refine HF3.out.mono ?_
        rintro e w4 ⟨rfl, row4, h4, hm4⟩
        have hm5 := HM2.out.trans ((Mv.of (((Kept.refl _ _).drew).trans HK3.out)).trans hm4)
        have H4 := Lib.hid h4; have HM5 := Lib.hid hm5; have HS6 := Lib.hid hs6
        clear h4 hm4 hm5 hcp q6 HF3 hs6
        go_wp2_with fail
        go_roundw
        case rel =>
          have hmk := HMK.out
          have hsz := HSZ.out
          refine ⟨k + av, _, rfl, HS6.out, rfl, by simp, by omega, by simp; omega, row4, _, [], H4.out, ?_, HM5.out, ?_⟩
          · rw [List.append_nil, ← List.append_assoc, HE.out, List.append_assoc, List.take_add]
          · rw [ext_list]
            rw [HP.out, List.drop_drop, List.take_of_length_le]
            rw [List.length_drop, HPL.out]; omega
        case measure =>
          have e1 : pendOf wr wb ≠ 0 := by rw [HPD.out]; exact h0
          have e2 : pendOf w4 wb = 0 := pendOf_eq H4.out.wr
          simp [lenOf, e1, e2]
          omega
end Go.Proofs.YtekgjhediaffbaaDoor
