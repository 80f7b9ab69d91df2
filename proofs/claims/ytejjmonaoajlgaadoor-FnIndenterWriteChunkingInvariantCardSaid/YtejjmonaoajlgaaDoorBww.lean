/-
  bufio.Writer over a bytes.Buffer: Write.
-/
import Derived.Test.YtejjmonaoajlgaaDoorBw
namespace Go.Proofs.YtejjmonaoajlgaaDoor
open Go.RowKit

theorem u8_und2 : Tryd.prog.underlying 22 = some (.slice (Tryd.prog.elem 22)) := by kernel_rfl
theorem u8_size (w : World) : (sizeOf (Tryd.prog.elem 22)).run Tryd.prog w = .ok 1 w := by kernel_rfl
/-- Where 'x[k:]' begins. -/
def fromA (g o c k : Nat) : Addr := if c = k then ⟨g, o, none⟩ else ⟨g, o + k, none⟩
theorem slice_from (g o n c k : Nat) (hk : k ≤ n) (w : World) : (Instr.slice 22 (.slice (some ⟨g, o, none⟩) n c) (some (.int .i64 k)) none none).run Tryd.prog w = .ok (.slice (some (fromA g o c k)) (n - k) (c - k)) w := by
  rw [run_slice_l w _ _ _ _ u8_und2 .i64 k (by omega) (by omega), u8_size]
  simp [sliced, fromA, addr_add]
  split <;> rfl
theorem fromA_eq (g o c k : Nat) : ∃ o', fromA g o c k = ⟨g, o', none⟩ ∧ (k < c → o' = o + k) := by
  unfold fromA
  split
  · exact ⟨o, rfl, fun h => by omega⟩
  · exact ⟨o + k, rfl, fun _ => rfl⟩

/-- copy(b.buf[b.n:], p): as much of p as there is room for. -/
theorem copy_in {w : World} {wb rb : Nat} {wv : Value} {pend : List UInt8} (h : Wb w wb rb wv pend) (sg so m c : Nat) (p cs : List UInt8) (hm : p.length = m) (hcs : cs = p.take (4096 - pend.length)) (hp : ∀ j x, p[j]? = some x → w.cell? ⟨sg, so + j, none⟩ = some (By x)) :
    ∃ w', (Builtin.copy_ #[22, 22] 3 #[.slice (some (fromA rb 0 4096 pend.length)) (4096 - pend.length) (4096 - pend.length), .slice (some ⟨sg, so, none⟩) m c]).run Tryd.prog w = .ok (goInt cs.length) w' ∧ Kept [rb] w w' ∧
      ∃ L : List Value, w'.heap[rb]? = some (.cells L.toArray 5 (0, 0)) ∧ L.length = 4096 ∧ L.take pend.length = Bys pend ∧ L.take (pend ++ cs).length = Bys (pend ++ cs) := by
  have hle := h.le
  have hcl : cs.length = min m (4096 - pend.length) := by rw [hcs, List.length_take, hm]; omega
  obtain ⟨L, h1, h2, h3⟩ := h.row
  by_cases h0 : cs.length = 0
  · obtain rfl : cs = [] := List.eq_nil_of_length_eq_zero h0
    refine ⟨w, run_copy_none w _ _ _ 5 _ _ _ _ _ _ u8_und u8info (by show min _ _ = 0; omega), Kept.refl _ _, L, h1, h2, h3, by simpa using h3⟩
  · have e1 : fromA rb 0 4096 pend.length = ⟨rb, pend.length, none⟩ := by unfold fromA; rw [if_neg (by omega)]; simp
    have hr := run_copy_row (P := Tryd.prog) w 22 22 3 5 rb pend.length (4096 - pend.length) (4096 - pend.length) ⟨sg, so, none⟩ m c L.toArray 5 (Bys cs) u8_und u8info h1 (by rw [Bys_length]; exact hcl) (fun j v hj => ?_) (by rw [Bys_length]; simp; omega) (Bys_one _)
    · rw [Bys_length] at hr
      refine ⟨_, by rw [e1]; exact hr, (Kept.refl _ _).setRow (by simp) _, _, setRow_heap _ _ _ _ _ _ h1, ?_, ?_, ?_⟩
      · simp; omega
      · show List.take pend.length (L.take pend.length ++ Bys cs ++ L.drop (pend.length + cs.length)) = _
        rw [h3, List.append_assoc]; exact List.take_left' (by simp)
      · show List.take (pend ++ cs).length (L.take pend.length ++ Bys cs ++ L.drop (pend.length + cs.length)) = _
        rw [h3]
        rw [List.take_left' (by simp)]; simp [Bys]
    · simp only [Bys, List.getElem?_map, Option.map_eq_some_iff] at hj
      obtain ⟨x, hx, rfl⟩ := hj
      rw [addr_add]
      refine hp j x ?_
      rw [hcs, List.getElem?_take] at hx
      split at hx
      · exact hx
      · cases hx

theorem St.drew {w : World} {wb rb T b q : Nat} {R : Nat → Option Value} {row : Option Nat} {bs pend : List UInt8} (h : St w wb rb T b q R row bs pend) : St w.drew wb rb T b q R row bs pend := h.kept ((Kept.refl [] _).drew) (by simp) (by simp) (by simp) (by simp)

/-- The world behind 'n = copy(..); b.n += n'. -/
theorem St.push {w w' : World} {wb rb T b q : Nat} {R : Nat → Option Value} {row : Option Nat} {bs pend cs : List UInt8} {n : Int} (h : St w wb rb T b q R row bs pend) (hk : Kept [rb] w w') (hL : ∃ L : List Value, w'.heap[rb]? = some (.cells L.toArray 5 (0, 0)) ∧ L.length = 4096 ∧ L.take pend.length = Bys pend ∧ L.take (pend ++ cs).length = Bys (pend ++ cs)) (hn : n = (pend ++ cs).length) (hle : (pend ++ cs).length ≤ 4096) :
    St (w'.setCell ⟨wb, 2, none⟩ (.int .i64 n)) wb rb T b q R row bs (pend ++ cs) ∧ Kept [wb, rb, b] w (w'.setCell ⟨wb, 2, none⟩ (.int .i64 n)) ∧ Wb w' wb rb (bufV b q) pend := by
  obtain ⟨L, h1, h2, h3, h4⟩ := hL
  have hw : Wb w' wb rb (bufV b q) pend := ⟨(hk.block wb h.wr.lt (by simp; exact Ne.symm h.wr.ne)).trans h.wr.blk, ⟨L, h1, h2, h3⟩, h.wr.le, h.wr.ne⟩
  have hb : Bf w' T b q R row bs := h.bf.kept hk (by simp; exact Ne.symm h.d2) (fun g hg => by simp; exact (h.d3 g hg).2)
  refine ⟨⟨hw.setN (pend ++ cs) n hn ⟨L, h1, h2, h4⟩ hle, hb.kept ((Kept.refl [wb] _).setCell (p := ⟨wb, 2, none⟩) (by simp) _) (by simp; exact Ne.symm h.d1) (fun g hg => by simp; exact (h.d3 g hg).1), h.d1, h.d2, h.d3⟩, (hk.weaken (by simp)).setCell (p := ⟨wb, 2, none⟩) (by simp) _, hw⟩

theorem St.turn {w w3 w4 : World} {wb rb T b q : Nat} {R : Nat → Option Value} {row row' : Option Nat} {bs pend pend' out : List UInt8} (h : St w wb rb T b q R row bs pend) (hb3 : Bf w3 T b q R row' out) (hr3 : ∀ g ∈ row', row' = row ∨ w.heap.size ≤ g) (hk3 : Kept (b :: row.toList) w w3) (hk4 : Kept [wb] w3 w4) (hw4 : Wb w4 wb rb (bufV b q) pend') :
    St w4 wb rb T b q R row' out pend' ∧ Mv wb rb b row row' w w4 := by
  refine ⟨⟨hw4, hb3.kept hk4 (by simp; exact Ne.symm h.d1) (fun g hg => ?_), h.d1, h.d2, fun g hg => ?_⟩, hr3, (hk3.weaken ?_).trans (hk4.weaken (by simp))⟩
  · rcases hr3 g hg with e | e
    · subst e; simp; exact (h.d3 g hg).1
    · have := h.wr.lt; simp; omega
  · rcases hr3 g hg with e | e
    · subst e; exact h.d3 g hg
    · have := h.wr.lt; have := h.wr.rlt; exact ⟨by omega, by omega⟩
  · intro x hx
    simp only [List.mem_cons, Option.mem_toList] at hx ⊢
    rcases hx with hx | hx
    · exact .inl (.inr (.inr (.inl hx)))
    · exact .inl (.inr (.inr (.inr hx)))
theorem St.stays {w w3 : World} {wb rb T b q : Nat} {R : Nat → Option Value} {row : Option Nat} {bs pend : List UInt8} (h : St w wb rb T b q R row bs pend) (hk3 : Kept (b :: row.toList) w w3) : Wb w3 wb rb (bufV b q) pend :=
  h.wr.kept hk3 (by simp; exact ⟨h.d1, fun e => (h.d3 wb e).1 rfl⟩) (by simp; exact ⟨h.d2, fun e => (h.d3 rb e).2 rfl⟩)
/-- A block that is none of the writer's stands. -/
theorem Mv.cell {w w' : World} {wb rb b : Nat} {row row' : Option Nat} (h : Mv wb rb b row row' w w') {sg o : Nat} (h1 : sg < w.heap.size) (h2 : sg ∉ wb :: rb :: b :: row.toList) : w'.cell? ⟨sg, o, none⟩ = w.cell? ⟨sg, o, none⟩ := h.2.cell (p := ⟨sg, o, none⟩) h1 h2
theorem Mv.notin {w w' : World} {wb rb b : Nat} {row row' : Option Nat} (h : Mv wb rb b row row' w w') {sg : Nat} (h1 : sg < w.heap.size) (h2 : sg ∉ wb :: rb :: b :: row.toList) : sg ∉ wb :: rb :: b :: row'.toList := by
  simp only [List.mem_cons, Option.mem_toList] at h2 ⊢
  intro hx
  rcases hx with hx | hx | hx | hx
  · exact h2 (.inl hx)
  · exact h2 (.inr (.inl hx))
  · exact h2 (.inr (.inr (.inl hx)))
  · rcases h.1 sg hx with e | e
    · subst e; exact h2 (.inr (.inr (.inr hx)))
    · omega

def pendOf (w : World) (wb : Nat) : Nat := match w.cell? ⟨wb, 2, none⟩ with | some (.int _ n) => n.toNat | _ => 0
theorem pendOf_eq {w : World} {wb rb : Nat} {wv : Value} {pend : List UInt8} (h : Wb w wb rb wv pend) : pendOf w wb = pend.length := by unfold pendOf; rw [h.c2]; rfl
def lenOf : Value → Nat | .slice _ n _ => n | .string s => s.size | _ => 0

/-- Write's loop: k bytes of p are through. -/
def Wl (w0 wr : World) (wb rb T b q : Nat) (R : Nat → Option Value) (row0 : Option Nat) (out : List UInt8) (sg so k : Nat) (p : List UInt8) : Prop :=
  ∃ row bs pend, St wr wb rb T b q R row bs pend ∧ bs ++ pend = out ++ p.take k ∧ Mv wb rb b row0 row w0 wr ∧ ∀ j x, (p.drop k)[j]? = some x → wr.cell? ⟨sg, so + j, none⟩ = some (By x)

set_option maxRecDepth 100000 in
set_option maxHeartbeats 3200000 in
theorem bw_write {w : World} {wb rb T b q : Nat} {R : Nat → Option Value} {row : Option Nat} {bs pend : List UInt8} (h : St w wb rb T b q R row bs pend) (sg so n c : Nat) (p : List UInt8) (hpl : p.length = n) (hsg : 0 < n → sg < w.heap.size) (hp : ∀ j x, p[j]? = some x → w.cell? ⟨sg, so + j, none⟩ = some (By x))
    (hA : sg ∉ wb :: rb :: b :: row.toList) (hnc : n ≤ c) (hc : c ≤ 9223372036854775807) (hlim : (bs ++ pend).length + n ≤ 100000000000) :
    Calls Tryd.prog 47 #[.pointer (some ⟨wb, 0, none⟩), .slice (some ⟨sg, so, none⟩) n c] w fun e w' => e = .returned (.tuple #[.int .i64 n, .nilIface]) ∧ ∃ row' bs' pend', St w' wb rb T b q R row' bs' pend' ∧ bs' ++ pend' = bs ++ pend ++ p ∧ Mv wb rb b row row' w w' := by
  have hst : Hid (Wl w w wb rb T b q R row (bs ++ pend) sg so 0 p) := ⟨row, bs, pend, h, by simp, Mv.refl _ _ _ _ _, by simpa using hp⟩
  have HPL := Lib.hid hpl; have HSG := Lib.hid hsg; have HA := Lib.hid hA
  clear h hp hpl hsg hA
  have q4 := fun k w => method_write k ⟨b, q, none⟩ w
  have q5 := fun k w => nil_ahead_write k ⟨b, q, none⟩ w
  generalize hout : bs ++ pend = out at *
  clear hout
  go_enter Tryd.func47, Tryd.ntmps47
  go_wp2_with fail
  go_loopw [1, 4] (fun s1 s4 wr => ∃ (k so c : Nat), s1 = .slice (some ⟨sg, so, none⟩) (n - k) c ∧ s4 = .int .i64 k ∧ k ≤ n ∧ n - k ≤ c ∧ c ≤ 9223372036854775807 ∧ Hid (Wl w wr wb rb T b q R row out sg so k p)) (fun s1 _ wr => 2 * lenOf s1 + (if pendOf wr wb = 0 then 0 else 1))
  case atStart => exact ⟨0, so, c, rfl, rfl, by omega, by omega, hc, hst⟩
  case round =>
    obtain ⟨k, so, c, rfl, rfl, hk, hkc, hcm, hrel⟩ := hrel
    obtain ⟨row1, bs1, pend1, h1, he1, hm1, hp1⟩ := hrel.out
    have hbl : bs1.length + pend1.length = out.length + k := by
      have := congrArg List.length he1
      rw [List.length_append, List.length_append, List.length_take, HPL.out] at this
      omega
    have hle := h1.wr.le
    have HM := Lib.hid hm1; have HE := Lib.hid he1; have HP := Lib.hid hp1; have H1 := Lib.hid h1
    clear hst hrel hm1 he1 hp1 h1
    generalize hm : n - k = m at *
    have hmn1 : k + m ≤ n := by omega
    have hmn2 : n ≤ k + m := by omega
    have HMK := Lib.hid hm; clear hm
    go_wp2_with fail
    refine (avail H1.out.wr).mono ?_
    rintro e w1 ⟨rfl, kk, hw1⟩
    have h2 : St w1 wb rb T b q R row1 bs1 pend1 := by rw [hw1]; exact H1.out.drewN kk
    have hm2 : Mv wb rb b row row1 w w1 := by rw [hw1]; exact HM.out.trans (Mv.of ((Kept.refl _ _).drewN kk))
    have hp2 : ∀ j x, (p.drop k)[j]? = some x → w1.cell? ⟨sg, so + j, none⟩ = some (By x) := by rw [hw1]; exact HP.out
    have hpd : pendOf wr wb = pend1.length := pendOf_eq H1.out.wr
    have hpm : (p.drop k).length = m := by rw [List.length_drop, HPL.out]; exact HMK.out
    have c0 := h2.wr.c0; have c1 := h2.wr.c1; have c2 := h2.wr.c2; have c3 := h2.wr.c3
    have f0 := h2.wr.free 0; have f2 := h2.wr.free 2
    have HM2 := Lib.hid hm2; have H2 := Lib.hid h2; have HP2 := Lib.hid hp2; have HPD := Lib.hid hpd; have HPM := Lib.hid hpm
    clear h2 hm2 hp2 hw1 HM HP H1 hpd hpm
    by_cases hex : m ≤ 4096 - pend1.length
    · -- there is room: the loop ends
      have q6 := fun w => slice_from rb 0 4096 4096 pend1.length hle w
      go_wp2_with fail
      obtain ⟨w2, hcp, hk2, hL2⟩ := copy_in H2.out.drew.wr sg so m c (p.drop k) (p.drop k) HPM.out (by rw [List.take_of_length_le]; rw [HPM.out]; exact hex) HP2.out
      rw [HPM.out] at hcp
      have hps := H2.out.drew
      have hlen : (pend1 ++ p.drop k).length = pend1.length + m := by rw [List.length_append, HPM.out]
      obtain ⟨h3, hk3, hw3⟩ := hps.push (n := (pend1.length : Int) + m) hk2 hL2 (by rw [hlen]; simp) (by omega)
      have d2 := hw3.c2
      have g2 := hw3.free 2
      have H3 := Lib.hid h3; have HK3 := Lib.hid hk3
      clear h3 hk3 hw3 hk2 hL2 hps hlen
      refine wp_region_tail 10 (by kernel_rfl) (by kernel_rfl) ?_
      simp only [List.take_succ_cons, List.take_zero, List.drop_succ_cons, List.drop_zero]
      repeat still_step
      refine wpStill_nil ?_
      go_wp2_with fail
      go_ret2
      have hmk := HMK.out
      refine ⟨by congr 3; simp; omega, row1, bs1, pend1 ++ p.drop k, H3.out, ?_, HM2.out.trans (Mv.of (((Kept.refl _ _).drew).trans HK3.out))⟩
      rw [← List.append_assoc, HE.out, List.append_assoc, List.take_append_drop]
    · have hgt : 4096 - pend1.length < m := by omega
      by_cases h0 : pend1.length = 0
      · -- nothing is held back: p goes through at once
        obtain rfl : pend1 = [] := List.eq_nil_of_length_eq_zero h0
        have hs1 : sg < w1.heap.size := by have := HM2.out.2.size; have := HSG.out; omega
        have hs2 : sg ∉ wb :: rb :: b :: row1.toList := HM2.out.notin (HSG.out (by omega)) HA.out
        have hsb : sg ≠ b := by intro e; apply hs2; simp [e]
        have hcon := buf_write H2.out.bf (some ⟨sg, so, none⟩) m c (p.drop k) ⟨HPM.out, fun _ => ⟨sg, so, rfl, hs1, HP2.out⟩⟩ (fun a ha => by cases ha; exact hsb) (by omega) (by simp at hbl; omega)
        have HCON := Lib.hid hcon; have HS2 := Lib.hid hs2
        clear hcon hs2
        go_wp2_with fail
        refine (buffered H2.out.wr).mono ?_
        rintro e w' ⟨rfl, rfl⟩
        go_wp2_with fail
        refine HCON.out.mono ?_
        rintro e w2 ⟨rfl, row2, hb2, hr2, hk2⟩
        have hw2 := H2.out.stays hk2
        have d0 := hw2.c0; have g0 := hw2.free 0
        have q6 := fun w => slice_from sg so m c m (by omega) w
        obtain ⟨so', hso, _⟩ := fromA_eq sg so c m
        have h3 := H2.out.turn hb2 hr2 hk2 ((Kept.refl [wb] _).setCell (p := ⟨wb, 0, none⟩) (by simp) .nilIface) hw2.setErr
        have H3 := Lib.hid h3
        clear hb2 hr2 hk2 hw2 h3 HCON
        rw [hso] at q6
        go_wp2_with fail
        go_roundw
        case rel =>
          have hmk := HMK.out
          refine ⟨n, so', c - m, by simp, by congr 1; omega, by omega, by omega, by omega, row2, bs1 ++ p.drop k, [], H3.out.1, ?_, HM2.out.trans H3.out.2, ?_⟩
          · have he := HE.out
            rw [List.append_nil] at he ⊢
            rw [he, List.append_assoc, List.take_append_drop, List.take_of_length_le (by have := HPL.out; omega)]
          · intro j x hj
            rw [List.drop_of_length_le (by have := HPL.out; omega)] at hj
            cases hj
        case measure =>
          simp [lenOf]
          split <;> omega
      · -- the room is filled up and flushed
        obtain ⟨av, hav⟩ : ∃ av, av = 4096 - pend1.length := ⟨_, rfl⟩
        have hcl : ((p.drop k).take av).length = av := by rw [List.length_take, HPM.out]; omega
        have q6 := fun w => slice_from rb 0 4096 4096 pend1.length hle w
        obtain ⟨w2, hcp, hk2, hL2⟩ := copy_in H2.out.drew.wr sg so m c (p.drop k) ((p.drop k).take av) HPM.out (by rw [hav]) HP2.out
        rw [hcl] at hcp
        have hps := H2.out.drew
        have hlen : (pend1 ++ (p.drop k).take av).length = pend1.length + av := by rw [List.length_append, hcl]
        obtain ⟨h3, hk3, hw3⟩ := hps.push (n := (pend1.length : Int) + av) hk2 hL2 (by rw [hlen]; simp) (by omega)
        have d2 := hw3.c2
        have g2 := hw3.free 2
        have hav1 : pend1.length + av ≤ 4096 := by omega
        have hav2 : av < m := by omega
        have hf3 := flush h3 (by omega)
        have H3 := Lib.hid h3; have HK3 := Lib.hid hk3; have HF3 := Lib.hid hf3; have HAV := Lib.hid hav; have HCL := Lib.hid hcl
        clear h3 hk3 hw3 hk2 hL2 hps hlen hf3 hav hcl
        go_wp2_with fail
        refine (buffered H2.out.wr).mono ?_
        rintro e w' ⟨rfl, rfl⟩
        go_wp2_with fail
        refine wp_region_tail 10 (by kernel_rfl) (by kernel_rfl) ?_
        simp only [List.take_succ_cons, List.take_zero, List.drop_succ_cons, List.drop_zero]
        repeat still_step
        refine wpStill_nil ?_
        go_wp2_with fail
        refine HF3.out.mono ?_
        rintro e w4 ⟨rfl, row4, h4, hm4⟩
        have hm5 := HM2.out.trans ((Mv.of (((Kept.refl _ _).drew).trans HK3.out)).trans hm4)
        have H4 := Lib.hid h4; have HM5 := Lib.hid hm5
        clear h4 hm4 hm5 hcp q6 HF3
        have q6 := fun w => slice_from sg so m c av (by omega) w
        obtain ⟨so', hso, hso2⟩ := fromA_eq sg so c av
        rw [hso] at q6
        go_wp2_with fail
        go_roundw
        case rel =>
          have hmk := HMK.out
          have hs0 := HSG.out (by omega)
          refine ⟨k + av, so', c - av, by congr 1; omega, by simp, by omega, by omega, by omega, row4, _, [], H4.out, ?_, HM5.out, ?_⟩
          · rw [List.append_nil, ← List.append_assoc, HE.out, List.append_assoc, List.take_add]
          · intro j x hj
            rw [← List.drop_drop, List.getElem?_drop] at hj
            rw [hso2 (by omega), Nat.add_assoc]
            rw [HM5.out.cell hs0 HA.out, ← HM2.out.cell hs0 HA.out]
            exact HP2.out _ x hj
        case measure =>
          have e1 : pendOf wr wb ≠ 0 := by rw [HPD.out]; exact h0
          have e2 : pendOf w4 wb = 0 := pendOf_eq H4.out.wr
          simp [lenOf, e1, e2]
          omega
end Go.Proofs.YtejjmonaoajlgaaDoor
