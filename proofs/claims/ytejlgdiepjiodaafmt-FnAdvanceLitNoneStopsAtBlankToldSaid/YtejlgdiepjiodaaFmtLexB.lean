/-
  strings.Reader.Read into the parser's buffer.
-/
import Derived.Test.YtejlgdiepjiodaaFmtLexA
import Derived.Lib.SlBuf
namespace Go.Proofs.YtejlgdiepjiodaaFmt
open Go.RowKit

def RB (w : World) (rb : Nat) (s : ByteArray) (i : Nat) (pv : Int) : Prop :=
  w.heap[rb]? = some (.cells #[.string s, .int .i64 i, .int .i64 pv] 69 (0, 0))

theorem RB.cells {w : World} {rb : Nat} {s : ByteArray} {i : Nat} {pv : Int} (h : RB w rb s i pv) :
    w.cell? ⟨rb, 0, none⟩ = some (.string s) ∧ w.cell? ⟨rb, 1, none⟩ = some (.int .i64 i) ∧ w.cell? ⟨rb, 2, none⟩ = some (.int .i64 pv) ∧ (∀ k, w.frozen? ⟨rb, k, none⟩ = false) := by
  unfold RB at h
  refine ⟨?_, ?_, ?_, ?_⟩ <;> simp [World.cell?, World.frozen?, h]

theorem b8_und : Tryf.prog.underlying 42 = some (.slice 5) := by kernel_rfl
theorem b8_info : ∃ i, Tryf.prog.info? 5 = some i ∧ i.zero = some (.int .u8 0) ∧ i.size = 1 ∧ i.bytes = 1 := by
  have h : (Tryf.prog.info? 5).map (fun i => (i.zero, i.size, i.bytes)) = some (some (.int .u8 0), 1, 1) := by kernel_rfl
  cases hq : Tryf.prog.info? 5 with
  | none => rw [hq] at h; cases h
  | some i => rw [hq] at h; simp at h; exact ⟨i, rfl, h.1, h.2.1, h.2.2⟩

/-- copy of a string, as much of it as there is room for. -/
theorem run_copy_str_at (w : World) (g o dLen dCap : Nat) (s : ByteArray) (L : List Value) (t : TypeId) (cs : List UInt8) (hg : w.heap[g]? = some (.cells L.toArray t (0, 0))) (hcs : cs = s.data.toList.take dLen) (hfit : o + cs.length ≤ L.length) :
    (Builtin.copy_ #[42, 9] 3 #[.slice (some ⟨g, o, none⟩) dLen dCap, .string s]).run Tryf.prog w = .ok (goInt cs.length) (w.setRow g (L.take o ++ Bys cs ++ L.drop (o + cs.length)).toArray) := by
  have hst := run_storeCells_at Tryf.prog g o t (Bys cs) 0 L.toArray w hg (by rw [Bys_length]; simpa using hfit) (Bys_one _)
  have hcl : cs.length = Nat.min s.size dLen := by rw [hcs, List.length_take]; show min dLen s.size = min s.size dLen; omega
  have htk : List.take (Nat.min s.size dLen) (List.map (fun b : UInt8 => Value.int IntKind.u8 (b.toNat : Int)) s.data.toList) = Bys cs := by
    rw [hcs, ← List.map_take]
    show _ = List.map By _
    have e : List.take (Nat.min s.size dLen) s.data.toList = List.take dLen s.data.toList := by
      show List.take (min s.size dLen) s.data.toList = _
      rcases Nat.le_total s.size dLen with h | h
      · rw [Nat.min_eq_left h, List.take_of_length_le (l := s.data.toList) (i := dLen) h]; exact List.take_of_length_le (Nat.le_refl _)
      · rw [Nat.min_eq_right h]
    rw [e]; rfl
  rw [Bys_length] at hst
  simp only [Nat.add_zero] at hst
  obtain ⟨i, h1, h2, h3, h4⟩ := b8_info
  simp [Builtin.copy_, run_underlying b8_und, Builtin.lenOf, Builtin.firstCells, sizeOf, typeInfo, h1]
  rw [htk, hst, hcl]
  simp [Result.andThen]

/-- copy of a string into the parser's read buffer. -/
theorem wpList_copy_bufS {w : World} {ops : Array Oper} {rest : List Oper} {o : Oper} {a : Act} {Q : Exit → Act → World → Prop} (hgd : o.guard = none) (d s : Operand)
    (ho : o.op = .call { callee := .builtin .copy, args := #[d, s], argTypes := #[42, 9] }) (hty : o.type = 3)
    (pb off dLen dCap : Nat) (str : ByteArray) (hd : a.eval d = .slice (some ⟨pb, 39 + off, none⟩) dLen dCap) (hs : a.eval s = .string str)
    (p : Pc) (hp : PB w pb p) (cs : List UInt8) (hcs : cs = str.data.toList.take dLen) (hfit : off + cs.length ≤ 1024)
    (h : ∀ w', PB w' pb { p with readBuf := p.readBuf.take off ++ Bys cs ++ p.readBuf.drop (off + cs.length) } → Kept [pb] w w' → wpList Tryf.prog ops Q rest (a.put o.dst (goInt cs.length)) w') :
    wpList Tryf.prog ops Q (o :: rest) a w := by
  have hlen : p.list.length = 2088 := by
    have h2 := hp.rb
    have h3 := hp.lb
    have h4 : p.head.length = 39 := rfl
    simp [Pc.list]; omega
  have hr := run_copy_str_at w pb (39 + off) dLen dCap str p.list 60 cs hp.heap hcs (by omega)
  have h1 := hp.splice off (Bys cs) (by rw [Bys_length]; exact hfit)
  rw [Bys_length] at h1
  exact Lib.wpList_copy_run w hgd d s _ _ ho _ _ hd hs (by rw [hty]; exact hr) (h _ h1 ((Kept.refl _ _).setRow (by simp) _))

set_option maxRecDepth 100000 in
set_option maxHeartbeats 400000 in
theorem read_eof (w : World) (rb : Nat) (s : ByteArray) (i : Nat) (pv : Int) (dst e0 : Value) (hr : RB w rb s i pv) (hi : s.size ≤ i) (h0 : w.cell? ⟨0, 0, none⟩ = some e0) :
    Calls Tryf.prog 78 #[.pointer (some ⟨rb, 0, none⟩), dst] w fun e w' => e = .returned (.tuple #[.int .i64 0, e0]) ∧ Kept [] w w' := by
  obtain ⟨r0, r1, r2, rf⟩ := hr.cells
  clear hr rf r2
  go_enter Tryf.func78, Tryf.ntmps78
  go_wp2
  go_quiet (fail)
  go_wp2
  go_quiet (fail)
  go_wp2
  go_ret2
  exact ⟨rfl, ((Kept.refl _ _).drewN _).drewN _⟩

set_option maxRecDepth 100000 in
set_option maxHeartbeats 400000 in
theorem read_more (w : World) (rb pb : Nat) (s : ByteArray) (i : Nat) (pv : Int) (p : Pc) (left : Nat) (hr : RB w rb s i pv) (hp : PB w pb p)
    (hne : pb ≠ rb) (hleft : left < 1024) (hi : i < s.size) (hn : s.size < 1000000000) :
    Calls Tryf.prog 78 #[.pointer (some ⟨rb, 0, none⟩), .slice (some ⟨pb, 39 + left, none⟩) (1024 - left) (1024 - left)] w fun e w' => e = .returned (.tuple #[.int .i64 (min (1024 - left) (s.size - i) : Nat), .nilIface]) ∧
      PB w' pb { p with readBuf := p.readBuf.take left ++ Bys ((s.data.toList.drop i).take (1024 - left)) ++ p.readBuf.drop (left + min (1024 - left) (s.size - i)) } ∧ RB w' rb s (i + min (1024 - left) (s.size - i)) (-1) ∧ Kept [rb, pb] w w' := by
  obtain ⟨r0, r1, r2, rf⟩ := hr.cells
  have rf1 := rf 1
  have rf2 := rf 2
  clear rf
  have HP := Lib.hid hp; clear hp
  have HR := Lib.hid hr; clear hr
  go_enter Tryf.func78, Tryf.ntmps78
  go_wp2
  go_quiet (fail)
  go_wp2
  refine wp_region_tail 10 (by kernel_rfl) (by kernel_rfl) ?_
  simp only [List.take_succ_cons, List.take_zero, List.drop_succ_cons, List.drop_zero]
  have hle : i ≤ s.size := by omega
  repeat still_step
  refine wpStill_nil ?_
  have hxl : (s.extract i s.size).data.toList = s.data.toList.drop i := by
    rw [ByteArray.data_extract, Array.toList_extract]
    simp only [List.extract_eq_take_drop]
    exact List.take_of_length_le (by rw [List.length_drop]; exact Nat.le_refl _)
  have hlt : (List.take (1024 - left) (List.drop i s.data.toList)).length = min (1024 - left) (s.size - i) := by rw [List.length_take, List.length_drop]; rfl
  refine wpList_copy_bufS rfl (.tmp 20) (.tmp 29) rfl rfl pb left (1024 - left) (1024 - left) (s.extract i s.size) rfl rfl p ?c1 ((s.data.toList.drop i).take (1024 - left)) ?c2 ?c4 ?_
  case c1 => exact HP.out.same (Below.heap_setCell w ⟨rb, 2, none⟩ (.int .i64 (-1)) pb hne)
  case c2 => rw [hxl]
  case c4 => rw [hlt]; omega
  intro w1 hp1 hk1
  have HP1 := Lib.hid hp1; clear hp1
  have HK1 := Lib.hid hk1; clear hk1
  have HLT := Lib.hid hlt
  have hm : (goInt ((List.take (1024 - left) (List.drop i s.data.toList)).length : Int)) = .int .i64 (min (1024 - left) (s.size - i) : Nat) := by rw [hlt]; rfl
  rw [hm]
  clear hm hlt hxl
  have hw0 : RB ((w.setCell ⟨rb, 2, none⟩ (.int .i64 (-1))).drewN nq).drew rb s i (-1) := by
    have := heap_setCell_same w rb 2 _ _ (.int .i64 (-1)) HR.out
    exact this
  have hr1 : RB w1 rb s i (-1) := by
    unfold RB at hw0 ⊢
    rw [HK1.out.block rb (heap_lt hw0) (by simp; omega)]; exact hw0
  obtain ⟨s0, s1, s2, sf⟩ := hr1.cells
  have sf1 := sf 1
  have HR1 := Lib.hid hr1
  clear hw0 hr1 sf r0 r1 r2 rf1 rf2
  generalize hM : min (1024 - left) (s.size - i) = M
  have hMb : M ≤ s.size - i := by omega
  have HM := Lib.hid hM; clear hM
  go_wp2
  go_ret2
  have hM := HM.out
  subst hM
  refine ⟨rfl, ?_, ?_, ?_⟩
  · have h2 := HP1.out.same (Below.heap_setCell w1 ⟨rb, 1, none⟩ (.int .i64 (i + (min (1024 - left) (s.size - i) : Nat))) pb hne)
    rw [HLT.out] at h2
    exact h2
  · exact heap_setCell_same w1 rb 1 _ _ _ HR1.out
  · refine Kept.setCell ?_ (by simp) _
    have h3 : Kept [rb, pb] w ((w.setCell ⟨rb, 2, none⟩ (.int .i64 (-1))).drewN nq).drew := (((Kept.refl _ _).setCell (by simp) _).drewN _).drew
    exact h3.trans (HK1.out.weaken (by simp))

/-- The reader at block rb still holds 'rest'. -/
def Rd (w : World) (B rb pb : Nat) (rest : List UInt8) : Prop :=
  ∃ (s : ByteArray) (i : Nat) (pv : Int), RB w rb s i pv ∧ i ≤ s.size ∧ s.size < 1000000000 ∧ rest = s.data.toList.drop i ∧ rb < B ∧ B ≤ w.heap.size ∧ pb = pb

theorem Rd.kept {S : List Nat} {w w' : World} {B rb pb : Nat} {rest : List UInt8} (h : Rd w B rb pb rest) (k : Kept S w w') (hS : ∀ x ∈ S, x = pb ∨ B ≤ x) (hne : pb ≠ rb) : Rd w' B rb pb rest := by
  obtain ⟨s, i, pv, h1, h4, h6, h7, h8, h9, _⟩ := h
  have hn : ∀ x, x < B → x ≠ pb → x ∉ S := fun x hx hp hm => by rcases hS x hm with h | h <;> omega
  refine ⟨s, i, pv, ?_, h4, h6, h7, h8, Nat.le_trans h9 k.size, rfl⟩
  unfold RB at h1 ⊢
  rw [k.block rb (by omega) (hn rb h8 (Ne.symm hne))]
  exact h1
theorem Rd.lt {w : World} {B rb pb : Nat} {rest : List UInt8} (h : Rd w B rb pb rest) : rb < B ∧ B ≤ w.heap.size := by
  obtain ⟨s, i, pv, _, _, _, _, h8, h9, _⟩ := h
  exact ⟨h8, h9⟩
theorem Rd.len {w : World} {B rb pb : Nat} {rest : List UInt8} (h : Rd w B rb pb rest) : rest.length < 1000000000 := by
  obtain ⟨s, i, pv, _, _, h6, h7, _⟩ := h
  subst h7
  rw [List.length_drop]
  have : s.data.toList.length = s.size := rfl
  omega

/-- Read at the end of the source. -/
theorem rd_eof (w : World) (B rb pb : Nat) (dst e0 : Value) (h : Rd w B rb pb []) (h0 : w.cell? ⟨0, 0, none⟩ = some e0) :
    Calls Tryf.prog 78 #[.pointer (some ⟨rb, 0, none⟩), dst] w fun e w' => e = .returned (.tuple #[.int .i64 0, e0]) ∧ Kept [] w w' := by
  obtain ⟨s, i, pv, h1, h4, h6, h7, h8, h9, _⟩ := h
  have : s.size ≤ i := by
    have := congrArg List.length h7
    rw [List.length_drop] at this
    have e : s.data.toList.length = s.size := rfl
    simp at this; omega
  exact read_eof w rb s i pv dst e0 h1 this h0

/-- Read before the end of the source. -/
theorem rd_more (w : World) (B rb pb : Nat) (rest : List UInt8) (p : Pc) (left : Nat) (h : Rd w B rb pb rest) (hp : PB w pb p) (hne : pb ≠ rb) (hleft : left < 1024) (hr : rest ≠ []) :
    Calls Tryf.prog 78 #[.pointer (some ⟨rb, 0, none⟩), .slice (some ⟨pb, 39 + left, none⟩) (1024 - left) (1024 - left)] w fun e w' =>
      e = .returned (.tuple #[.int .i64 (min (1024 - left) rest.length : Nat), .nilIface]) ∧
      PB w' pb { p with readBuf := p.readBuf.take left ++ Bys (rest.take (1024 - left)) ++ p.readBuf.drop (left + min (1024 - left) rest.length) } ∧ Rd w' B rb pb (rest.drop (1024 - left)) ∧ Kept [rb, pb] w w' := by
  obtain ⟨s, i, pv, h1, h4, h6, h7, h8, h9, _⟩ := h
  have e : s.data.toList.length = s.size := rfl
  have hl : rest.length = s.size - i := by rw [h7, List.length_drop, e]
  have hi : i < s.size := by
    rcases Nat.lt_or_ge i s.size with h | h
    · exact h
    · exact absurd (List.eq_nil_of_length_eq_zero (by omega)) hr
  refine (read_more w rb pb s i pv p left h1 hp hne hleft hi h6).mono ?_
  rintro e w' ⟨he, hp', hr', hk⟩
  rw [← hl] at he hp' hr'
  rw [← h7] at hp'
  refine ⟨he, hp', ?_, hk⟩
  refine ⟨s, _, _, hr', by omega, h6, ?_, h8, Nat.le_trans h9 hk.size, rfl⟩
  rw [h7, List.drop_drop, ← h7]
  rcases Nat.le_total (1024 - left) rest.length with h | h
  · rw [Nat.min_eq_left h]
  · rw [Nat.min_eq_right h, List.drop_of_length_le (l := s.data.toList) (by omega), List.drop_of_length_le (l := s.data.toList) (by omega)]
end Go.Proofs.YtejlgdiepjiodaaFmt
