/-
  bufio.Writer over a bytes.Buffer: Available, Buffered, Flush, and what they keep.
-/
import Derived.Test.YtejjmonaoajlgaaDoorBuw
namespace Go.Proofs.YtejjmonaoajlgaaDoor
open Go.RowKit

/-- A pointer to a bytes.Buffer as an io.Writer. -/
abbrev bufV (b q : Nat) : Value := .iface 40 (.pointer (some ⟨b, q, none⟩))
def wbCells (rb n : Nat) (wv : Value) : List Value := [.nilIface, .slice (some ⟨rb, 0, none⟩) 4096 4096, .int .i64 n, wv]

/-- Block wb is a bufio.Writer without an error: its buffer is the row rb, of which pend is taken; it writes to wv. -/
structure Wb (w : World) (wb rb : Nat) (wv : Value) (pend : List UInt8) : Prop where
  blk : w.heap[wb]? = some (.cells (wbCells rb pend.length wv).toArray 58 (0, 0))
  row : ∃ L : List Value, w.heap[rb]? = some (.cells L.toArray 5 (0, 0)) ∧ L.length = 4096 ∧ L.take pend.length = Bys pend
  le : pend.length ≤ 4096
  ne : rb ≠ wb
section
variable {w w' : World} {wb rb : Nat} {wv : Value} {pend : List UInt8}
theorem Wb.lt (h : Wb w wb rb wv pend) : wb < w.heap.size := heap_lt h.blk
theorem Wb.rlt (h : Wb w wb rb wv pend) : rb < w.heap.size := by obtain ⟨L, hL, _⟩ := h.row; exact heap_lt hL
theorem Wb.same (h : Wb w wb rb wv pend) (e : w'.heap[wb]? = w.heap[wb]?) (e2 : w'.heap[rb]? = w.heap[rb]?) : Wb w' wb rb wv pend :=
  ⟨e.trans h.blk, by obtain ⟨L, h1, h2⟩ := h.row; exact ⟨L, e2.trans h1, h2⟩, h.le, h.ne⟩
theorem Wb.kept {S : List Nat} (h : Wb w wb rb wv pend) (k : Kept S w w') (h1 : wb ∉ S) (h2 : rb ∉ S) : Wb w' wb rb wv pend := h.same (k.block _ h.lt h1) (k.block _ h.rlt h2)
theorem Wb.c0 (h : Wb w wb rb wv pend) : w.cell? ⟨wb, 0, none⟩ = some .nilIface := by rw [row_cell h.blk]; rfl
theorem Wb.c1 (h : Wb w wb rb wv pend) : w.cell? ⟨wb, 1, none⟩ = some (.slice (some ⟨rb, 0, none⟩) 4096 4096) := by rw [row_cell h.blk]; rfl
theorem Wb.c2 (h : Wb w wb rb wv pend) : w.cell? ⟨wb, 2, none⟩ = some (.int .i64 pend.length) := by rw [row_cell h.blk]; rfl
theorem Wb.c3 (h : Wb w wb rb wv pend) : w.cell? ⟨wb, 3, none⟩ = some wv := by rw [row_cell h.blk]; rfl
theorem Wb.free (h : Wb w wb rb wv pend) (i : Nat) : w.frozen? ⟨wb, i, none⟩ = false := row_free h.blk i
theorem Wb.src (h : Wb w wb rb wv pend) : SrcB w (some ⟨rb, 0, none⟩) pend.length pend := by
  obtain ⟨L, h1, h2, h3⟩ := h.row
  exact bytes_of_cells h1 rfl (by simpa using h3)
/-- The count is set: fewer bytes are taken, or as many as lie there. -/
theorem Wb.setN (h : Wb w wb rb wv pend) (pend' : List UInt8) (n : Int) (hn : n = pend'.length) (hp : ∃ L : List Value, w.heap[rb]? = some (.cells L.toArray 5 (0, 0)) ∧ L.length = 4096 ∧ L.take pend'.length = Bys pend') (hle : pend'.length ≤ 4096) : Wb (w.setCell ⟨wb, 2, none⟩ (.int .i64 n)) wb rb wv pend' := by
  subst hn
  refine ⟨?_, ?_, hle, h.ne⟩
  · rw [row_set h.blk]; rfl
  · obtain ⟨L, h1, h2⟩ := hp
    exact ⟨L, by rw [Below.heap_setCell _ _ _ _ h.ne]; exact h1, h2⟩
theorem Wb.setErr (h : Wb w wb rb wv pend) : Wb (w.setCell ⟨wb, 0, none⟩ .nilIface) wb rb wv pend := by
  refine ⟨?_, ?_, h.le, h.ne⟩
  · rw [row_set h.blk]; rfl
  · obtain ⟨L, h1, h2⟩ := h.row
    exact ⟨L, by rw [Below.heap_setCell _ _ _ _ h.ne]; exact h1, h2⟩
end

theorem Kept.trans2 {S S' : List Nat} {a b c : World} (h : Kept S a b) (k : Kept S' b c) (hs : ∀ x ∈ S', x ∈ S ∨ a.heap.size ≤ x) : Kept S a c :=
  ⟨k.os.trans h.os, k.tape.trans h.tape, k.output.trans h.output, Nat.le_trans h.size k.size, fun i hi hn => (k.block i (Nat.lt_of_lt_of_le hi h.size) (fun hm => (hs i hm).elim hn (fun h => by omega))).trans (h.block i hi hn)⟩

/-- The writer and the buffer beneath it. -/
structure St (w : World) (wb rb T b q : Nat) (R : Nat → Option Value) (row : Option Nat) (bs pend : List UInt8) : Prop where
  wr : Wb w wb rb (bufV b q) pend
  bf : Bf w T b q R row bs
  d1 : wb ≠ b
  d2 : rb ≠ b
  d3 : ∀ g ∈ row, g ≠ wb ∧ g ≠ rb
/-- What a step may turn: the writer, its row, the buffer, its row; a new row is new. -/
def Mv (wb rb b : Nat) (row row' : Option Nat) (w w' : World) : Prop := (∀ g ∈ row', row' = row ∨ w.heap.size ≤ g) ∧ Kept (wb :: rb :: b :: row.toList) w w'
section
variable {w w' w1 w2 : World} {wb rb T b q : Nat} {R : Nat → Option Value} {row row' row1 row2 : Option Nat} {bs pend : List UInt8}
theorem Mv.refl (w : World) (wb rb b : Nat) (row : Option Nat) : Mv wb rb b row row w w := ⟨fun _ _ => .inl rfl, Kept.refl _ _⟩
theorem Mv.trans (h : Mv wb rb b row row1 w w1) (k : Mv wb rb b row1 row2 w1 w2) : Mv wb rb b row row2 w w2 := by
  have hs := h.2.size
  refine ⟨fun g hg => ?_, h.2.trans2 k.2 fun x hx => ?_⟩
  · rcases k.1 g hg with e | e
    · subst e
      exact h.1 g hg
    · exact .inr (by omega)
  · simp only [List.mem_cons, Option.mem_toList] at hx ⊢
    rcases hx with rfl | rfl | rfl | hx
    · simp
    · simp
    · simp
    · rcases h.1 x hx with e | e
      · subst e; simp [hx]
      · exact .inr e
theorem Mv.of (hk : Kept [wb, rb, b] w w') : Mv wb rb b row row w w' := ⟨fun _ _ => .inl rfl, hk.weaken (by simp)⟩
theorem St.kept {S : List Nat} (h : St w wb rb T b q R row bs pend) (k : Kept S w w') (h1 : wb ∉ S) (h2 : rb ∉ S) (h3 : b ∉ S) (h4 : ∀ g ∈ row, g ∉ S) : St w' wb rb T b q R row bs pend :=
  ⟨h.wr.kept k h1 h2, h.bf.kept k h3 h4, h.d1, h.d2, h.d3⟩
theorem St.drewN (h : St w wb rb T b q R row bs pend) (n : Nat) : St (w.drewN n) wb rb T b q R row bs pend := h.kept ((Kept.refl [] _).drewN n) (by simp) (by simp) (by simp) (by simp)
end

set_option maxRecDepth 100000 in
theorem avail {w : World} {wb rb : Nat} {wv : Value} {pend : List UInt8} (h : Wb w wb rb wv pend) :
    Calls Tryd.prog 46 #[.pointer (some ⟨wb, 0, none⟩)] w fun e w' => e = .returned (.int .i64 (4096 - (pend.length : Int))) ∧ ∃ k, w' = w.drewN k := by
  have c1 := h.c1
  have c2 := h.c2
  have hle := h.le
  have e1 : IntKind.i64.wrap (4096 - (pend.length : Int)) = 4096 - (pend.length : Int) := IntWalk.i64_in _ (by omega)
  clear h
  go_enter Tryd.func46, Tryd.ntmps46
  go_wp2_with fail
  go_quiet (fail)
  go_wp2_with fail
  go_ret
  exact ⟨rfl, _, rfl⟩
set_option maxRecDepth 100000 in
theorem buffered {w : World} {wb rb : Nat} {wv : Value} {pend : List UInt8} (h : Wb w wb rb wv pend) :
    Calls Tryd.prog 49 #[.pointer (some ⟨wb, 0, none⟩)] w fun e w' => e = .returned (.int .i64 pend.length) ∧ w = w' := by
  have c2 := h.c2
  go_enter Tryd.func49, Tryd.ntmps49
  go_wp2_with fail
  go_ret
  exact ⟨rfl, rfl⟩

theorem method_write (k : Nat) (a : Addr) (w : World) : (method (k + 1) 40 (.pointer (some a)) "Write").run Tryd.prog w = .ok (52, .pointer (some a)) w := by kernel_rfl
theorem nil_ahead_write (k : Nat) (a : Addr) (w : World) : (nilAhead (k + 1) 40 (.pointer (some a)) "Write").run Tryd.prog w = .ok (some false) w := by kernel_rfl

theorem flush_mid {w w3 : World} {wb rb T b q : Nat} {R : Nat → Option Value} {row : Option Nat} {bs pend : List UInt8} (h : St w wb rb T b q R row bs pend) (h3 : Hid (∃ row', Bf w3 T b q R row' (bs ++ pend) ∧ (∀ g ∈ row', row' = row ∨ w.heap.size ≤ g) ∧ Kept (b :: row.toList) w w3)) : Hid (Wb w3 wb rb (bufV b q) pend) := by
  obtain ⟨row', hb3, hr3, hk3⟩ := h3.out
  exact h.wr.kept hk3 (by simp; exact ⟨h.d1, fun e => (h.d3 wb e).1 rfl⟩) (by simp; exact ⟨h.d2, fun e => (h.d3 rb e).2 rfl⟩)
theorem flush_end {w w3 : World} {wb rb T b q : Nat} {R : Nat → Option Value} {row : Option Nat} {bs pend : List UInt8} (h : St w wb rb T b q R row bs pend) (h3 : Hid (∃ row', Bf w3 T b q R row' (bs ++ pend) ∧ (∀ g ∈ row', row' = row ∨ w.heap.size ≤ g) ∧ Kept (b :: row.toList) w w3)) (hw3 : Hid (Wb w3 wb rb (bufV b q) pend)) :
    ∃ row', St (w3.setCell ⟨wb, 2, none⟩ (.int .i64 0)) wb rb T b q R row' (bs ++ pend) [] ∧ Mv wb rb b row row' w (w3.setCell ⟨wb, 2, none⟩ (.int .i64 0)) := by
  obtain ⟨row', hb3, hr3, hk3⟩ := h3.out
  refine ⟨row', ⟨hw3.out.setN [] 0 rfl (by obtain ⟨L, h1, h2, _⟩ := hw3.out.row; exact ⟨L, h1, h2, by simp [Bys]⟩) (by simp), hb3.kept ((Kept.refl [wb] _).setCell (p := ⟨wb, 2, none⟩) (by simp) _) (by simp; exact Ne.symm h.d1) (fun g hg => ?_), h.d1, h.d2, fun g hg => ?_⟩, hr3, (hk3.weaken ?_).setCell (p := ⟨wb, 2, none⟩) (by simp) _⟩
  · rcases hr3 g hg with e | e
    · subst e; simp; exact (h.d3 g hg).1
    · have := h.wr.lt; simp; omega
  · rcases hr3 g hg with e | e
    · subst e; exact h.d3 g hg
    · have := h.wr.lt; have := h.wr.rlt; exact ⟨by omega, by omega⟩
  · intro x hx
    simp only [List.mem_cons, Option.mem_toList] at hx ⊢
    rcases hx with hx | hx
    · exact .inl (.inr (.inr (.inl hx)))
    · exact .inl (.inr (.inr (.inr hx)))

set_option maxRecDepth 100000 in
set_option maxHeartbeats 1600000 in
theorem flush {w : World} {wb rb T b q : Nat} {R : Nat → Option Value} {row : Option Nat} {bs pend : List UInt8} (h : St w wb rb T b q R row bs pend) (hlim : bs.length ≤ 100000000000) :
    Calls Tryd.prog 16 #[.pointer (some ⟨wb, 0, none⟩)] w fun e w' => e = .returned .nilIface ∧ ∃ row', St w' wb rb T b q R row' (bs ++ pend) [] ∧ Mv wb rb b row row' w w' := by
  have c0 := h.wr.c0
  have c1 := h.wr.c1
  have c2 := h.wr.c2
  have c3 := h.wr.c3
  have f2 := h.wr.free 2
  have hle := h.wr.le
  have HS := Lib.hid h
  clear h
  by_cases h0 : pend.length = 0
  · obtain rfl : pend = [] := List.eq_nil_of_length_eq_zero h0
    go_enter Tryd.func16, Tryd.ntmps16
    go_wp2_with fail
    go_ret
    exact ⟨rfl, row, by rw [List.append_nil]; exact HS.out, Mv.refl _ _ _ _ _⟩
  · have q4 := fun k w => method_write k ⟨b, q, none⟩ w
    have q5 := fun k w => nil_ahead_write k ⟨b, q, none⟩ w
    go_enter Tryd.func16, Tryd.ntmps16
    go_wp2_with fail
    have hcon : ∀ k, Hid (Calls Tryd.prog 52 #[.pointer (some ⟨b, q, none⟩), .slice (some ⟨rb, 0, none⟩) pend.length 4096] (w.drewN k) fun e w' => e = .returned (.tuple #[.int .i64 pend.length, .nilIface]) ∧ Hid (∃ row', Bf w' T b q R row' (bs ++ pend) ∧ (∀ g ∈ row', row' = row ∨ w.heap.size ≤ g) ∧ Kept (b :: row.toList) w w')) := fun k => by
      have hS := HS.out.drewN k
      refine (buf_write hS.bf (some ⟨rb, 0, none⟩) pend.length 4096 pend hS.wr.src (fun a ha => by cases ha; exact hS.d2) (by omega) (by omega)).mono ?_
      rintro e w' ⟨h1, row', h2, h3, h4⟩
      exact ⟨h1, row', h2, h3, ((Kept.refl _ _).drewN k).trans h4⟩
    have HCON := Lib.hid hcon; clear hcon
    go_region_with (
      go_at_call 52
      refine ((HCON.out _).out).mono ?_
      rintro e w3 ⟨rfl, h3⟩
      have hw3 := flush_mid HS.out h3
      have d2 := hw3.out.c2
      have g2 := hw3.out.free 2)
    all_goals (
      go_wp2_with fail
      go_ret
      exact ⟨rfl, flush_end HS.out h3 hw3⟩)
end Go.Proofs.YtejjmonaoajlgaaDoor
