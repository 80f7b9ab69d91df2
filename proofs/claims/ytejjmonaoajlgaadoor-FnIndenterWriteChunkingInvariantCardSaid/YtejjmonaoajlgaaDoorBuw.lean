/-
  bytes.Buffer: Write, WriteString, String, over XBuf's grow.
-/
import Derived.Test.YtejjmonaoajlgaaDoorBuf
import Derived.Shelf.Bytes.StringAt
namespace Go.Proofs.YtejjmonaoajlgaaDoor
open Go.RowKit Go.Shelf

/-- A source of bytes stays one over a frame that leaves its block alone. -/
theorem SrcB.over {S : List Nat} {w w' : World} {A : Option Addr} {n : Nat} {l : List UInt8} (h : SrcB w A n l) (k : Kept S w w') (hS : ∀ a ∈ A, a.block ∉ S) : SrcB w' A n l :=
  ⟨h.1, fun hn => by
    obtain ⟨g, o, rfl, hg, hc⟩ := h.2 hn
    exact ⟨g, o, rfl, Nat.lt_of_lt_of_le hg k.size, fun j c hj => (k.cell (p := ⟨g, o + j, none⟩) hg (show g ∉ S from hS ⟨g, o, none⟩ rfl)).trans (hc j c hj)⟩⟩

theorem copy_run (w : World) (g m n cap c sg so : Nat) (cur : Array Value) (p : List UInt8) (hg : w.heap[g]? = some (.cells cur 5 (0, 0))) (hl : m + n ≤ cap) (hcs : cur.size = cap) (hp : p.length = n) (hc : ∀ j x, p[j]? = some x → w.cell? ⟨sg, so + j, none⟩ = some (By x)) :
    (Builtin.copy_ #[22, 22] 3 #[.slice (some ⟨g, m, none⟩) n (cap - m), .slice (some ⟨sg, so, none⟩) n c]).run Tryd.prog w = .ok (goInt n) (w.setRow g (cur.toList.take m ++ Bys p ++ cur.toList.drop (m + n)).toArray) := by
  have h := run_copy_row (P := Tryd.prog) w 22 22 3 5 g m n (cap - m) ⟨sg, so, none⟩ n c cur 5 (Bys p) u8_und u8info hg (by rw [Bys_length, hp]; exact (Nat.min_self n).symm) (fun j v hj => ?_) (by rw [Bys_length, hp]; omega) (Bys_one _)
  · rw [Bys_length, hp] at h; exact h
  · simp only [Bys, List.getElem?_map, Option.map_eq_some_iff] at hj
    obtain ⟨x, hx, rfl⟩ := hj
    rw [addr_add]
    exact hc j x hx

theorem Rm.tail {w w0 w1 : World} {T b q : Nat} {R : Nat → Option Value} {g l n : Nat} {bs : List Value} (h : Rm w0 w1 T b q R g l n bs) (k : Kept [b] w w0) : Rm w w1 T b q R g l n bs := by
  obtain ⟨cap, cur, lr, h1, h2, h3, h4, h5, h6, h7, h8⟩ := h
  exact ⟨cap, cur, lr, h1, h2, h3, h4, h5, h6, h7, k.trans h8⟩

/-- tryGrowByReslice or else grow: room for n bytes. -/
def tried (e : Ending) (l : Nat) : Prop := e = .returned (.tuple #[.int .i64 l, .bool true])

theorem buf_try {w : World} {T b q : Nat} {R : Nat → Option Value} {row : Option Nat} {bs : List UInt8} (h : Bf w T b q R row bs) (n : Nat) (hn : 0 < n) :
    Calls Tryd.prog 54 #[.pointer (some ⟨b, q, none⟩), .int .i64 n] w fun e w' =>
      (e = .returned (.tuple #[.int .i64 bs.length, .bool true]) ∧ ∃ g, row = some g ∧ Rm w w' T b q R g bs.length n (Bys bs)) ∨
      (e = .returned (.tuple #[.int .i64 0, .bool false]) ∧ w' = w ∧ (bs.length + n ≤ 140737488355328 → Calls Tryd.prog 55 #[.pointer (some ⟨b, q, none⟩), .int .i64 n] w fun e w' => e = .returned (.int .i64 bs.length) ∧ ∃ g, w.heap.size ≤ g ∧ Rm w w' T b q R g bs.length n (Bys bs))) := by
  obtain ⟨lr, ⟨rfl, rfl, h⟩ | ⟨g, cap, cur, rfl, h2, h, hg, h3, h4, h5, h6, hne⟩⟩ := h
  · refine (Any.Buffer_tryGrow_none_at { lay252 with } b q none 0 0 n w h.c0 (Nat.le_refl _) (Nat.zero_le _) (by omega)).mono ?_
    rintro e w' ⟨rfl, rfl⟩
    refine .inr ⟨rfl, rfl, fun hlim => ?_⟩
    by_cases h64 : n ≤ 64
    · exact grow_small w' T b q n R lr h hn h64
    · exact grow_big w' T b q n R lr h (by omega) (by simpa using hlim)
  · by_cases hr : n ≤ cap - bs.length
    · refine (Any.Buffer_tryGrow_room_at { lay252 with } b q _ bs.length cap n w h.c0 (h.f q) h3 h4 hr).mono ?_
      rintro e w' ⟨rfl, rfl⟩
      exact .inl ⟨rfl, g, rfl, cap, cur, lr, h.set0 _, by rw [Below.heap_setCell _ _ _ _ hne]; exact hg, h5, h4, by omega, h6, hne, (Kept.refl _ _).setCell (p := ⟨b, q, none⟩) (by simp) _⟩
    · refine (Any.Buffer_tryGrow_none_at { lay252 with } b q _ bs.length cap n w h.c0 h3 h4 (by omega)).mono ?_
      rintro e w' ⟨rfl, rfl⟩
      exact .inr ⟨rfl, rfl, fun hlim => grow_row w' T b q g bs.length cap n R lr cur bs h rfl (List.length_pos_iff.2 h2) hg h3 h4 h5 h6 hne hn (by omega) hlim⟩

theorem Bf.setLast {w : World} {T b q : Nat} {R : Nat → Option Value} {row : Option Nat} {bs : List UInt8} (h : Bf w T b q R row bs) (x : Int) : Bf (w.setCell ⟨b, q + 2, none⟩ (.int .i8 x)) T b q R row bs := by
  obtain ⟨lr, ⟨h1, h2, h⟩ | ⟨g, cap, cur, rfl, h2, h, hg, h3, h4, h5, h6, hne⟩⟩ := h
  · exact ⟨x, .inl ⟨h1, h2, h.set2 _⟩⟩
  · exact ⟨x, .inr ⟨g, cap, cur, rfl, h2, h.set2 _, by rw [Below.heap_setCell _ _ _ _ hne]; exact hg, h3, h4, h5, h6, hne⟩⟩
theorem Bf.c2 {w : World} {T b q : Nat} {R : Nat → Option Value} {row : Option Nat} {bs : List UInt8} (h : Bf w T b q R row bs) : ∃ lr, w.cell? ⟨b, q + 2, none⟩ = some (.int .i8 lr) := by
  obtain ⟨lr, ⟨_, _, h⟩ | ⟨g, cap, cur, _, _, h, _⟩⟩ := h <;> exact ⟨lr, h.c2⟩

theorem copy_str (w : World) (g m n cap : Nat) (s : ByteArray) (cur : Array Value) (p : List UInt8) (hps : p = s.data.toList) (hg : w.heap[g]? = some (.cells cur 5 (0, 0))) (hl : m + n ≤ cap) (hcs : cur.size = cap) (hp : p.length = n) :
    (Builtin.copy_ #[22, 9] 3 #[.slice (some ⟨g, m, none⟩) n (cap - m), .string s]).run Tryd.prog w = .ok (goInt n) (w.setRow g (cur.toList.take m ++ Bys p ++ cur.toList.drop (m + n)).toArray) := by
  subst hps
  have hs : s.size = n := hp
  subst hs
  exact Lib.run_copy_row_string (P := Tryd.prog) w 22 9 3 5 g m s.size (cap - m) s cur 5 u8_und u8info hg (Nat.le_refl _) (by omega)

set_option maxHeartbeats 6400000 in
set_option maxRecDepth 100000 in
theorem buf_write {w : World} {T b q : Nat} {R : Nat → Option Value} {row : Option Nat} {bs : List UInt8} (h : Bf w T b q R row bs) (A : Option Addr) (n c : Nat) (p : List UInt8) (hp : SrcB w A n p) (hA : ∀ a ∈ A, a.block ≠ b) (hn : 0 < n) (hlim : bs.length + n ≤ 1000000000000) :
    Calls Tryd.prog 52 #[.pointer (some ⟨b, q, none⟩), .slice A n c] w fun e w' => e = .returned (.tuple #[.int .i64 n, .nilIface]) ∧ ∃ row', Bf w' T b q R row' (bs ++ p) ∧ (∀ g ∈ row', row' = row ∨ w.heap.size ≤ g) ∧ Kept (b :: row.toList) w w' := by
  obtain ⟨lr, c2⟩ := h.c2
  have f2 := h.free (q + 2)
  obtain ⟨sg, so, rfl, hsg, hsc⟩ := hp.2 hn
  have hsb : sg ≠ b := hA _ rfl
  obtain ⟨w0, hw0⟩ : ∃ w0, w0 = w.setCell ⟨b, q + 2, none⟩ (.int .i8 0) := ⟨_, rfl⟩
  have h0 : Bf w0 T b q R row bs := by rw [hw0]; exact h.setLast 0
  have hk0 : Kept [b] w w0 := by rw [hw0]; exact (Kept.refl _ _).setCell (p := ⟨b, q + 2, none⟩) (by simp) _
  have hsz : w0.heap.size = w.heap.size := by rw [hw0]; simp [World.setCell]
  have hpl : p.length = n := hp.1
  have hend : ∀ w1 g, (row = some g ∨ w.heap.size ≤ g) → ∀ cap cur lr, LibA.Three w1 b q T R (.slice (some ⟨g, 0, none⟩) (bs.length + n) cap) (.int .i64 0) (.int .i8 lr) → w1.heap[g]? = some (.cells cur 5 (0, 0)) → cur.size = cap → cap ≤ maxLen → bs.length + n ≤ cap → cur.toList.take bs.length = Bys bs → g ≠ b → Kept [b] w w1 →
      Ending.returned (.tuple #[.int .i64 (n : Int), .nilIface]) = .returned (.tuple #[.int .i64 n, .nilIface]) ∧ ∃ row', Bf (w1.setRow g (cur.toList.take bs.length ++ Bys p ++ cur.toList.drop (bs.length + n)).toArray) T b q R row' (bs ++ p) ∧ (∀ g ∈ row', row' = row ∨ w.heap.size ≤ g) ∧ Kept (b :: row.toList) w (w1.setRow g (cur.toList.take bs.length ++ Bys p ++ cur.toList.drop (bs.length + n)).toArray) := by
    intro w1 g hgr cap cur lr a1 a2 a3 a4 a5 a6 a7 a8
    obtain ⟨r1, r2⟩ := Rm.done a1 a2 a3 a4 a5 a6 a7 a8 rfl hpl hn
    refine ⟨rfl, some g, r1, fun g' hg' => ?_, r2.weaken ?_⟩
    · cases hg'
      exact hgr.imp (fun e => e.symm) id
    · rcases hgr with e | e
      · rw [e]; simp
      · simp; exact .inr e
  have HEND := Lib.hid hend
  have HW0 := Lib.hid hw0
  clear hend hp hA hw0
  go_enter Tryd.func52, Tryd.ntmps52
  go_wp2_with fail
  rw [← HW0.out]
  refine (buf_try h0 n hn).mono ?_
  rintro e w1 (⟨rfl, g, hrow, cap, cur, lr1, a1, a2, a3, a4, a5, a6, a7, a8⟩ | ⟨rfl, rfl, hgrow⟩)
  · have hk1 := hk0.trans a8
    have d0 : w1.cell? ⟨b, q, none⟩ = some (.slice (some ⟨g, 0, none⟩) (bs.length + n) cap) := a1.c0
    have hcp := copy_run w1 g bs.length n cap c sg so cur p a2 a5 a3 hpl (fun j x hj => (hk1.cell (p := ⟨sg, so + j, none⟩) hsg (by simp; exact hsb)).trans (hsc j x hj))
    have hfin := HEND.out w1 g (.inl hrow) cap cur lr1 a1 a2 a3 a4 a5 a6 a7 hk1
    have HF := Lib.hid hfin
    have hne : ¬ cap = bs.length := by omega
    unfold maxLen at a4
    clear hfin a2 a3 a6 a8 hk1 hrow
    go_wp2_with fail
    go_ret2
    refine ⟨rfl, ?_⟩
    rw [← List.append_assoc]
    exact HF.out.2
  · have hg1 := hgrow (by omega)
    clear hgrow
    go_wp2_with fail
    refine hg1.mono ?_
    rintro e w2 ⟨rfl, g, hrow, cap, cur, lr1, a1, a2, a3, a4, a5, a6, a7, a8⟩
    have hk1 := hk0.trans a8
    have d0 : w2.cell? ⟨b, q, none⟩ = some (.slice (some ⟨g, 0, none⟩) (bs.length + n) cap) := a1.c0
    have hcp := copy_run w2 g bs.length n cap c sg so cur p a2 a5 a3 hpl (fun j x hj => (hk1.cell (p := ⟨sg, so + j, none⟩) hsg (by simp; exact hsb)).trans (hsc j x hj))
    have hfin := HEND.out w2 g (.inr (by omega)) cap cur lr1 a1 a2 a3 a4 a5 a6 a7 hk1
    have HF := Lib.hid hfin
    have hne : ¬ cap = bs.length := by omega
    unfold maxLen at a4
    clear hfin a2 a3 a6 a8 hk1 hrow
    go_wp2_with fail
    go_ret2
    refine ⟨rfl, ?_⟩
    rw [← List.append_assoc]
    exact HF.out.2

theorem bytes_of_cells {w : World} {g n : Nat} {cur : Array Value} {l : List UInt8} (hg : w.heap[g]? = some (.cells cur 5 (0, 0))) (hl : l.length = n) (htk : cur.toList.take n = Bys l) : SrcB w (some ⟨g, 0, none⟩) n l := by
  refine ⟨hl, fun _ => ⟨g, 0, rfl, heap_lt hg, fun j c hj => ?_⟩⟩
  have hlt : j < n := hl ▸ (List.getElem?_eq_some_iff.1 hj).1
  rw [Nat.zero_add, cell_of_row _ _ _ _ _ _ hg, ← Array.getElem?_toList, ← List.getElem?_take_of_lt hlt, htk]
  simp [Bys, hj]
/-- What the buffer holds, as a slice of its own row. -/
theorem Bf.src {w : World} {T b q : Nat} {R : Nat → Option Value} {row : Option Nat} {bs : List UInt8} (h : Bf w T b q R row bs) : ∃ A cap, w.cell? ⟨b, q, none⟩ = some (.slice A bs.length cap) ∧ w.cell? ⟨b, q + 1, none⟩ = some (.int .i64 0) ∧ SrcB w A bs.length bs ∧ bs.length ≤ cap ∧ cap ≤ maxLen ∧ A.map (·.block) = row := by
  obtain ⟨lr, ⟨rfl, rfl, h⟩ | ⟨g, cap, cur, rfl, h2, h, hg, h3, h4, h5, h6, hne⟩⟩ := h
  · exact ⟨none, 0, h.c0, h.c1, ⟨rfl, fun h => absurd h (by simp)⟩, Nat.le_refl _, Nat.zero_le _, rfl⟩
  · exact ⟨_, cap, h.c0, h.c1, bytes_of_cells hg rfl h6, h3, h4, rfl⟩

end Go.Proofs.YtejjmonaoajlgaaDoor
