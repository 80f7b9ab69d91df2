/-
  bytes.Buffer, only written: what Write, WriteString and String do to the three cells (at offset q of block b) and to the row behind them. The frame is exact: no old block but b and the buffer's own row turns.
-/
import Derived.Test.YtejjmonaoajlgaaDoorWGen
import Derived.Shelf.Bytes.GrowSlice
import Derived.Shelf.Bytes.TryGrowAt
import Derived.Shelf.Bytes.LenAt
import Derived.Test.YtejjmonaoajlgaaDoorShlf
import Derived.Lib.BufferAt
import Derived.Lib.BufferOwn
import Derived.Lib.BufferWrite
import Derived.Laws.IdiomCopy
import Derived.RegionTactic
import Derived.Deep.RegionWith
import Derived.Deep.Draws
import Derived.BigCall
import Derived.BigGuard
namespace Go.Proofs.YtejjmonaoajlgaaDoor
open Go.RowKit Go.Shelf

theorem bysCells (l : List UInt8) : Bys l = Lib.byteCells l := rfl

/-- A bytes.Buffer at offset q of block b (tag T, other cells R), holding bs: in a row of its own, or none yet. -/
def Bf (w : World) (T b q : Nat) (R : Nat → Option Value) (row : Option Nat) (bs : List UInt8) : Prop :=
  ∃ lr, (row = none ∧ bs = [] ∧ LibA.Three w b q T R (.slice none 0 0) (.int .i64 0) (.int .i8 lr)) ∨
    ∃ g cap cur, row = some g ∧ bs ≠ [] ∧ LibA.Three w b q T R (.slice (some ⟨g, 0, none⟩) bs.length cap) (.int .i64 0) (.int .i8 lr) ∧ w.heap[g]? = some (.cells cur 5 (0, 0)) ∧ bs.length ≤ cap ∧ cap ≤ maxLen ∧ cur.size = cap ∧ cur.toList.take bs.length = Bys bs ∧ g ≠ b

theorem Bf.lt {w : World} {T b q : Nat} {R : Nat → Option Value} {row : Option Nat} {bs : List UInt8} (h : Bf w T b q R row bs) : b < w.heap.size := by
  obtain ⟨lr, ⟨_, _, h⟩ | ⟨g, cap, cur, _, _, h, _⟩⟩ := h <;> exact h.lt
theorem Bf.rowlt {w : World} {T b q : Nat} {R : Nat → Option Value} {row : Option Nat} {bs : List UInt8} (h : Bf w T b q R row bs) : ∀ g ∈ row, g < w.heap.size ∧ g ≠ b := by
  obtain ⟨lr, ⟨rfl, _, h⟩ | ⟨g, cap, cur, rfl, _, h, hg, _, _, _, _, hne⟩⟩ := h
  · intro g hg; cases hg
  · intro g' hg'; cases hg'; exact ⟨heap_lt hg, hne⟩
theorem Bf.same {w w' : World} {T b q : Nat} {R : Nat → Option Value} {row : Option Nat} {bs : List UInt8} (h : Bf w T b q R row bs) (e : w'.heap[b]? = w.heap[b]?) (e2 : ∀ g ∈ row, w'.heap[g]? = w.heap[g]?) : Bf w' T b q R row bs := by
  obtain ⟨lr, ⟨h1, h2, h⟩ | ⟨g, cap, cur, rfl, h2, h, hg, h3, h4, h5, h6, hne⟩⟩ := h
  · exact ⟨lr, .inl ⟨h1, h2, h.of_heap e⟩⟩
  · exact ⟨lr, .inr ⟨g, cap, cur, rfl, h2, h.of_heap e, (e2 g rfl).trans hg, h3, h4, h5, h6, hne⟩⟩
theorem Bf.kept {w w' : World} {S : List Nat} {T b q : Nat} {R : Nat → Option Value} {row : Option Nat} {bs : List UInt8} (h : Bf w T b q R row bs) (k : Kept S w w') (hb : b ∉ S) (hr : ∀ g ∈ row, g ∉ S) : Bf w' T b q R row bs :=
  h.same (k.block b h.lt hb) fun g hg => k.block g (h.rowlt g hg).1 (hr g hg)
/-- Another cell of the block is stored into. -/
theorem Bf.other {w : World} {T b q : Nat} {R : Nat → Option Value} {row : Option Nat} {bs : List UInt8} (h : Bf w T b q R row bs) (i : Nat) (hi : i < q ∨ q + 3 ≤ i) (hR : ∃ u, R i = some u) (v : Value) : Bf (w.setCell ⟨b, i, none⟩ v) T b q (fun j => if j = i then some v else R j) row bs := by
  have key : ∀ {x y z}, LibA.Three w b q T R x y z → LibA.Three (w.setCell ⟨b, i, none⟩ v) b q T (fun j => if j = i then some v else R j) x y z := by
    intro x y z h
    obtain ⟨cs, hb, h0, h1, h2, hr⟩ := h
    obtain ⟨u, hu⟩ := hR
    have hlt : i < cs.size := (Array.getElem?_eq_some_iff.1 ((hr i hi).trans hu)).1
    refine ⟨_, Lib.heap_setCell_same (i := i) hb v, ?_, ?_, ?_, fun j hj => ?_⟩
    · rw [Array.getElem?_setIfInBounds_ne (by omega)]; exact h0
    · rw [Array.getElem?_setIfInBounds_ne (by omega)]; exact h1
    · rw [Array.getElem?_setIfInBounds_ne (by omega)]; exact h2
    · by_cases hji : j = i
      · subst hji; simp [hlt]
      · rw [Array.getElem?_setIfInBounds_ne (by omega)]
        show cs[j]? = if j = i then some v else R j
        rw [if_neg hji]; exact hr j hj
  obtain ⟨lr, ⟨h1, h2, h⟩ | ⟨g, cap, cur, rfl, h2, h, hg, h3, h4, h5, h6, hne⟩⟩ := h
  · exact ⟨lr, .inl ⟨h1, h2, key h⟩⟩
  · exact ⟨lr, .inr ⟨g, cap, cur, rfl, h2, key h, by rw [Below.heap_setCell _ _ _ _ hne]; exact hg, h3, h4, h5, h6, hne⟩⟩
theorem Bf.rest {w : World} {T b q : Nat} {R : Nat → Option Value} {row : Option Nat} {bs : List UInt8} (h : Bf w T b q R row bs) (i : Nat) (hi : i < q ∨ q + 3 ≤ i) : w.cell? ⟨b, i, none⟩ = R i := by
  obtain ⟨lr, ⟨_, _, h⟩ | ⟨g, cap, cur, _, _, h, _⟩⟩ := h <;> exact h.rest i hi
theorem Bf.free {w : World} {T b q : Nat} {R : Nat → Option Value} {row : Option Nat} {bs : List UInt8} (h : Bf w T b q R row bs) (i : Nat) : w.frozen? ⟨b, i, none⟩ = false := by
  obtain ⟨lr, ⟨_, _, h⟩ | ⟨g, cap, cur, _, _, h, _⟩⟩ := h <;> exact h.f i

/-- Room for n bytes has been made: they will lie at l in the row g. -/
def Rm (w w' : World) (T b q : Nat) (R : Nat → Option Value) (g l n : Nat) (bs : List Value) : Prop :=
  ∃ cap cur lr, LibA.Three w' b q T R (.slice (some ⟨g, 0, none⟩) (l + n) cap) (.int .i64 0) (.int .i8 lr) ∧ w'.heap[g]? = some (.cells cur 5 (0, 0)) ∧ cur.size = cap ∧ cap ≤ maxLen ∧ l + n ≤ cap ∧ cur.toList.take l = bs ∧ g ≠ b ∧ Kept [b] w w'

theorem Rm.done {w w' : World} {T b q : Nat} {R : Nat → Option Value} {g l n cap : Nat} {lr : Int} {cur : Array Value} {bs p : List UInt8} (h3 : LibA.Three w' b q T R (.slice (some ⟨g, 0, none⟩) (l + n) cap) (.int .i64 0) (.int .i8 lr)) (hg : w'.heap[g]? = some (.cells cur 5 (0, 0)))
    (hcs : cur.size = cap) (hcm : cap ≤ maxLen) (hl : l + n ≤ cap) (htk : cur.toList.take l = Bys bs) (hgb : g ≠ b) (hk : Kept [b] w w') (hbl : bs.length = l) (hp : p.length = n) (hn : 0 < n) :
    Bf (w'.setRow g (cur.toList.take l ++ Bys p ++ cur.toList.drop (l + n)).toArray) T b q R (some g) (bs ++ p) ∧ Kept [b, g] w (w'.setRow g (cur.toList.take l ++ Bys p ++ cur.toList.drop (l + n)).toArray) := by
  have e1 : (Bys bs ++ Bys p).length = l + n := by simp; omega
  have e0 : bs.length + p.length = l + n := by omega
  refine ⟨⟨lr, .inr ⟨g, cap, (cur.toList.take l ++ Bys p ++ cur.toList.drop (l + n)).toArray, rfl, ?_, ?_, setRow_heap _ _ _ _ _ _ hg, ?_, hcm, ?_, ?_, hgb⟩⟩, (hk.weaken (by simp)).trans ((Kept.refl _ _).setRow (by simp) _)⟩
  · intro e
    have h1 := congrArg List.length e
    rw [List.length_append] at h1
    simp only [List.length_nil] at h1; omega
  · rw [List.length_append, e0]; exact h3.of_heap (setRow_other _ _ _ _ (Ne.symm hgb))
  · rw [List.length_append, e0]; exact hl
  · rw [htk]; simp; omega
  · rw [htk, List.length_append, e0]
    show List.take (l + n) (Bys bs ++ Bys p ++ List.drop (l + n) cur.toList) = Bys (bs ++ p)
    rw [List.take_left' e1]; simp [Bys]

theorem u8info : (Tryd.prog.info? 5).map (·.size) = some 1 := by kernel_rfl
theorem isBuffer_nil {w : World} {T b q : Nat} {R : Nat → Option Value} {lr : Int} (h : LibA.Three w b q T R (.slice none 0 0) (.int .i64 0) (.int .i8 lr)) : LibA.IsBuffer T R 5 0 b q [] w := ⟨Nat.zero_le _, _, _, h, World.ownsRow_nil _ _ _ _, by simp [Value.ownBlock]⟩

set_option maxHeartbeats 6400000 in
set_option maxRecDepth 100000 in
/-- grow, no row yet, n at most 64. -/
theorem grow_small (w : World) (T b q n : Nat) (R : Nat → Option Value) (lr : Int) (hbk : LibA.Three w b q T R (.slice none 0 0) (.int .i64 0) (.int .i8 lr)) (hn : 1 ≤ n) (h64 : n ≤ 64) :
    Calls Tryd.prog 55 #[.pointer (some ⟨b, q, none⟩), .int .i64 n] w fun e w' => e = .returned (.int .i64 0) ∧ ∃ g, w.heap.size ≤ g ∧ Rm w w' T b q R g 0 n [] := by
  obtain ⟨i0, hi, hz0, hz1, hz2⟩ := u8_info
  obtain ⟨M, hM⟩ : ∃ M, M = madeCells (Value.int .u8 0).cells ((64 : Int).toNat * i0.size) := ⟨_, rfl⟩
  have hMs : M.size = 64 := by rw [hM, size_madeCells, hz1]; rfl
  have hmk : ∀ W : World, (Instr.makeSlice 22 (.int .i64 (n : Int)) (.int .i64 64)).run Tryd.prog W = .ok (.slice (some ⟨W.heap.size, 0, none⟩) n 64) (W.alloc (.cells M 5)) := fun W => by
    have h := run_makeSlice (P := Tryd.prog) W 22 5 i0 (.int .u8 0) u8_und hi hz0 .i64 .i64 (n : Int) 64 (by omega) (by omega) (by rw [hz1]; decide) (by rw [hz2]; decide) (by decide)
    rw [← hM] at h
    simpa using h
  have HM := Lib.hid hMs
  clear hM hMs
  have hIs := isBuffer_nil hbk
  have hnil : ∀ W, (binOp .eql 22 (.slice none 0 0) (.slice none 0 0)).run Tryd.prog W = .ok (.bool true) W := fun W => Lib.run_eql_slice_nil_nil W _ _ u8_und
  go_enter Tryd.func55, Tryd.ntmps55
  go_wp2_with fail
  refine (Any.Buffer_Len_at { lay252 with } T R 0 b q [] _ hIs).mono ?_
  rintro e W0 ⟨rfl, k, hW0⟩
  have hbk0 : LibA.Three W0 b q T R (.slice none 0 0) (.int .i64 0) (.int .i8 lr) := by rw [hW0]; exact hbk
  have c0 : W0.cell? ⟨b, q, none⟩ = some (.slice none 0 0) := hbk0.c0
  have c1 : W0.cell? ⟨b, q + 1, none⟩ = some (.int .i64 0) := hbk0.c1
  have f0 : W0.frozen? ⟨b, q, none⟩ = false := hbk0.f q
  have f1 : W0.frozen? ⟨b, q + 1, none⟩ = false := hbk0.f (q + 1)
  have hbW0 := hbk0.lt
  have c0a : ∀ o, (W0.alloc o).cell? ⟨b, q, none⟩ = some (.slice none 0 0) := fun o => (World.cell?_of_block (a := ⟨b, q, none⟩) (Below.heap_alloc W0 o b hbW0)).trans c0
  have f0a : ∀ o, (W0.alloc o).frozen? ⟨b, q, none⟩ = false := fun o => (World.frozen?_of_block (a := ⟨b, q, none⟩) (Below.heap_alloc W0 o b hbW0)).trans f0
  have HW0 := Lib.hid hW0
  clear hW0 hIs
  go_wp2_with fail
  refine (Any.Buffer_tryGrow_none_at { lay252 with } b q _ 0 0 n _ c0 (Nat.le_refl _) (Nat.zero_le _) (by omega)).mono ?_
  rintro e w' ⟨rfl, rfl⟩
  go_wp2_with fail
  go_ret
  have hsz0 : w'.heap.size = w.heap.size := by rw [HW0.out]; rfl
  have hk0 : Kept [b] w w' := by rw [HW0.out]; exact (Kept.refl _ _).drewN _
  have hne : w'.heap.size ≠ b := by omega
  have hsz1 : (w'.setCell ⟨b, q, none⟩ (.slice (some ⟨w'.heap.size, 0, none⟩) n 64)).heap.size = w'.heap.size := by simp [World.setCell]
  refine ⟨rfl, w'.heap.size, by omega, 64, M, lr, ?_, ?_, HM.out, by unfold maxLen; omega, by omega, by simp, hne, ?_⟩
  · rw [Nat.zero_add]
    exact (hbk0.set0 _).of_heap (Below.heap_alloc _ _ _ (by rw [hsz1]; exact hbW0))
  · have h1 := heap_alloc_new (w'.setCell ⟨b, q, none⟩ (.slice (some ⟨w'.heap.size, 0, none⟩) n 64)) (.cells M 5)
    rwa [hsz1] at h1
  · exact (hk0.setCell (p := ⟨b, q, none⟩) (by simp) _).alloc _

theorem kept_of_below {w w' : World} {S : List Nat} (h : Below w.heap.size w w') : Kept S w w' := ⟨h.os, h.tape, h.output, h.size, fun k hk _ => h.block k hk⟩

/-- What grow leaves, where growSlice has laid the new row N. -/
theorem rm_end {w w0 w2 : World} {T b q N l n cap : Nat} {R : Nat → Option Value} {v0 : Value} {lr : Int} {cells : Array Value} {bs : List Value} (hk0 : Kept [b] w w0) (h3 : LibA.Three w2 b q T R v0 (.int .i64 0) (.int .i8 lr)) (hN : w2.heap[N]? = some (.cells cells 5 (0, 0))) (hNb : N ≠ b) (hsz : cells.size = cap)
    (htk : cells.toList.take l = bs) (hl : l + n ≤ cap) (hcm : cap ≤ maxLen) (hbel : Below w0.heap.size w0 w2) (v1 : Value) (m : Nat) (hm : m = l + n) :
    Rm w (((w2.setCell ⟨b, q, none⟩ v1).setCell ⟨b, q + 1, none⟩ (.int .i64 0)).setCell ⟨b, q, none⟩ (.slice (some ⟨N, 0, none⟩) m cap)) T b q R N l n bs := by
  subst hm
  refine ⟨cap, cells, lr, ((h3.set0 v1).set1 _).set0 _, ?_, hsz, hcm, hl, htk, hNb, ?_⟩
  · rw [Below.heap_setCell _ _ _ _ hNb, Below.heap_setCell _ _ _ _ hNb, Below.heap_setCell _ _ _ _ hNb]; exact hN
  · exact (((hk0.trans (kept_of_below hbel)).setCell (p := ⟨b, q, none⟩) (by simp) _).setCell (p := ⟨b, q + 1, none⟩) (by simp) _).setCell (p := ⟨b, q, none⟩) (by simp) _

set_option maxHeartbeats 12800000 in
set_option maxRecDepth 100000 in
/-- grow, no row yet, n above 64. -/
theorem grow_big (w : World) (T b q n : Nat) (R : Nat → Option Value) (lr : Int) (hbk : LibA.Three w b q T R (.slice none 0 0) (.int .i64 0) (.int .i8 lr)) (h64 : 64 < n) (hlim : n ≤ 140737488355328) :
    Calls Tryd.prog 55 #[.pointer (some ⟨b, q, none⟩), .int .i64 n] w fun e w' => e = .returned (.int .i64 0) ∧ ∃ g, w.heap.size ≤ g ∧ Rm w w' T b q R g 0 n [] := by
  have hn : 1 ≤ n := by omega
  have hIs := isBuffer_nil hbk
  have hnil : ∀ W, (binOp .eql 22 (.slice none 0 0) (.slice none 0 0)).run Tryd.prog W = .ok (.bool true) W := fun W => Lib.run_eql_slice_nil_nil W _ _ u8_und
  go_enter Tryd.func55, Tryd.ntmps55
  go_wp2_with fail
  refine (Any.Buffer_Len_at { lay252 with } T R 0 b q [] _ hIs).mono ?_
  rintro e W0 ⟨rfl, k, hW0⟩
  have hbk0 : LibA.Three W0 b q T R (.slice none 0 0) (.int .i64 0) (.int .i8 lr) := by rw [hW0]; exact hbk
  have c0 : W0.cell? ⟨b, q, none⟩ = some (.slice none 0 0) := hbk0.c0
  have c1 : W0.cell? ⟨b, q + 1, none⟩ = some (.int .i64 0) := hbk0.c1
  have f0 : W0.frozen? ⟨b, q, none⟩ = false := hbk0.f q
  have f1 : W0.frozen? ⟨b, q + 1, none⟩ = false := hbk0.f (q + 1)
  have HW0 := Lib.hid hW0
  clear hW0 hIs
  go_wp2_with fail
  refine (Any.Buffer_tryGrow_none_at { lay252 with } b q _ 0 0 n _ c0 (Nat.le_refl _) (Nat.zero_le _) (by omega)).mono ?_
  rintro e w' ⟨rfl, rfl⟩
  go_wp2_with fail
  have hbW := hbk0.lt
  have hwn : IntKind.i64.wrap (n : Int) = n := by rw [IntKind.wrap_i64]; omega
  go_region_with (
      go_at_call 57
      refine (Any.bytes_growSlice_nil { lay252 with } n _ hn hlim).mono ?_
      rintro e w2 ⟨cap2, cells, rfl, hN, hcsz, hcap2, hcm2, hbel⟩
      have hbk2 : LibA.Three w2 b q T R (.slice none 0 0) (.int .i64 0) (.int .i8 lr) := hbk0.of_heap (hbel.block b hbW)
      have d0 : w2.cell? ⟨b, q, none⟩ = some (.slice none 0 0) := hbk2.c0
      have d1 : w2.cell? ⟨b, q + 1, none⟩ = some (.int .i64 0) := hbk2.c1
      have e0 : w2.frozen? ⟨b, q, none⟩ = false := hbk2.f q
      have e1 : w2.frozen? ⟨b, q + 1, none⟩ = false := hbk2.f (q + 1)
      have HN := Lib.hid hN; have HC := Lib.hid hcsz; clear hN hcsz)
  all_goals (
    go_wp2_with fail
    go_ret
    have hsz0 : w'.heap.size = w.heap.size := by rw [HW0.out]; rfl
    have hk0 : Kept [b] w w'.drew := by rw [HW0.out]; exact ((Kept.refl _ _).drewN _).drew
    refine ⟨rfl, w'.heap.size, by omega, ?_⟩
    exact rm_end (l := 0) (n := n) (bs := []) hk0 hbk2 HN.out (by show w'.heap.size ≠ b; omega) HC.out (by simp) (by omega) hcm2 hbel _ n (by omega))

/-- The buffer as the shelf reads it. -/
theorem isBuffer_row {w : World} {T b q g l cap : Nat} {R : Nat → Option Value} {lr : Int} {cur : Array Value} {bs : List Value} (hbk : LibA.Three w b q T R (.slice (some ⟨g, 0, none⟩) l cap) (.int .i64 0) (.int .i8 lr)) (hl : bs.length = l) (hg : w.heap[g]? = some (.cells cur 5 (0, 0))) (hlc : l ≤ cap) (hcm : cap ≤ maxLen) (hcs : cur.size = cap) (htake : cur.toList.take l = bs) (hgb : g ≠ b) : LibA.IsBuffer T R 5 0 b q bs w :=
  ⟨Nat.zero_le _, _, _, hbk, ⟨by rw [hl, Nat.mul_one], .inr ⟨g, cap, cur, by rw [hl], Nat.zero_le _, hg, by omega, hcm, by omega, by rw [hl, Nat.mul_one]; exact htake⟩⟩, by simp [Value.ownBlock]; exact hgb⟩

set_option maxHeartbeats 12800000 in
set_option maxRecDepth 100000 in
/-- grow, where the row has no room. -/
theorem grow_row (w : World) (T b q g l cap n : Nat) (R : Nat → Option Value) (lr : Int) (cur : Array Value) (bs : List UInt8)
    (hbk : LibA.Three w b q T R (.slice (some ⟨g, 0, none⟩) l cap) (.int .i64 0) (.int .i8 lr)) (hl : bs.length = l) (hl0 : 0 < l) (hg : w.heap[g]? = some (.cells cur 5 (0, 0))) (hlc : l ≤ cap) (hcm : cap ≤ maxLen) (hcs : cur.size = cap) (htake : cur.toList.take l = Bys bs) (hgb : g ≠ b)
    (hn : 1 ≤ n) (hroom : cap - l < n) (hlim : l + n ≤ 140737488355328) :
    Calls Tryd.prog 55 #[.pointer (some ⟨b, q, none⟩), .int .i64 n] w fun e w' => e = .returned (.int .i64 l) ∧ ∃ g, w.heap.size ≤ g ∧ Rm w w' T b q R g l n (Bys bs) := by
  have hIs := isBuffer_row hbk (by rw [Bys_length]; exact hl) hg hlc hcm hcs htake hgb
  have hnil : ∀ W, (binOp .eql 22 (.slice (some ⟨g, 0, none⟩) l cap) (.slice none 0 0)).run Tryd.prog W = .ok (.bool false) W := fun W => Lib.run_eql_slice_some_nil W _ _ _ u8_und
  go_enter Tryd.func55, Tryd.ntmps55
  go_wp2_with fail
  refine (Any.Buffer_Len_at { lay252 with } T R 0 b q (Bys bs) _ hIs).mono ?_
  rintro e W0 ⟨rfl, k, hW0⟩
  rw [Bys_length, hl]
  have hbk0 : LibA.Three W0 b q T R (.slice (some ⟨g, 0, none⟩) l cap) (.int .i64 0) (.int .i8 lr) := by rw [hW0]; exact hbk
  have hg0 : W0.heap[g]? = some (.cells cur 5 (0, 0)) := by rw [hW0]; exact hg
  have c0 : W0.cell? ⟨b, q, none⟩ = some (.slice (some ⟨g, 0, none⟩) l cap) := hbk0.c0
  have c1 : W0.cell? ⟨b, q + 1, none⟩ = some (.int .i64 0) := hbk0.c1
  have f0 : W0.frozen? ⟨b, q, none⟩ = false := hbk0.f q
  have f1 : W0.frozen? ⟨b, q + 1, none⟩ = false := hbk0.f (q + 1)
  have HW0 := Lib.hid hW0; have HL := Lib.hid hl; have HG0 := Lib.hid hg0; have HCS := Lib.hid hcs; have HTK := Lib.hid htake
  clear hW0 hIs hl hg0 hcs htake hg
  have hcm' := hcm
  unfold maxLen at hcm'
  go_wp2_with fail
  refine (Any.Buffer_tryGrow_none_at { lay252 with } b q _ l cap n _ c0 hlc hcm hroom).mono ?_
  rintro e w' ⟨rfl, rfl⟩
  go_wp2_with fail
  have hc2 : cap ≤ 140737488355328 := by omega
  have hbW := hbk0.lt
  have hwn : IntKind.i64.wrap (n : Int) = n := by rw [IntKind.wrap_i64]; omega
  have hone : ∀ v ∈ cur.toList.take l, v.oneCell' = true := by rw [HTK.out]; exact Bys_one _
  go_region_with (
      go_at_call 57
      refine (Any.bytes_growSlice_row { lay252 with } g l cap n cur _ ?_ HCS.out hlc hn hlim hc2 hone).mono ?_
      exact HG0.out
      rintro e w2 ⟨cap2, cells, rfl, hN, hcsz, htk, hcap2, hcm2, hbel⟩
      have hbk2 : LibA.Three w2 b q T R (.slice (some ⟨g, 0, none⟩) l cap) (.int .i64 0) (.int .i8 lr) := hbk0.of_heap (hbel.block b hbW)
      have d0 : w2.cell? ⟨b, q, none⟩ = some (.slice (some ⟨g, 0, none⟩) l cap) := hbk2.c0
      have d1 : w2.cell? ⟨b, q + 1, none⟩ = some (.int .i64 0) := hbk2.c1
      have e0 : w2.frozen? ⟨b, q, none⟩ = false := hbk2.f q
      have e1 : w2.frozen? ⟨b, q + 1, none⟩ = false := hbk2.f (q + 1)
      have HN := Lib.hid hN; have HC := Lib.hid hcsz; have HT := Lib.hid htk; clear hN hcsz htk)
  all_goals (
    go_wp2_with fail
    go_ret
    have hsz0 : w'.heap.size = w.heap.size := by rw [HW0.out]; rfl
    have hk0 : Kept [b] w w'.drew := by rw [HW0.out]; exact ((Kept.refl _ _).drewN _).drew
    refine ⟨rfl, w'.heap.size, by omega, ?_⟩
    exact rm_end (l := l) (n := n) (bs := Bys bs) hk0 hbk2 HN.out (by show w'.heap.size ≠ b; omega) HC.out (HT.out.trans HTK.out) (by omega) hcm2 hbel _ _ rfl)

end Go.Proofs.YtejjmonaoajlgaaDoor
