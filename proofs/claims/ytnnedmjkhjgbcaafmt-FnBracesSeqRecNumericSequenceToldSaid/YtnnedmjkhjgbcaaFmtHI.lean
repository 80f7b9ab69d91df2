/-
  The statements' own makers: a literal, a word of one literal, a list brace, a copy of a list of strings, the word of two lists.
-/
import Derived.Test.YtnnedmjkhjgbcaaFmtHH
import Derived.Lib.LazyBuf
namespace Go.Proofs.YtnnedmjkhjgbcaaFmt
open Go.RowKit

def strV (l : List ByteArray) : List Value := l.map Value.string
def Any (_ : Nat) : Prop := True

theorem zlit (s : ByteArray) (w : World) : Calls Tryf.prog 8 #[.string s] w fun e w' => e = .returned (.pointer (some ⟨w.heap.size, 0, none⟩)) ∧ w' = w.alloc (.cells #[.int .u32 0, .int .u32 0, .int .u32 0, .int .u32 0, .string s] 50) := by
  go_enter Tryf.func8, Tryf.ntmps8
  go_wp2_with fail
  go_ret
  exact ⟨rfl, rfl⟩

theorem lit_cell {w : World} {s : ByteArray} : (w.alloc (.cells #[.int .u32 0, .int .u32 0, .int .u32 0, .int .u32 0, .string s] 50)).cell? ⟨w.heap.size, 4, none⟩ = some (.string s) := row_cell (L := [.int .u32 0, .int .u32 0, .int .u32 0, .int .u32 0, .string s]) (heap_alloc_new w _) 4

/-- A word of one literal; its blocks lie from m on. -/
def OneWord (w : World) (m eb lb : Nat) (s : ByteArray) : Prop := (∃ pv, WordAt w eb pv ∧ RdV (m ≤ ·) w pv [litV lb]) ∧ w.cell? ⟨lb, 4, none⟩ = some (.string s) ∧ m ≤ eb ∧ m ≤ lb
theorem OneWord.kept {w w' : World} {S : List Nat} {m eb lb : Nat} {s : ByteArray} (h : OneWord w m eb lb s) (k : Kept S w w') (hS : ∀ x ∈ S, x < m) : OneWord w' m eb lb s := by
  obtain ⟨⟨pv, h1, h2⟩, h3, h4, h5⟩ := h
  have hn : ∀ g, m ≤ g → g ∉ S := fun g hg hm => by have := hS g hm; omega
  exact ⟨⟨pv, h1.kept k (hn _ h4), h2.kept k (fun g hg _ => hn g hg)⟩, (k.cell (p := ⟨lb, 4, none⟩) (block_lt_of_cell h3) (hn _ h5)).trans h3, h4, h5⟩
theorem OneWord.low {w : World} {m m' eb lb : Nat} {s : ByteArray} (h : OneWord w m eb lb s) (hm : m' ≤ m) : OneWord w m' eb lb s := by
  obtain ⟨⟨pv, h1, h2⟩, h3, h4, h5⟩ := h
  exact ⟨⟨pv, h1, h2.weaken (fun g _ hg => Nat.le_trans hm hg)⟩, h3, by omega, by omega⟩

set_option maxRecDepth 100000 in
theorem zlitword (s : ByteArray) (w : World) : Calls Tryf.prog 6 #[.string s] w fun e w' => e = .returned (.pointer (some ⟨w.heap.size + 2, 0, none⟩)) ∧ OneWord w' w.heap.size (w.heap.size + 2) w.heap.size s ∧ Kept [] w w' := by
  have HZ := Lib.hid (zlit s w)
  go_enter Tryf.func6, Tryf.ntmps6
  go_wp2_with (go_at_call 8; refine HZ.out.mono ?_; rintro e w1 ⟨rfl, rfl⟩)
  go_ret
  refine ⟨rfl, ⟨⟨.slice (some ⟨w.heap.size + 1, 0, none⟩) 1 1, ?_, ?_⟩, ?_, by omega, Nat.le_refl _⟩, (((Kept.refl _ _).alloc _).alloc _).alloc _⟩
  · have h := heap_alloc_new ((w.alloc (.cells #[.int .u32 0, .int .u32 0, .int .u32 0, .int .u32 0, .string s] 50)).alloc (.cells #[litV w.heap.size] 52)) (.cells #[.slice (some ⟨w.heap.size + 1, 0, none⟩) 1 1] 37)
    simpa [WordAt, litV] using h
  · have h := (OwnV.lit (T := 52) (w.alloc (.cells #[.int .u32 0, .int .u32 0, .int .u32 0, .int .u32 0, .string s] 50)) [litV w.heap.size] (by simp)).rd
    have h2 := (h.weaken (Q := (w.heap.size ≤ ·)) (fun g _ hg => by cases hg; simp)).kept ((Kept.refl [] _).alloc (.cells #[.slice (some ⟨w.heap.size + 1, 0, none⟩) 1 1] 37)) (by simp)
    simpa [litV] using h2
  · have k : Kept [] (w.alloc (.cells #[.int .u32 0, .int .u32 0, .int .u32 0, .int .u32 0, .string s] 50)) _ := ((Kept.refl [] _).alloc (.cells #[litV w.heap.size] 52)).alloc (.cells #[.slice (some ⟨w.heap.size + 1, 0, none⟩) 1 1] 37)
    exact (k.cell (p := ⟨w.heap.size, 4, none⟩) (by simp) (by simp)).trans lit_cell

def zp (n : Nat) : List Value := List.replicate n (Value.pointer none)
theorem made_zp (z : Value) (hz : z.cells = #[z]) (n : Nat) : madeCells z.cells n = (List.replicate n z).toArray := by
  rw [hz]
  apply Array.ext
  · simp [madeCells]
  · intro i h1 h2
    simp [madeCells, Nat.mod_one]
theorem make_el {ST T : TypeId} {z : Value} (he : ElT ST T z) (hz1 : z.cells = #[z]) (n : Nat) (hn : n < 10000000) (w : World) :
    (Instr.makeSlice ST (.int .i64 n) (.int .i64 n)).run Tryf.prog w = .ok (.slice (some ⟨w.heap.size, 0, none⟩) n n) (w.alloc (.cells (List.replicate n z).toArray T)) := by
  obtain ⟨hu, ⟨i, h1, h2, h3, h4⟩, _⟩ := he
  have hb : n * i.bytes ≤ n * 16 := Nat.mul_le_mul_left _ h4
  have hb2 : i.bytes * n ≤ 16 * n := Nat.mul_le_mul_right _ h4
  rw [run_make w _ _ i _ hu h1 h2 .i64 .i64 n n (by omega) (by omega) (by omega) (by omega)]
  simp [h3, made_zp z hz1]

/-- The list so far: n cells, the first k of them filled. -/
def Filled (T : TypeId) (w wr : World) (n : Nat) (vs : List Value) (z : Value) : Prop := wr.heap[w.heap.size]? = some (.cells (vs ++ List.replicate (n - vs.length) z).toArray T (0, 0)) ∧ Kept [] w wr
theorem filled_set {T : TypeId} {w wr : World} {n : Nat} {vs : List Value} {z x : Value} (h : Filled T w wr n vs z) (hk : vs.length < n) : Filled T w (wr.setCell ⟨w.heap.size, vs.length, none⟩ x) n (vs ++ [x]) z := by
  obtain ⟨h1, h2⟩ := h
  refine ⟨?_, ((h2.weaken (S' := [w.heap.size]) (by simp)).setCell (by simp) x).weaken (by simp)⟩
  rw [row_set h1]
  congr 3
  obtain ⟨m, hm⟩ : ∃ m, n - vs.length = m + 1 := ⟨n - vs.length - 1, by omega⟩
  rw [hm, List.replicate_succ, List.set_append_right _ _ (Nat.le_refl _), Nat.sub_self, List.set_cons_zero, List.length_append, show n - (vs.length + [x].length) = m by simp; omega]
  simp
theorem Filled.kept {T : TypeId} {w wr w2 : World} {n : Nat} {vs : List Value} {z : Value} (h : Filled T w wr n vs z) (k : Kept [] wr w2) : Filled T w w2 n vs z := ⟨(k.block _ (heap_lt h.1) (by simp)).trans h.1, h.2.trans k⟩
theorem Filled.done {T : TypeId} {w wr : World} {n : Nat} {vs : List Value} {z : Value} (h : Filled T w wr n vs z) (hl : vs.length = n) (hn : n ≤ 1000000000) : RdV (w.heap.size ≤ ·) wr (.slice (some ⟨w.heap.size, 0, none⟩) n n) vs := by
  obtain ⟨h1, h2⟩ := h
  subst hl
  refine ⟨_, _, rfl, Nat.le_refl _, by unfold maxLen; omega, (fun h => by cases h), fun _ => ⟨_, _, rfl⟩, fun h0 => ⟨_, _, rfl, heap_lt h1, Nat.le_refl _, fun j x hj => ?_⟩⟩
  rw [Nat.zero_add, row_cell h1, Nat.sub_self]
  simpa using hj
theorem strs_len {w : World} {P : Nat → Prop} {A : Option Addr} {n c : Nat} {xs : List ByteArray} (h : RdV P w (.slice A n c) (strV xs)) : xs.length = n := by
  obtain ⟨_, _, e, _⟩ := h
  cases e
  simp [strV]
theorem strs_cell {w : World} {P : Nat → Prop} {g o n c k : Nat} {xs : List ByteArray} {x : ByteArray} (h : RdV P w (.slice (some ⟨g, o, none⟩) n c) (strV xs)) (hx : xs[k]? = some x) : w.cell? ⟨g, o + k, none⟩ = some (.string x) ∧ g < w.heap.size := by
  have hk : k < xs.length := (List.getElem?_eq_some_iff.1 hx).1
  obtain ⟨_, _, e, _, _, _, _, h4⟩ := h
  cases e
  obtain ⟨g', o', e, hg, _, hc⟩ := h4 (by simp [strV]; omega)
  cases e
  exact ⟨hc k _ (by unfold strV; rw [List.getElem?_map, hx]; rfl), hg⟩
theorem strV_next {xs : List ByteArray} {k : Nat} {x : ByteArray} (hx : xs[k]? = some x) : strV (xs.take (k + 1)) = strV (xs.take k) ++ [.string x] := by
  unfold strV
  rw [List.take_add_one, hx, List.map_append]
  rfl
theorem strV_take_len {xs : List ByteArray} {k : Nat} (hk : k ≤ xs.length) : (strV (xs.take k)).length = k := by simp [strV]; omega
theorem strs_und : Tryf.prog.underlying 38 = some (.slice 9) := by kernel_rfl
theorem isLit_litV (b : Nat) : IsLit (litV b) := ⟨b, rfl⟩
theorem zlit_k (s : ByteArray) (w : World) : Calls Tryf.prog 8 #[.string s] w fun e w' => e = .returned (.pointer (some ⟨w.heap.size, 0, none⟩)) ∧ w'.cell? ⟨w.heap.size, 4, none⟩ = some (.string s) ∧ Kept [] w w' :=
  (zlit s w).mono (fun e w' h => by obtain ⟨h1, rfl⟩ := h; exact ⟨h1, lit_cell, (Kept.refl _ _).alloc _⟩)
theorem ext_of {s : ByteArray} {a n : Nat} {l : ByteArray} (h : (s.data.toList.drop a).take n = l.data.toList) : s.extract a (a + n) = l := by
  apply ByteArray.ext
  apply Array.toList_inj.1
  rw [ext_list, show a + n - a = n by omega, h]

theorem ext_mid {s p : ByteArray} {A R : List UInt8} {a : Nat} (h : s.data.toList = A ++ (p.data.toList ++ R)) (ha : A.length = a) : s.extract a (a + p.size) = p := by
  refine ext_of ?_
  have z : p.data.toList.length = p.size := rfl
  rw [h, ← ha, List.drop_left, ← z, List.take_left]

set_option maxRecDepth 100000 in
set_option maxHeartbeats 1600000 in
theorem iscat_yes (s p0 p1 p2 p3 p4 : ByteArray) (hs : s = catB [p0, p1, p2, p3, p4]) (hz : s.size ≤ 1000000000) (w : World) :
    Calls Tryf.prog 12 #[.string s, .string p0, .string p1, .string p2, .string p3, .string p4] w fun e w' => e = .returned (.bool true) ∧ w = w' := by
  have hl : s.data.toList = p0.data.toList ++ (p1.data.toList ++ (p2.data.toList ++ (p3.data.toList ++ p4.data.toList))) := by rw [hs]; simp [catB]
  have z : ∀ p : ByteArray, p.data.toList.length = p.size := fun _ => rfl
  have hsz : s.size = p0.size + p1.size + p2.size + p3.size + p4.size := by
    have := congrArg List.length hl
    simp only [List.length_append, z] at this
    omega
  have e0 : s.extract 0 p0.size = p0 := by
    have := ext_mid (s := s) (p := p0) (A := []) (a := 0) hl rfl
    simpa using this
  have e1 : s.extract p0.size (p0.size + p1.size) = p1 := ext_mid (A := p0.data.toList) hl (z p0)
  have e2 : s.extract (p0.size + p1.size) (p0.size + p1.size + p2.size) = p2 := ext_mid (A := p0.data.toList ++ p1.data.toList) (by rw [hl]; simp [List.append_assoc]; rfl) (by rw [List.length_append, z, z])
  have e3 : s.extract (p0.size + p1.size + p2.size) (p0.size + p1.size + p2.size + p3.size) = p3 := ext_mid (A := p0.data.toList ++ p1.data.toList ++ p2.data.toList) (by rw [hl]; simp [List.append_assoc]; rfl) (by rw [List.length_append, List.length_append, z, z, z])
  have e4 : s.extract (p0.size + p1.size + p2.size + p3.size) s.size = p4 := by
    rw [hsz]
    exact ext_mid (A := p0.data.toList ++ p1.data.toList ++ p2.data.toList ++ p3.data.toList) (R := []) (by rw [hl]; simp [List.append_assoc]) (by rw [List.length_append, List.length_append, List.length_append, z, z, z, z])
  clear hl hs z
  go_enter Tryf.func12, Tryf.ntmps12
  go_wp2_with fail
  go_ret
  rw [hsz] at e4
  exact ⟨by simp [e4], rfl⟩
/-- The running sum of lengths; none: too much. -/
def acc (n : Nat) : List Nat → Option Nat
  | [] => some n
  | s :: r => if 1048576 < s then none else if 1048576 < n + s then none else acc (n + s) r
theorem acc_le {n m : Nat} {l : List Nat} (hn : n ≤ 1048576) (h : acc n l = some m) : m ≤ 1048576 := by
  induction l generalizing n with
  | nil => cases h; exact hn
  | cons s r ih =>
    unfold acc at h
    split at h
    · cases h
    · split at h
      · cases h
      · exact ih (by omega) h
def szs (xs : List ByteArray) : List Nat := xs.map (·.size)
theorem szs_drop {xs : List ByteArray} {k : Nat} {x : ByteArray} (h : xs[k]? = some x) : (szs xs).drop k = x.size :: (szs xs).drop (k + 1) := by
  have hk : k < xs.length := (List.getElem?_eq_some_iff.1 h).1
  have e : xs[k] = x := (List.getElem?_eq_some_iff.1 h).2
  unfold szs
  rw [List.drop_eq_getElem_cons (by simpa using hk)]
  simp [e]
theorem szs_end {xs : List ByteArray} {k : Nat} (h : xs.length ≤ k) : (szs xs).drop k = [] := List.drop_of_length_le (by unfold szs; simpa using h)
theorem strs_at {w : World} {P : Nat → Prop} {A : Option Addr} {n c : Nat} {xs : List ByteArray} (h : RdV P w (.slice A n c) (strV xs)) : Hid (∀ (k : Nat) (x : ByteArray), xs[k]? = some x → ∃ g o, A = some ⟨g, o, none⟩ ∧ w.cell? ⟨g, o + k, none⟩ = some (.string x)) := Lib.hid (fun k x hx => by
    have hk : k < xs.length := (List.getElem?_eq_some_iff.1 hx).1
    obtain ⟨g, o, rfl⟩ : ∃ g o, A = some ⟨g, o, none⟩ := by
      obtain ⟨_, c', e, h1, _, h3, h5, h4⟩ := h
      cases e
      obtain ⟨g, o, e, _⟩ := h4 (by simp [strV]; omega)
      exact ⟨g, o, e⟩
    exact ⟨g, o, rfl, (strs_cell h hx).1⟩)
end Go.Proofs.YtnnedmjkhjgbcaaFmt
