/-
  The statements' own makers: a literal, a word of one literal, a list brace, a copy of a list of strings, the word of two lists.
-/
import Derived.Test.YtafgbgdehpcapaaGreatFmtHH
import Derived.Lib.LazyBuf
namespace Go.Proofs.YtafgbgdehpcapaaGreatFmt
open Go.RowKit

def strV (l : List ByteArray) : List Value := l.map Value.string
def Any (_ : Nat) : Prop := True

theorem zlit (s : ByteArray) (w : World) : Calls Tryz.prog 19 #[.string s] w fun e w' => e = .returned (.pointer (some ⟨w.heap.size, 0, none⟩)) ∧ w' = w.alloc (.cells #[.int .u32 0, .int .u32 0, .int .u32 0, .int .u32 0, .string s] 58) := by
  go_enter Tryz.func19, Tryz.ntmps19
  go_wp2_with fail
  go_ret
  exact ⟨rfl, rfl⟩

theorem lit_cell {w : World} {s : ByteArray} : (w.alloc (.cells #[.int .u32 0, .int .u32 0, .int .u32 0, .int .u32 0, .string s] 58)).cell? ⟨w.heap.size, 4, none⟩ = some (.string s) := row_cell (L := [.int .u32 0, .int .u32 0, .int .u32 0, .int .u32 0, .string s]) (heap_alloc_new w _) 4

/-- A word of one literal; its blocks lie from m on. -/
def OneWord (w : World) (m eb lb : Nat) (s : ByteArray) : Prop := (∃ pv, WordAt w eb pv ∧ RdV (m ≤ ·) w pv [litV lb]) ∧ w.cell? ⟨lb, 4, none⟩ = some (.string s) ∧ m ≤ eb ∧ m ≤ lb
theorem OneWord.kept {w w' : World} {S : List Nat} {m eb lb : Nat} {s : ByteArray} (h : OneWord w m eb lb s) (k : Kept S w w') (hS : ∀ x ∈ S, x < m) : OneWord w' m eb lb s := by
  obtain ⟨⟨pv, h1, h2⟩, h3, h4, h5⟩ := h
  have hn : ∀ g, m ≤ g → g ∉ S := fun g hg hm => by have := hS g hm; omega
  exact ⟨⟨pv, h1.kept k (hn _ h4), h2.kept k (fun g hg _ => hn g hg)⟩, (k.cell (p := ⟨lb, 4, none⟩) (block_lt_of_cell h3) (hn _ h5)).trans h3, h4, h5⟩
theorem OneWord.low {w : World} {m m' eb lb : Nat} {s : ByteArray} (h : OneWord w m eb lb s) (hm : m' ≤ m) : OneWord w m' eb lb s := by
  obtain ⟨⟨pv, h1, h2⟩, h3, h4, h5⟩ := h
  exact ⟨⟨pv, h1, h2.weaken (fun g _ hg => Nat.le_trans hm hg)⟩, h3, by omega, by omega⟩

set_option maxRecDepth 100000 in
theorem zlitword (s : ByteArray) (w : World) : Calls Tryz.prog 29 #[.string s] w fun e w' => e = .returned (.pointer (some ⟨w.heap.size + 2, 0, none⟩)) ∧ OneWord w' w.heap.size (w.heap.size + 2) w.heap.size s ∧ Kept [] w w' := by
  have HZ := Lib.hid (zlit s w)
  go_enter Tryz.func29, Tryz.ntmps29
  go_wp2_with (go_at_call 19; refine HZ.out.mono ?_; rintro e w1 ⟨rfl, rfl⟩)
  go_ret
  refine ⟨rfl, ⟨⟨.slice (some ⟨w.heap.size + 1, 0, none⟩) 1 1, ?_, ?_⟩, ?_, by omega, Nat.le_refl _⟩, (((Kept.refl _ _).alloc _).alloc _).alloc _⟩
  · have h := heap_alloc_new ((w.alloc (.cells #[.int .u32 0, .int .u32 0, .int .u32 0, .int .u32 0, .string s] 58)).alloc (.cells #[litV w.heap.size] 52)) (.cells #[.slice (some ⟨w.heap.size + 1, 0, none⟩) 1 1] 46)
    simpa [WordAt, litV] using h
  · have h := (OwnV.lit (T := 52) (w.alloc (.cells #[.int .u32 0, .int .u32 0, .int .u32 0, .int .u32 0, .string s] 58)) [litV w.heap.size] (by simp)).rd
    have h2 := (h.weaken (Q := (w.heap.size ≤ ·)) (fun g _ hg => by cases hg; simp)).kept ((Kept.refl [] _).alloc (.cells #[.slice (some ⟨w.heap.size + 1, 0, none⟩) 1 1] 46)) (by simp)
    simpa [litV] using h2
  · have k : Kept [] (w.alloc (.cells #[.int .u32 0, .int .u32 0, .int .u32 0, .int .u32 0, .string s] 58)) _ := ((Kept.refl [] _).alloc (.cells #[litV w.heap.size] 52)).alloc (.cells #[.slice (some ⟨w.heap.size + 1, 0, none⟩) 1 1] 46)
    exact (k.cell (p := ⟨w.heap.size, 4, none⟩) (by simp) (by simp)).trans lit_cell

def zp (n : Nat) : List Value := List.replicate n (Value.pointer none)
theorem made_zp (z : Value) (hz : z.cells = #[z]) (n : Nat) : madeCells z.cells n = (List.replicate n z).toArray := by
  rw [hz]
  apply Array.ext
  · simp [madeCells]
  · intro i h1 h2
    simp [madeCells, Nat.mod_one]
theorem make_el {ST T : TypeId} {z : Value} (he : ElT ST T z) (hz1 : z.cells = #[z]) (n : Nat) (hn : n < 10000000) (w : World) :
    (Instr.makeSlice ST (.int .i64 n) (.int .i64 n)).run Tryz.prog w = .ok (.slice (some ⟨w.heap.size, 0, none⟩) n n) (w.alloc (.cells (List.replicate n z).toArray T)) := by
  obtain ⟨hu, ⟨i, h1, h2, h3, h4⟩, _⟩ := he
  have hb : n * i.bytes ≤ n * 16 := Nat.mul_le_mul_left _ h4
  have hb2 : i.bytes * n ≤ 16 * n := Nat.mul_le_mul_right _ h4
  rw [run_make w _ _ i _ hu h1 h2 .i64 .i64 n n (by omega) (by omega) (by omega) (by omega)]
  simp [h3, made_zp z hz1]

/-- The list so far: n cells, the first k of them filled. -/
def Filled (T : TypeId) (w wr : World) (n : Nat) (vs : List Value) (z : Value) : Prop := wr.heap[w.heap.size]? = some (.cells (vs ++ List.replicate (n - vs.length) z).toArray T (0, 0)) ∧ Kept [] w wr
theorem filled_set {T : TypeId} {w wr : World} {n : Nat} {vs : List Value} {z x : Value} (h : Filled T w wr n vs z) (hk : vs.length < n) : Filled T w (wr.setCell ⟨w.heap.size, vs.length, none⟩ x) n (vs ++ [x]) z := by
  obtain ⟨h1, h2⟩ := h
  refine ⟨?_, ((h2.weaken (S' := [w.heap.size]) (by simp)).setCell (by simp) x).weaken (by simp)⟩
  rw [row_set h1]
  congr 3
  obtain ⟨m, hm⟩ : ∃ m, n - vs.length = m + 1 := ⟨n - vs.length - 1, by omega⟩
  rw [hm, List.replicate_succ, List.set_append_right _ _ (Nat.le_refl _), Nat.sub_self, List.set_cons_zero, List.length_append, show n - (vs.length + [x].length) = m by simp; omega]
  simp
theorem Filled.kept {T : TypeId} {w wr w2 : World} {n : Nat} {vs : List Value} {z : Value} (h : Filled T w wr n vs z) (k : Kept [] wr w2) : Filled T w w2 n vs z := ⟨(k.block _ (heap_lt h.1) (by simp)).trans h.1, h.2.trans k⟩
theorem Filled.done {T : TypeId} {w wr : World} {n : Nat} {vs : List Value} {z : Value} (h : Filled T w wr n vs z) (hl : vs.length = n) (hn : n ≤ 1000000000) : RdV (w.heap.size ≤ ·) wr (.slice (some ⟨w.heap.size, 0, none⟩) n n) vs := by
  obtain ⟨h1, h2⟩ := h
  subst hl
  refine ⟨_, _, rfl, Nat.le_refl _, by unfold maxLen; omega, (fun h => by cases h), fun _ => ⟨_, _, rfl⟩, fun h0 => ⟨_, _, rfl, heap_lt h1, Nat.le_refl _, fun j x hj => ?_⟩⟩
  rw [Nat.zero_add, row_cell h1, Nat.sub_self]
  simpa using hj

def ClPost (w : World) (n : Nat) (xs : List ByteArray) (e : Ending) (w' : World) : Prop := ∃ A' c', e = .returned (.slice A' n c') ∧ RdV (w.heap.size ≤ ·) w' (.slice A' n c') (strV xs) ∧ Kept [] w w'
theorem strs_len {w : World} {P : Nat → Prop} {A : Option Addr} {n c : Nat} {xs : List ByteArray} (h : RdV P w (.slice A n c) (strV xs)) : xs.length = n := by
  obtain ⟨_, _, e, _⟩ := h
  cases e
  simp [strV]
theorem strs_cell {w : World} {P : Nat → Prop} {g o n c k : Nat} {xs : List ByteArray} {x : ByteArray} (h : RdV P w (.slice (some ⟨g, o, none⟩) n c) (strV xs)) (hx : xs[k]? = some x) : w.cell? ⟨g, o + k, none⟩ = some (.string x) ∧ g < w.heap.size := by
  have hk : k < xs.length := (List.getElem?_eq_some_iff.1 hx).1
  obtain ⟨_, _, e, _, _, _, _, h4⟩ := h
  cases e
  obtain ⟨g', o', e, hg, _, hc⟩ := h4 (by simp [strV]; omega)
  cases e
  exact ⟨hc k _ (by unfold strV; rw [List.getElem?_map, hx]; rfl), hg⟩
theorem strV_next {xs : List ByteArray} {k : Nat} {x : ByteArray} (hx : xs[k]? = some x) : strV (xs.take (k + 1)) = strV (xs.take k) ++ [.string x] := by
  unfold strV
  rw [List.take_add_one, hx, List.map_append]
  rfl
theorem strV_take_len {xs : List ByteArray} {k : Nat} (hk : k ≤ xs.length) : (strV (xs.take k)).length = k := by simp [strV]; omega
theorem strs_und : Tryz.prog.underlying 22 = some (.slice 9) := by kernel_rfl

set_option maxRecDepth 100000 in
set_option maxHeartbeats 800000 in
theorem clone_any {w : World} {P : Nat → Prop} {A : Option Addr} {n c : Nat} {xs : List ByteArray} (h : RdV P w (.slice A n c) (strV xs)) (hn : n ≤ 1048576) :
    Calls Tryz.prog 7 #[.slice A n c] w (ClPost w n xs) := by
  have hl := strs_len h
  cases A with
  | none =>
    have h0 : n = 0 := by
      obtain ⟨_, c', e, h1, _, h3, _⟩ := h
      cases e
      have := h3 rfl
      omega
    subst h0
    have hx : xs = [] := List.eq_nil_of_length_eq_zero hl
    subst hx
    have heq := fun w => Lib.run_eql_slice_nil (P := Tryz.prog) w 22 9 none 0 c 0 0 strs_und
    clear h hl
    go_enter Tryz.func7, Tryz.ntmps7
    go_wp2_with fail
    go_ret
    exact ⟨none, 0, rfl, RdV.nil _ _, Kept.refl _ _⟩
  | some a =>
    by_cases hc0 : c = 0
    · have hn0 : n = 0 := by
        obtain ⟨_, c', e, h1, _⟩ := h
        cases e
        omega
      subst hn0
      subst hc0
      have hx : xs = [] := List.eq_nil_of_length_eq_zero hl
      subst hx
      have heq := fun w => Lib.run_eql_slice_nil (P := Tryz.prog) w 22 9 (some a) 0 0 0 0 strs_und
      have hmk : (Instr.makeSlice 22 (.int .i64 0) (.int .i64 0)).run Tryz.prog w = .ok (.slice (some ⟨w.heap.size, 0, none⟩) 0 0) (w.alloc (.cells #[] 9)) := make_el str_el rfl 0 (by omega) w
      clear h hl
      go_enter Tryz.func7, Tryz.ntmps7
      go_wp2_with fail
      refine wp_loop_once ?_
      go_wp2_with fail
      go_ret
      exact ⟨_, _, rfl, ⟨_, _, rfl, Nat.le_refl _, Nat.zero_le _, (fun h => by cases h), (fun h => absurd h (by omega)), (fun h => absurd h (by simp [strV]))⟩, (Kept.refl _ _).alloc _⟩
    obtain ⟨g, o, ha⟩ : ∃ g o, a = ⟨g, o, none⟩ := by
      have hc1 : 0 < c := by omega
      obtain ⟨_, c', e, h1, _, h3, h5, _⟩ := h
      cases e
      obtain ⟨g, o, e⟩ := h5 hc1
      exact ⟨g, o, Option.some.inj e⟩
    subst ha
    clear hc0
    have HR := Lib.hid h; have HL := Lib.hid hl
    have heq := fun w => Lib.run_eql_slice_nil (P := Tryz.prog) w 22 9 (some ⟨g, o, none⟩) n c 0 0 strs_und
    have hmk := make_el str_el rfl n (by omega) w
    have h0 : Hid (Filled 9 w (w.alloc (.cells (List.replicate n (.string ⟨#[]⟩)).toArray 9)) n [] (.string ⟨#[]⟩)) := Lib.hid ⟨by simpa using heap_alloc_new w (.cells (List.replicate n (.string ⟨#[]⟩)).toArray 9), (Kept.refl _ _).alloc _⟩
    clear h hl
    go_enter Tryz.func7, Tryz.ntmps7
    go_wp2_with fail
    go_loopw [4] (fun i wr => ∃ k : Nat, k ≤ n ∧ i = .int .i64 k ∧ Hid (Filled 9 w wr n (strV (xs.take k)) (.string ⟨#[]⟩))) (fun i _ => n - (intOf i).toNat)
    case atStart => exact ⟨0, Nat.zero_le _, rfl, h0⟩
    case round =>
      obtain ⟨k, hk, rfl, HF⟩ := hrel
      by_cases hlt : k < n
      · have hlt' : k < xs.length := by rw [HL.out]; exact hlt
        obtain ⟨x, hx⟩ : ∃ x, xs[k]? = some x := ⟨_, List.getElem?_eq_getElem hlt'⟩
        have hc := strs_cell HR.out hx
        have hkl := Lib.hid (strV_take_len (xs := xs) (k := k) (by omega))
        have d0 : wr.cell? ⟨g, o + k, none⟩ = some (.string x) := (HF.out.2.cell (p := ⟨g, o + k, none⟩) hc.2 (by simp)).trans hc.1
        have d1 : wr.cell? ⟨w.heap.size, k, none⟩ = some (.string ⟨#[]⟩) := by
          rw [row_cell HF.out.1, List.getElem?_append_right (by rw [hkl.out]; exact Nat.le_refl _), hkl.out, Nat.sub_self, List.getElem?_replicate_of_lt (by omega)]
        have f1 : ∀ i, wr.frozen? ⟨w.heap.size, i, none⟩ = false := row_free HF.out.1
        have HX := Lib.hid hx
        clear hc hlt' hx
        go_wp2_with fail
        go_roundw
        case rel => exact ⟨k + 1, by omega, by go_num, Lib.hid (by
          have := filled_set (x := .string x) HF.out (by rw [hkl.out]; exact hlt)
          rw [hkl.out] at this
          rw [strV_next HX.out]
          exact this)⟩
        case measure => simp [intOf]; omega
      · obtain rfl : k = n := by omega
        go_wp2_with fail
        go_ret
        have h := HF.out
        rw [List.take_of_length_le (by rw [HL.out]; exact Nat.le_refl _)] at h
        exact ⟨_, _, rfl, h.done (by simp [strV, HL.out]) (by omega), h.2⟩

/-- A list brace over xs: its literals lie in the blocks lb. -/
def ListAt (w : World) (b : Nat) (xs : List ByteArray) (lb : Nat → Nat) : Prop :=
  ∃ (ev : Value) (eb : Nat → Nat), w.heap[b]? = some (.cells #[.bool false, ev] 63 (0, 0)) ∧ RdV Any w ev ((List.range xs.length).map fun k => .pointer (some ⟨eb k, 0, none⟩)) ∧ ∀ k (hk : k < xs.length), OneWord w 0 (eb k) (lb k) xs[k]
theorem ListAt.kept {w w' : World} {b : Nat} {xs : List ByteArray} {lb : Nat → Nat} (h : ListAt w b xs lb) (k : Kept [] w w') : ListAt w' b xs lb := by
  obtain ⟨ev, eb, h1, h2, h3⟩ := h
  exact ⟨ev, eb, (k.block b (heap_lt h1) (by simp)).trans h1, h2.kept k (by simp), fun j hj => (h3 j hj).kept k (by simp)⟩
def LbPost (w : World) (xs : List ByteArray) (e : Ending) (w' : World) : Prop := ∃ (b : Nat) (lb : Nat → Nat), e = .returned (.pointer (some ⟨b, 0, none⟩)) ∧ ListAt w' b xs lb ∧ Kept [] w w'

def ptrs (eb : Nat → Nat) (k : Nat) : List Value := (List.range k).map fun j => .pointer (some ⟨eb j, 0, none⟩)
/-- The elements so far. -/
def Elems (w wr : World) (n : Nat) (xs : List ByteArray) (k : Nat) : Prop := ∃ (eb lb : Nat → Nat), Filled 26 w wr n (ptrs eb k) (.pointer none) ∧ ∀ j, j < k → ∀ s, xs[j]? = some s → OneWord wr (w.heap.size + 1) (eb j) (lb j) s

theorem elems_step {w wr w1 : World} {n k : Nat} {xs : List ByteArray} {eb lb : Nat → Nat} (hlt : k < n) (hf : Filled 26 w w1 n (ptrs eb k) (.pointer none)) (hk : Kept [] wr w1) (how : ∀ j, j < k → ∀ s, xs[j]? = some s → OneWord wr (w.heap.size + 1) (eb j) (lb j) s) {x : ByteArray} (hx : xs[k]? = some x) (h1 : OneWord w1 wr.heap.size (wr.heap.size + 2) wr.heap.size x) (hz : w.heap.size < wr.heap.size) :
    Elems w (w1.setCell ⟨w.heap.size, k, none⟩ (.pointer (some ⟨wr.heap.size + 2, 0, none⟩))) n xs (k + 1) := by
  have hpl : (ptrs eb k).length = k := by simp [ptrs]
  have ks : Kept [w.heap.size] w1 (w1.setCell ⟨w.heap.size, k, none⟩ (.pointer (some ⟨wr.heap.size + 2, 0, none⟩))) := (Kept.refl _ _).setCell (by simp) _
  have hset : ∀ {e l : Nat} {s : ByteArray}, OneWord w1 (w.heap.size + 1) e l s → OneWord (w1.setCell ⟨w.heap.size, k, none⟩ (.pointer (some ⟨wr.heap.size + 2, 0, none⟩))) (w.heap.size + 1) e l s := fun h => h.kept ks (by simp)
  refine ⟨fun j => if j = k then wr.heap.size + 2 else eb j, fun j => if j = k then wr.heap.size else lb j, ?_, fun j hj s hs => ?_⟩
  · have h := filled_set (x := .pointer (some ⟨wr.heap.size + 2, 0, none⟩)) hf (by rw [hpl]; exact hlt)
    rw [hpl] at h
    have e : ptrs (fun j => if j = k then wr.heap.size + 2 else eb j) (k + 1) = ptrs eb k ++ [.pointer (some ⟨wr.heap.size + 2, 0, none⟩)] := by
      unfold ptrs
      rw [List.range_succ, List.map_append]
      congr 1
      · refine List.map_congr_left (fun j hj => ?_)
        show Value.pointer (some ⟨if j = k then _ else eb j, 0, none⟩) = _
        rw [if_neg (by have := List.mem_range.1 hj; omega)]
      · simp
    rw [e]
    exact h
  · by_cases hjk : j = k
    · subst hjk
      rw [hx] at hs
      cases hs
      simp only [if_true]
      exact hset (h1.low hz)
    · simp only [if_neg hjk]
      have := how j (by omega) s hs
      exact hset (this.kept hk (by simp))

set_option maxRecDepth 100000 in
set_option maxHeartbeats 800000 in
theorem listbrace_any {w : World} {P : Nat → Prop} {A : Option Addr} {n c : Nat} {xs : List ByteArray} (h : RdV P w (.slice A n c) (strV xs)) (hn : n ≤ 1048576) :
    Calls Tryz.prog 20 #[.slice A n c] w (LbPost w xs) := by
  have hl := strs_len h
  have hcell : Hid (∀ (k : Nat) (x : ByteArray), xs[k]? = some x → ∃ g o, A = some ⟨g, o, none⟩ ∧ w.cell? ⟨g, o + k, none⟩ = some (.string x) ∧ g < w.heap.size) := Lib.hid (fun k x hx => by
    have hk : k < xs.length := (List.getElem?_eq_some_iff.1 hx).1
    obtain ⟨g, o, rfl⟩ : ∃ g o, A = some ⟨g, o, none⟩ := by
      obtain ⟨_, c', e, h1, _, h3, h5, h4⟩ := h
      cases e
      obtain ⟨g, o, e, _⟩ := h4 (by simp [strV]; omega)
      exact ⟨g, o, e⟩
    exact ⟨g, o, rfl, strs_cell h hx⟩)
  have HL := Lib.hid hl
  have hmk := make_el word_el rfl n (by omega) w
  have h0 : Hid (Elems w (w.alloc (.cells (List.replicate n (.pointer none)).toArray 26)) n xs 0) := Lib.hid ⟨fun _ => 0, fun _ => 0, ⟨by simpa [ptrs] using heap_alloc_new w (.cells (List.replicate n (.pointer none)).toArray 26), (Kept.refl _ _).alloc _⟩, fun j hj => absurd hj (by omega)⟩
  have hc63 : c ≤ 9223372036854775807 := by
    obtain ⟨_, c', e, _, h2, _⟩ := h
    cases e
    unfold maxLen at h2
    omega
  clear h hl
  go_enter Tryz.func20, Tryz.ntmps20
  go_wp2_with fail
  go_loopw [4] (fun i wr => ∃ k : Nat, k ≤ n ∧ i = .int .i64 k ∧ Hid (Elems w wr n xs k)) (fun i _ => n - (intOf i).toNat)
  case atStart => exact ⟨0, Nat.zero_le _, rfl, h0⟩
  case round =>
    obtain ⟨k, hk, rfl, HF⟩ := hrel
    by_cases hlt : k < n
    · have hlt' : k < xs.length := by rw [HL.out]; exact hlt
      obtain ⟨eb, lb, hfl, how⟩ := HF.out
      obtain ⟨x, hx⟩ : ∃ x, xs[k]? = some x := ⟨_, List.getElem?_eq_getElem hlt'⟩
      obtain ⟨g, o, hA, hc, hg⟩ := hcell.out k x hx
      have d0 : wr.cell? ⟨g, o + k, none⟩ = some (.string x) := (hfl.2.cell (p := ⟨g, o + k, none⟩) hg (by simp)).trans hc
      have HX := Lib.hid hx
      have HFL := Lib.hid hfl; have HOW := Lib.hid how
      have HZ := Lib.hid (zlitword x wr)
      have hpl : Hid ((ptrs eb k).length = k) := Lib.hid (by simp [ptrs])
      have hzz : w.heap.size < wr.heap.size := heap_lt hfl.1
      clear hc hlt' hx hfl how
      subst hA
      go_wp2_with (go_at_call 29; refine HZ.out.mono ?_; rintro e w1 ⟨rfl, how1, hk1⟩; have hf1 := HFL.out.kept hk1; have d1 : w1.cell? ⟨w.heap.size, k, none⟩ = some (.pointer none) := (by rw [row_cell hf1.1, List.getElem?_append_right (by rw [hpl.out]; exact Nat.le_refl _), hpl.out, Nat.sub_self, List.getElem?_replicate_of_lt (by omega)]); have f1 : ∀ i, w1.frozen? ⟨w.heap.size, i, none⟩ = false := row_free hf1.1; have HF1 := Lib.hid hf1; have HW1 := Lib.hid how1; have HK1 := Lib.hid hk1; clear how1 hk1 hf1)
      go_roundw
      case rel => exact ⟨k + 1, by omega, by go_num, Lib.hid (elems_step hlt HF1.out HK1.out HOW.out HX.out HW1.out hzz)⟩
      case measure => simp [intOf]; omega
    · obtain rfl : k = n := by omega
      obtain ⟨eb, lb, hfl, how⟩ := HF.out
      have HFL := Lib.hid hfl; have HOW := Lib.hid how
      clear hfl how
      go_wp2_with fail
      go_ret
      refine ⟨wr.heap.size, lb, rfl, ⟨.slice (some ⟨w.heap.size, 0, none⟩) k k, eb, heap_alloc_new wr _, ?_, fun j hj => ?_⟩, HFL.out.2.alloc _⟩
      · have h := (HFL.out.done (by simp [ptrs]) (by omega)).kept ((Kept.refl [] wr).alloc (.cells #[.bool false, .slice (some ⟨w.heap.size, 0, none⟩) k k] 63)) (by simp)
        rw [HL.out]
        exact h.weaken (fun _ _ _ => trivial)
      · exact (HOW.out j (by rw [← HL.out]; exact hj) xs[j] (List.getElem?_eq_getElem hj)).low (Nat.zero_le _) |>.kept ((Kept.refl [] wr).alloc _) (by simp)
end Go.Proofs.YtafgbgdehpcapaaGreatFmt
