/-
  The heredoc indenter in plain terms: what one byte does, what a line comes out as, and the laws on it.
-/
import Derived.Lib.Hide
namespace Go.Proofs.YtejjmonaoajlgaaDoor

/-- Escaping tabs: what has come out, and whether an Escape byte is open. -/
def stepE (s : List UInt8 × Bool) (x : UInt8) : List UInt8 × Bool :=
  if x.toNat = 255 then (s.1 ++ [x], !s.2) else if x.toNat = 9 ∧ s.2 = false then (s.1 ++ [255, 9, 255], s.2) else (s.1 ++ [x], s.2)
def escF (l : List UInt8) : List UInt8 × Bool := l.foldl stepE ([], false)
theorem escF_snoc (l : List UInt8) (x : UInt8) : escF (l ++ [x]) = stepE (escF l) x := by simp [escF]
theorem escF_take {l : List UInt8} {k : Nat} {x : UInt8} (h : l[k]? = some x) : escF (l.take (k + 1)) = stepE (escF (l.take k)) x := by
  rw [List.take_add_one, h]; exact escF_snoc _ _
theorem escF_len (l : List UInt8) : (escF l).1.length ≤ 3 * l.length := by
  suffices h : ∀ (l : List UInt8) (s : List UInt8 × Bool), (l.foldl stepE s).1.length ≤ s.1.length + 3 * l.length from by have := h l ([], false); simpa [escF] using this
  intro l
  induction l with
  | nil => simp
  | cons x l ih =>
    intro s
    have h1 := ih (stepE s x)
    have h2 : (stepE s x).1.length ≤ s.1.length + 3 := by unfold stepE; split <;> (try split) <;> simp
    simp only [List.foldl_cons, List.length_cons]
    omega
theorem take_snoc' {l : List UInt8} {k : Nat} {x : UInt8} (h : l[k]? = some x) : l.take (k + 1) = l.take k ++ [x] := by
  rw [List.take_add_one, h]; rfl
/-- An Escape byte at i, and none behind it before i + 1 + m: the stretch is copied. -/
theorem escF_open {l : List UInt8} {i : Nat} (h0 : (escF (l.take i)).2 = false) (h1 : l[i]? = some 255) : ∀ m, i + 1 + m ≤ l.length → (∀ j, i < j → j < i + 1 + m → l[j]? ≠ some 255) →
    escF (l.take (i + 1 + m)) = ((escF (l.take i)).1 ++ (l.drop i).take (1 + m), true) := by
  intro m
  induction m with
  | zero =>
    intro hl _
    rw [Nat.add_zero, escF_take h1]
    have hlt : i < l.length := (List.getElem?_eq_some_iff.1 h1).1
    have e : l[i] = 255 := (List.getElem?_eq_some_iff.1 h1).2
    have e2 : (l.drop i).take 1 = [255] := by rw [List.drop_eq_getElem_cons hlt, e]; rfl
    rw [e2]
    unfold stepE
    simp [h0]
  | succ m ih =>
    intro hl hn
    have h := ih (by omega) (fun j h1 h2 => hn j h1 (by omega))
    have hlt : i + 1 + m < l.length := by omega
    have hx : l[i + 1 + m]? = some l[i + 1 + m] := List.getElem?_eq_getElem hlt
    have hne : l[i + 1 + m] ≠ 255 := fun e => hn (i + 1 + m) (by omega) (by omega) (by rw [hx, e])
    have hne2 : l[i + 1 + m].toNat ≠ 255 := fun e => hne (UInt8.toNat_inj.1 e)
    rw [show i + 1 + (m + 1) = i + 1 + m + 1 by omega, escF_take hx, h]
    unfold stepE
    rw [if_neg hne2, if_neg (by simp)]
    have e3 : (l.drop i)[1 + m]? = some l[i + 1 + m] := by rw [List.getElem?_drop, show i + (1 + m) = i + 1 + m by omega, hx]
    rw [show 1 + (m + 1) = 1 + m + 1 by omega, take_snoc' e3, List.append_assoc]
theorem escF_shut {l : List UInt8} {i m : Nat} (h : escF (l.take (i + 1 + m)) = ((escF (l.take i)).1 ++ (l.drop i).take (1 + m), true)) (h1 : l[i + 1 + m]? = some 255) :
    escF (l.take (i + 1 + m + 1)) = ((escF (l.take i)).1 ++ (l.drop i).take (1 + m + 1), false) := by
  rw [escF_take h1, h]
  have e3 : (l.drop i)[1 + m]? = some 255 := by rw [List.getElem?_drop, show i + (1 + m) = i + 1 + m by omega, h1]
  rw [take_snoc' e3]
  unfold stepE
  simp

/-- Leading tabs. -/
def isTab (x : UInt8) : Bool := x.toNat == 9
def tabs (l : List UInt8) : Nat := (l.takeWhile isTab).length
def untab (l : List UInt8) : List UInt8 := l.dropWhile isTab
theorem tabs_le (l : List UInt8) : tabs l ≤ l.length := by unfold tabs; exact (List.takeWhile_prefix isTab).length_le
theorem untab_eq (l : List UInt8) : untab l = l.drop (tabs l) := by
  unfold untab tabs
  have h := List.takeWhile_append_dropWhile (p := isTab) (l := l)
  conv => rhs; rw [← h]
  rw [List.takeWhile_append_dropWhile]
  conv => rhs; arg 2; rw [← h]
  rw [List.drop_left]
theorem untab_len (l : List UInt8) : (untab l).length = l.length - tabs l := by rw [untab_eq, List.length_drop]
theorem tabs_of {l : List UInt8} : ∀ {k : Nat}, (∀ j, j < k → l[j]? = some 9) → (k = l.length ∨ ∃ x, l[k]? = some x ∧ x.toNat ≠ 9) → tabs l = k := by
  induction l with
  | nil =>
    intro k h1 h2
    rcases h2 with h2 | ⟨x, hx, _⟩
    · simp [h2, tabs]
    · simp at hx
  | cons y l ih =>
    intro k h1 h2
    cases k with
    | zero =>
      rcases h2 with h2 | ⟨x, hx, hne⟩
      · simp at h2
      · simp at hx
        subst hx
        simp [tabs, isTab, hne]
    | succ k =>
      have hy : y = 9 := by simpa using h1 0 (by omega)
      have := ih (k := k) (fun j hj => by simpa using h1 (j + 1) (by omega)) (by
        rcases h2 with h2 | ⟨x, hx, hne⟩
        · left; simpa using h2
        · right; exact ⟨x, by simpa using hx, hne⟩)
      unfold tabs at this ⊢
      subst hy
      rw [List.takeWhile_cons_of_pos (by rfl)]
      simp [this]

/-- The indenter's state: the first line's tabs (or -1), the change, the line so far, what has come out. -/
structure Is where
  fi : Int
  fc : Int
  cur : List UInt8
  out : List UInt8
def is0 : Is := ⟨-1, 0, [], []⟩
/-- How far a line with t tabs is indented. -/
def indent (base fi fc : Int) (t : Nat) : Int := if fi < 0 then base else if (t : Int) < fi then base else t + fc
def lineOut (base : Int) (fi fc : Int) (l : List UInt8) : List UInt8 :=
  if (untab l).length = 1 then untab l else [255] ++ List.replicate (indent base fi fc (tabs l)).toNat 9 ++ [255] ++ (escF (untab l)).1
def stepI (base : Int) (s : Is) (x : UInt8) : Is :=
  if x.toNat ≠ 10 then { s with cur := s.cur ++ [x] }
  else if (untab (s.cur ++ [x])).length = 1 then { s with cur := [], out := s.out ++ lineOut base s.fi s.fc (s.cur ++ [x]) }
  else ⟨if s.fi < 0 then tabs (s.cur ++ [x]) else s.fi, if s.fi < 0 then base - tabs (s.cur ++ [x]) else s.fc, [], s.out ++ lineOut base s.fi s.fc (s.cur ++ [x])⟩
def foldI (base : Int) (s : Is) (l : List UInt8) : Is := l.foldl (stepI base) s
theorem foldI_snoc (base : Int) (s : Is) (l : List UInt8) (x : UInt8) : foldI base s (l ++ [x]) = stepI base (foldI base s l) x := by simp [foldI]
theorem foldI_app (base : Int) (s : Is) (l m : List UInt8) : foldI base s (l ++ m) = foldI base (foldI base s l) m := by simp [foldI]
theorem foldI_take {base : Int} {s : Is} {l : List UInt8} {k : Nat} {x : UInt8} (h : l[k]? = some x) : foldI base s (l.take (k + 1)) = stepI base (foldI base s (l.take k)) x := by
  rw [take_snoc' h]; exact foldI_snoc _ _ _ _

/-- What always holds of the state: bounds for the numbers and the lengths after n bytes. -/
structure Iok (base : Int) (n : Nat) (s : Is) : Prop where
  lo : -1 ≤ s.fi
  hi : s.fi ≤ n
  fc : 0 ≤ s.fi → s.fc = base - s.fi
  f0 : s.fi < 0 → s.fc = 0
  cur : s.cur.length ≤ n
  out : (s.out.length : Int) + 4 * s.cur.length ≤ n * (base + 8)
theorem indent_bound {base : Int} {n : Nat} {s : Is} (h : Iok base n s) (hb : 0 ≤ base) (t : Nat) : 0 ≤ indent base s.fi s.fc t ∧ indent base s.fi s.fc t ≤ base + t := by
  unfold indent
  have := h.fc
  split
  · omega
  · split <;> omega
theorem lineOut_len {base : Int} {n : Nat} {s : Is} (h : Iok base n s) (hb : 0 ≤ base) (l : List UInt8) : ((lineOut base s.fi s.fc l).length : Int) ≤ base + 2 + 4 * l.length := by
  unfold lineOut
  have h1 := tabs_le l
  have h2 := untab_len l
  have h3 := indent_bound h hb (tabs l)
  have h4 := escF_len (untab l)
  split
  · omega
  · simp only [List.length_append, List.length_replicate, List.length_cons, List.length_nil]
    omega
theorem lineOut_len' {base : Int} {n : Nat} {s : Is} (h : Iok base n s) (hb : 0 ≤ base) (x : UInt8) : (s.out.length : Int) + (lineOut base s.fi s.fc (s.cur ++ [x])).length ≤ n * (base + 8) + (base + 8) := by
  have h1 := lineOut_len h hb (s.cur ++ [x])
  have h2 := h.out
  simp only [List.length_append, List.length_cons, List.length_nil] at h1
  omega
theorem is0_ok (base : Int) : Iok base 0 is0 := ⟨by simp [is0], by simp [is0], by simp [is0], by simp [is0], by simp [is0], by simp [is0]⟩
theorem stepI_ok {base : Int} {n : Nat} {s : Is} (h : Iok base n s) (hb : 0 ≤ base) (x : UInt8) : Iok base (n + 1) (stepI base s x) := by
  have e : ((n + 1 : Nat) : Int) * (base + 8) = n * (base + 8) + (base + 8) := by rw [Int.natCast_add, Int.add_mul]; simp
  have h1 := lineOut_len' h hb x
  have h2 := tabs_le (s.cur ++ [x])
  have h3 := h.out
  have h4 := h.cur
  have h5 := h.hi
  have h6 := h.lo
  have h7 := h.fc
  have h8 := h.f0
  simp only [List.length_append, List.length_cons, List.length_nil] at h2
  unfold stepI
  split
  · refine ⟨h6, by show s.fi ≤ _; omega, h7, h8, by simp; omega, ?_⟩
    rw [e]
    simp only [List.length_append, List.length_cons, List.length_nil]
    omega
  · split
    · refine ⟨h6, by show s.fi ≤ _; omega, h7, h8, by simp, ?_⟩
      rw [e]
      simp only [List.length_append, List.length_nil]
      omega
    · refine ⟨by show -1 ≤ (if s.fi < 0 then _ else _); split <;> omega, by show (if s.fi < 0 then _ else _) ≤ _; split <;> omega, ?_, ?_, by simp, ?_⟩
      · show 0 ≤ (if s.fi < 0 then _ else _) → (if s.fi < 0 then _ else _) = base - (if s.fi < 0 then _ else _)
        split
        · intro _; rfl
        · intro h; exact h7 h
      · show (if s.fi < 0 then _ else _) < 0 → (if s.fi < 0 then _ else _) = _
        split
        · intro h; omega
        · intro h; exact h8 h
      · rw [e]
        simp only [List.length_append, List.length_nil]
        omega
theorem foldI_ok {base : Int} (hb : 0 ≤ base) (l : List UInt8) : ∀ {n : Nat} {s : Is}, Iok base n s → Iok base (n + l.length) (foldI base s l) := by
  induction l with
  | nil => intro n s h; exact h
  | cons x l ih =>
    intro n s h
    have := ih (stepI_ok h hb x)
    rw [show n + 1 + l.length = n + (x :: l).length by simp; omega] at this
    exact this
theorem take_ok {base : Int} (hb : 0 ≤ base) (l : List UInt8) (k : Nat) : Iok base k (foldI base is0 (l.take k)) := by
  have h := foldI_ok hb (l.take k) (is0_ok base)
  have hl : (l.take k).length ≤ k := by simp; omega
  have e : ((0 + (l.take k).length : Nat) : Int) * (base + 8) ≤ k * (base + 8) := Int.mul_le_mul_of_nonneg_right (by omega) (by omega)
  exact ⟨h.lo, by have := h.hi; omega, h.fc, h.f0, by have := h.cur; omega, by have := h.out; omega⟩
theorem size_bound {base : Int} (n : Nat) (hb : 0 ≤ base) (hb2 : base ≤ 65536) (hn : n ≤ 65536) : (n : Int) * (base + 8) ≤ 4295491584 := by
  have h1 : (n : Int) * (base + 8) ≤ 65536 * (base + 8) := Int.mul_le_mul_of_nonneg_right (by omega) (by omega)
  omega
end Go.Proofs.YtejjmonaoajlgaaDoor
