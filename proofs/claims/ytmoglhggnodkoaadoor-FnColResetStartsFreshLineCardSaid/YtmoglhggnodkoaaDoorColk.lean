/-
  n010_113: one sink, two sinks, and what the calls do to them.
-/
import Derived.Test.YtmoglhggnodkoaaDoorColr
namespace Go.Proofs.YtmoglhggnodkoaaDoor
open Go.RowKit

structure Snk where
  wb : Nat
  rb : Nat
  b : Nat
  col : Int
  ls : Bool
  out : List UInt8
def Snk.bl (s : Snk) (row : Option Nat) : List Nat := s.wb :: s.rb :: s.b :: row.toList
/-- A sink that has been made since w0, which stands as it stood. -/
structure Sn (w0 : World) (s : Snk) (row : Option Nat) (w : World) : Prop where
  sk : ∃ bs pend, Sk w s.wb s.rb s.b s.col s.ls row bs pend ∧ bs ++ pend = s.out
  kept : Kept [] w0 w
  new : ∀ x ∈ s.bl row, w0.heap.size ≤ x
section
variable {w0 w w' : World} {s s' : Snk} {row row' : Option Nat}
theorem Sn.lt (h : Sn w0 s row w) : ∀ x ∈ s.bl row, x < w.heap.size := by
  obtain ⟨bs, pend, hs, _⟩ := h.sk
  intro x hx
  simp only [Snk.bl, List.mem_cons, Option.mem_toList] at hx
  rcases hx with rfl | rfl | rfl | hx
  · exact hs.wr.lt
  · exact hs.wr.rlt
  · exact hs.bf.lt
  · exact (hs.bf.rowlt x hx).1
theorem Sn.away {S : List Nat} (h : Sn w0 s row w) (k : Kept S w w') (hS : ∀ x ∈ s.bl row, x ∉ S) (hn : ∀ x ∈ S, w0.heap.size ≤ x) : Sn w0 s row w' := by
  obtain ⟨bs, pend, hs, he⟩ := h.sk
  refine ⟨⟨bs, pend, hs.kept k (hS _ (by simp [Snk.bl])) (hS _ (by simp [Snk.bl])) (hS _ (by simp [Snk.bl])) (fun g hg => hS g (by simp only [Snk.bl, List.mem_cons, Option.mem_toList]; exact .inr (.inr (.inr hg)))), he⟩, ?_, h.new⟩
  exact h.kept.trans2 k fun x hx => .inr (hn x hx)
theorem Sn.turn {bs pend : List UInt8} (h : Sn w0 s row w) (e1 : s'.wb = s.wb) (e2 : s'.rb = s.rb) (e3 : s'.b = s.b) (hs : Sk w' s.wb s.rb s.b s'.col s'.ls row' bs pend) (ho : bs ++ pend = s'.out) (hm : Mv s.wb s.rb s.b row row' w w') : Sn w0 s' row' w' := by
  refine ⟨⟨bs, pend, by rw [e1, e2, e3]; exact hs, ho⟩, h.kept.trans2 hm.2 fun x hx => .inr (h.new x hx), ?_⟩
  intro x hx
  have hz := h.kept.size
  simp only [Snk.bl, List.mem_cons, Option.mem_toList] at hx
  rcases hx with rfl | rfl | rfl | hx
  · rw [e1]; exact h.new _ (by simp [Snk.bl])
  · rw [e2]; exact h.new _ (by simp [Snk.bl])
  · rw [e3]; exact h.new _ (by simp [Snk.bl])
  · rcases hm.1 x hx with e | e
    · subst e; exact h.new x (by simp only [Snk.bl, List.mem_cons, Option.mem_toList]; exact .inr (.inr (.inr hx)))
    · omega
theorem Sn.drew (h : Sn w0 s row w) : Sn w0 s row w.drew := h.away (S := []) ((Kept.refl _ _).drew) (by simp) (by simp)

abbrev Snk.ptr (s : Snk) : Value := .pointer (some ⟨s.b, 0, none⟩)
def Snk.put (s : Snk) (p : List UInt8) : Snk := { s with col := (foldC s.col s.ls p).1, ls := (foldC s.col s.ls p).2, out := s.out ++ p }

theorem sn_new (w : World) (col : Int) (ls : Bool) :
    Calls Tryd.prog 10 #[.int .i64 col, .bool ls] w fun e w' => e = .returned (.pointer (some ⟨w.heap.size, 0, none⟩)) ∧ Sn w ⟨w.heap.size + 2, w.heap.size + 1, w.heap.size, col, ls, []⟩ none w' := by
  refine (newsink w col ls).mono ?_
  rintro e w' ⟨rfl, h, hk⟩
  exact ⟨rfl, ⟨[], [], h, rfl⟩, hk, by simp [Snk.bl]⟩
theorem sn_col (h : Sn w0 s row w) : Calls Tryd.prog 13 #[.pointer (some ⟨s.b, 0, none⟩)] w fun e w' => e = .returned (.int .i64 s.col) ∧ w = w' := by
  obtain ⟨bs, pend, hs, _⟩ := h.sk
  exact zcol hs
theorem sn_ls (h : Sn w0 s row w) : Calls Tryd.prog 14 #[.pointer (some ⟨s.b, 0, none⟩)] w fun e w' => e = .returned (.bool s.ls) ∧ w = w' := by
  obtain ⟨bs, pend, hs, _⟩ := h.sk
  exact zls hs
theorem sn_out (h : Sn w0 s row w) (hl : s.out.length ≤ 100000000000) : Calls Tryd.prog 15 #[.pointer (some ⟨s.b, 0, none⟩)] w fun e w' => e = .returned (.string ⟨s.out.toArray⟩) ∧ ∃ row', Sn w0 s row' w' ∧ Mv s.wb s.rb s.b row row' w w' := by
  obtain ⟨bs, pend, hs, he⟩ := h.sk
  refine (zout hs (by rw [← he] at hl; simp at hl; omega)).mono ?_
  rintro e w' ⟨rfl, row', h1, hm⟩
  rw [he]
  rw [he] at h1
  exact ⟨rfl, row', h.turn rfl rfl rfl h1 (by simp) hm, hm⟩
theorem sn_write (h : Sn w0 s row w) (A : Option Addr) (n c : Nat) (p : List UInt8) (hp : SrcB w A n p) (hA : Apart w (s.bl row) A n c) (hnc : n ≤ c) (hc : c ≤ 9223372036854775807) (hl : s.out.length + n ≤ 100000000000) (hc1 : 0 ≤ s.col) (hc2 : s.col ≤ 100000000000) :
    Calls Tryd.prog 18 #[.pointer (some ⟨s.b, 0, none⟩), .slice A n c] w fun e w' => e = .returned (.tuple #[.int .i64 n, .bool true]) ∧ ∃ row', Sn w0 (s.put p) row' w' ∧ Mv s.wb s.rb s.b row row' w w' := by
  obtain ⟨bs, pend, hs, he⟩ := h.sk
  refine (zwriteA hs A n c p hp hA hnc hc (by rw [he]; exact hl) hc1 hc2).mono ?_
  rintro e w' ⟨rfl, row', bs', pend', h1, ho, hm⟩
  exact ⟨rfl, row', h.turn (s' := s.put p) rfl rfl rfl h1 (by rw [ho, he]; rfl) hm, hm⟩
theorem sn_writeString (h : Sn w0 s row w) (str : ByteArray) (n : Nat) (p : List UInt8) (hps : p = str.data.toList) (hpl : p.length = n) (hl : s.out.length + n ≤ 100000000000) (hc1 : 0 ≤ s.col) (hc2 : s.col ≤ 100000000000) :
    Calls Tryd.prog 11 #[.pointer (some ⟨s.b, 0, none⟩), .string str] w fun e w' => e = .returned (.tuple #[.int .i64 n, .bool true]) ∧ ∃ row', Sn w0 (s.put p) row' w' ∧ Mv s.wb s.rb s.b row row' w w' := by
  obtain ⟨bs, pend, hs, he⟩ := h.sk
  refine (zwriteString hs str n p hps hpl (by rw [he]; exact hl) hc1 hc2).mono ?_
  rintro e w' ⟨rfl, row', bs', pend', h1, ho, hm⟩
  exact ⟨rfl, row', h.turn (s' := s.put p) rfl rfl rfl h1 (by rw [ho, he]; rfl) hm, hm⟩
end

/-- One sink, whatever its buffer's row. -/
def One (w0 : World) (s : Snk) (w : World) : Prop := ∃ row, Sn w0 s row w
theorem One.drew {w0 w : World} {s : Snk} (h : One w0 s w) : One w0 s w.drew := by obtain ⟨row, h⟩ := h; exact ⟨row, h.drew⟩
theorem One.kept {w0 w : World} {s : Snk} (h : One w0 s w) : Kept [] w0 w := by obtain ⟨row, h⟩ := h; exact h.kept
/-- A slice that lay there before the sink. -/
def Low (w0 : World) (A : Option Addr) (n c : Nat) (p : List UInt8) : Prop := SrcB w0 A n p ∧ ((A = none ∧ n = 0 ∧ c = 0) ∨ ∃ g o, A = some ⟨g, o, none⟩ ∧ g < w0.heap.size) ∧ n ≤ c ∧ c ≤ 9223372036854775807
theorem Low.kept {w0 w1 : World} {A : Option Addr} {n c : Nat} {p : List UInt8} (h : Low w0 A n c p) (k : Kept [] w0 w1) : Low w1 A n c p := by
  obtain ⟨h1, h2, h3, h4⟩ := h
  refine ⟨h1.kept k (by simp), ?_, h3, h4⟩
  rcases h2 with h2 | ⟨g, o, h2, h5⟩
  · exact .inl h2
  · exact .inr ⟨g, o, h2, Nat.lt_of_lt_of_le h5 k.size⟩
theorem Low.apart {w0 w : World} {s : Snk} {row : Option Nat} {A : Option Addr} {n c : Nat} {p : List UInt8} (h : Low w0 A n c p) (hs : Sn w0 s row w) : Apart w (s.bl row) A n c := by
  rcases h.2.1 with h2 | ⟨g, o, h2, h5⟩
  · exact .inl h2
  · exact .inr ⟨g, o, h2, Nat.lt_of_lt_of_le h5 hs.kept.size, fun hm => by have := hs.new g hm; omega⟩

section
variable {w0 w : World} {s : Snk}
theorem one_col (h : One w0 s w) : Calls Tryd.prog 13 #[.pointer (some ⟨s.b, 0, none⟩)] w fun e w' => e = .returned (.int .i64 s.col) ∧ w = w' := by
  obtain ⟨row, h⟩ := h
  exact sn_col h
theorem one_ls (h : One w0 s w) : Calls Tryd.prog 14 #[.pointer (some ⟨s.b, 0, none⟩)] w fun e w' => e = .returned (.bool s.ls) ∧ w = w' := by
  obtain ⟨row, h⟩ := h
  exact sn_ls h
theorem one_out (h : One w0 s w) (hl : s.out.length ≤ 100000000000) : Calls Tryd.prog 15 #[.pointer (some ⟨s.b, 0, none⟩)] w fun e w' => e = .returned (.string ⟨s.out.toArray⟩) ∧ One w0 s w' := by
  obtain ⟨row, h⟩ := h
  refine (sn_out h hl).mono ?_
  rintro e w' ⟨rfl, row', h, _⟩
  exact ⟨rfl, row', h⟩
theorem one_write (h : One w0 s w) (A : Option Addr) (n c : Nat) (p : List UInt8) (hp : Low w0 A n c p) (hl : s.out.length + n ≤ 100000000000) (hc1 : 0 ≤ s.col) (hc2 : s.col ≤ 100000000000) :
    Calls Tryd.prog 18 #[.pointer (some ⟨s.b, 0, none⟩), .slice A n c] w fun e w' => e = .returned (.tuple #[.int .i64 n, .bool true]) ∧ One w0 (s.put p) w' := by
  obtain ⟨row, h⟩ := h
  refine (sn_write h A n c p (hp.1.kept h.kept (by simp)) (hp.apart h) hp.2.2.1 hp.2.2.2 hl hc1 hc2).mono ?_
  rintro e w' ⟨rfl, row', h, _⟩
  exact ⟨rfl, row', h⟩
theorem one_writeString (h : One w0 s w) (str : ByteArray) (n : Nat) (p : List UInt8) (hps : p = str.data.toList) (hpl : p.length = n) (hl : s.out.length + n ≤ 100000000000) (hc1 : 0 ≤ s.col) (hc2 : s.col ≤ 100000000000) :
    Calls Tryd.prog 11 #[.pointer (some ⟨s.b, 0, none⟩), .string str] w fun e w' => e = .returned (.tuple #[.int .i64 n, .bool true]) ∧ One w0 (s.put p) w' := by
  obtain ⟨row, h⟩ := h
  refine (sn_writeString h str n p hps hpl hl hc1 hc2).mono ?_
  rintro e w' ⟨rfl, row', h, _⟩
  exact ⟨rfl, row', h⟩
end

/-- 'string(b)'. -/
theorem conv_str (w : World) (A : Option Addr) (n c : Nat) (l : List UInt8) (hs : SrcB w A n l) (hA : (A = none ∧ n = 0) ∨ ∃ g o, A = some ⟨g, o, none⟩) : (convert 28 9 (.slice A n c)).run Tryd.prog w = .ok (.string ⟨l.toArray⟩) w := by
  have hu : Tryd.prog.underlying 9 = some .string := by kernel_rfl
  have h8 : Tryd.prog.underlying 5 = some (.int .u8) := by kernel_rfl
  rcases hA with ⟨rfl, rfl⟩ | ⟨g, o, rfl⟩
  · obtain rfl : l = [] := List.eq_nil_of_length_eq_zero hs.1
    exact Lib.run_convert_nil_bytes w _ _ _ c u8_und h8 hu
  · have hl := hs.1
    subst hl
    refine run_convert_bytes_back (P := Tryd.prog) w 28 9 5 ⟨g, o, none⟩ c l u8_und h8 hu ?_
    intro j hj
    obtain ⟨g', o', e, _, hcc⟩ := hs.2 (by omega)
    cases e
    rw [addr_add]
    exact hcc j _ (List.getElem?_eq_getElem hj)
theorem low_conv {w0 w : World} {A : Option Addr} {n c : Nat} {l : List UInt8} (hp : Low w0 A n c l) (hk : Kept [] w0 w) : (convert 28 9 (.slice A n c)).run Tryd.prog w = .ok (.string ⟨l.toArray⟩) w :=
  conv_str w A n c l (hp.1.kept hk (by simp)) (hp.2.1.imp (fun h => ⟨h.1, h.2.1⟩) (fun ⟨g, o, h, _⟩ => ⟨g, o, h⟩))
/-- zzClone of what came in. -/
theorem clone_low (w : World) (A : Option Addr) (n c : Nat) (l : List UInt8) (hn : n < 1000000000) (hA : A = none → n = 0 ∧ c = 0) (h : SrcB w A n l) :
    Calls Tryd.prog 17 #[.slice A n c] w fun e w' => ∃ A', e = .returned (.slice A' n n) ∧ Low w' A' n n l ∧ Kept [] w w' := by
  refine (clone2 w A n c l hn hA h).mono ?_
  rintro e w' ⟨A', rfl, hs, hk, ha⟩
  refine ⟨A', rfl, ⟨hs, ?_, Nat.le_refl _, by omega⟩, hk⟩
  rcases ha with ⟨h1, h2⟩ | ⟨h1, h2⟩
  · exact .inl ⟨h1, h2, h2⟩
  · exact .inr ⟨_, _, h1, h2⟩
end Go.Proofs.YtmoglhggnodkoaaDoor
