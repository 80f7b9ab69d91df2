/-
  The word a{X}b{Y}c: how it lies, and what it expands to.
-/
import Derived.Test.YtafgbgdehpcapaaGreatFmtHI
namespace Go.Proofs.YtafgbgdehpcapaaGreatFmt
open Go.RowKit

structure TwoW (w : World) (pw la lb lc b1 b2 : Nat) (lx ly : Nat → Nat) (a b c : ByteArray) (xs ys : List ByteArray) : Prop where
  word : ∃ v, WordAt w pw v ∧ RdV Any w v [litV la, brV b1, litV lb, brV b2, litV lc]
  ca : w.cell? ⟨la, 4, none⟩ = some (.string a)
  cb : w.cell? ⟨lb, 4, none⟩ = some (.string b)
  cc : w.cell? ⟨lc, 4, none⟩ = some (.string c)
  l1 : ListAt w b1 xs lx
  l2 : ListAt w b2 ys ly
theorem TwoW.kept {w w' : World} {pw la lb lc b1 b2 : Nat} {lx ly : Nat → Nat} {a b c : ByteArray} {xs ys : List ByteArray} (h : TwoW w pw la lb lc b1 b2 lx ly a b c xs ys) (k : Kept [] w w') : TwoW w' pw la lb lc b1 b2 lx ly a b c xs ys := by
  obtain ⟨⟨v, h1, h2⟩, h3, h4, h5, h6, h7⟩ := h
  exact ⟨⟨v, h1.kept k (by simp), h2.kept k (by simp)⟩, (k.cell (p := ⟨la, 4, none⟩) (block_lt_of_cell h3) (by simp)).trans h3, (k.cell (p := ⟨lb, 4, none⟩) (block_lt_of_cell h4) (by simp)).trans h4, (k.cell (p := ⟨lc, 4, none⟩) (block_lt_of_cell h5) (by simp)).trans h5, h6.kept k, h7.kept k⟩

def prodW (la lb lc : Nat) (lx ly : Nat → Nat) (n1 n2 : Nat) : List (List Value) := (List.range n1).flatMap fun i => (List.range n2).map fun j => [litV la, litV (lx i), litV lb, litV (ly j), litV lc]
theorem prodW_length (la lb lc : Nat) (lx ly : Nat → Nat) (n1 n2 : Nat) : (prodW la lb lc lx ly n1 n2).length = n1 * n2 := by
  unfold prodW
  induction n1 with
  | zero => simp
  | succ n ih => rw [List.range_succ, List.flatMap_append, List.length_append, ih]; simp [Nat.succ_mul]
theorem prodW_at {la lb lc : Nat} {lx ly : Nat → Nat} {n1 n2 i j : Nat} (hi : i < n1) (hj : j < n2) : (prodW la lb lc lx ly n1 n2)[i * n2 + j]? = some [litV la, litV (lx i), litV lb, litV (ly j), litV lc] := by
  unfold prodW
  induction n1 with
  | zero => omega
  | succ n ih =>
    have hl := prodW_length la lb lc lx ly n n2
    unfold prodW at hl
    rw [List.range_succ, List.flatMap_append]
    by_cases h : i < n
    · rw [List.getElem?_append_left (by rw [hl]; have := Nat.mul_le_mul_right n2 (show i + 1 ≤ n by omega); rw [Nat.succ_mul] at this; omega)]
      exact ih h
    · obtain rfl : i = n := by omega
      rw [List.getElem?_append_right (by rw [hl]; omega), hl, show i * n2 + j - i * n2 = j by omega]
      simp [hj]
theorem prodW_mem {la lb lc : Nat} {lx ly : Nat → Nat} {n1 n2 : Nat} : ∀ y ∈ prodW la lb lc lx ly n1 n2, y.length = 5 := by
  intro y hy
  unfold prodW at hy
  simp only [List.mem_flatMap, List.mem_map] at hy
  obtain ⟨i, _, j, _, rfl⟩ := hy
  rfl

theorem isLit_litV (b : Nat) : IsLit (litV b) := ⟨b, rfl⟩
theorem ListAt.brAt {w : World} {b : Nat} {xs : List ByteArray} {lx : Nat → Nat} (h : ListAt w b xs lx) : ∃ eb : Nat → Nat, BrAt w w.heap.size b ((List.range xs.length).map fun k => .pointer (some ⟨eb k, 0, none⟩)) ∧ ∀ k, k < xs.length → ∃ pv, WordAt w (eb k) pv ∧ eb k < w.heap.size ∧ RdV (· < w.heap.size) w pv [litV (lx k)] := by
  obtain ⟨ev, eb, h1, h2, h3⟩ := h
  refine ⟨eb, ⟨heap_lt h1, ev, h1, h2.weaken (fun g hg _ => hg)⟩, fun k hk => ?_⟩
  obtain ⟨⟨pv, q1, q2⟩, _⟩ := h3 k hk
  exact ⟨pv, q1, heap_lt q1, q2.weaken (fun g hg _ => hg)⟩
theorem one_of {l : List Value} (h : ∀ v ∈ l, (∃ b, v = litV b) ∨ ∃ b, v = brV b) : ∀ v ∈ l, v.oneCell' = true := fun v hv => by
  rcases h v hv with ⟨b, rfl⟩ | ⟨b, rfl⟩ <;> rfl

theorem TwoW.exp {w : World} {pw la lb lc b1 b2 : Nat} {lx ly : Nat → Nat} {a b c : ByteArray} {xs ys : List ByteArray} (h : TwoW w pw la lb lc b1 b2 lx ly a b c xs ys) :
    Exp w w.heap.size [litV la, brV b1, litV lb, brV b2, litV lc] (prodW la lb lc lx ly xs.length ys.length) := by
  obtain ⟨e1, hb1, hw1⟩ := h.l1.brAt
  obtain ⟨e2, hb2, hw2⟩ := h.l2.brAt
  have inner : ∀ k, Exp w w.heap.size ([litV (lx k)] ++ [litV lb, brV b2, litV lc]) ((List.range ys.length).flatMap fun j => ([[litV (ly j), litV lc]] : List (List Value)).map ([litV (lx k), litV lb] ++ ·)) := fun k => by
    have := Exp.br (w0 := w) (B := w.heap.size) [litV (lx k), litV lb] (by simp [isLit_litV]) b2 ys.length e2 hb2 [litV lc] (fun j => [litV (ly j)]) (fun j hj => hw2 j hj) (fun j => [[litV (ly j), litV lc]]) (fun j _ => Exp.done _ (by simp [isLit_litV])) (fun j _ => by simp) (fun j _ => one_of (by simp; exact ⟨.inl ⟨_, rfl⟩, .inl ⟨_, rfl⟩⟩))
    exact this
  have := Exp.br (w0 := w) (B := w.heap.size) [litV la] (by simp [isLit_litV]) b1 xs.length e1 hb1 [litV lb, brV b2, litV lc] (fun k => [litV (lx k)]) (fun k hk => hw1 k hk) _ (fun k _ => inner k) (fun j _ => by simp) (fun j _ => one_of (by simp; exact ⟨.inl ⟨_, rfl⟩, .inl ⟨_, rfl⟩, .inr ⟨_, rfl⟩, .inl ⟨_, rfl⟩⟩))
  refine (?_ : Exp w w.heap.size _ _)
  have e : prodW la lb lc lx ly xs.length ys.length = (List.range xs.length).flatMap fun k => (((List.range ys.length).flatMap fun j => ([[litV (ly j), litV lc]] : List (List Value)).map ([litV (lx k), litV lb] ++ ·)).map ([litV la] ++ ·)) := by
    unfold prodW
    congr 1
    funext k
    induction ys.length with
    | zero => simp
    | succ n ih => rw [List.range_succ, List.map_append, List.flatMap_append, List.map_append, ← ih]; simp
  rw [e]
  exact this

def TwoPost (w : World) (a b c : ByteArray) (xs ys : List ByteArray) (e : Ending) (w' : World) : Prop := ∃ (pw la lb lc b1 b2 : Nat) (lx ly : Nat → Nat), e = .returned (.pointer (some ⟨pw, 0, none⟩)) ∧ TwoW w' pw la lb lc b1 b2 lx ly a b c xs ys ∧ Kept [] w w'

theorem zlit_k (s : ByteArray) (w : World) : Calls Tryz.prog 19 #[.string s] w fun e w' => e = .returned (.pointer (some ⟨w.heap.size, 0, none⟩)) ∧ w'.cell? ⟨w.heap.size, 4, none⟩ = some (.string s) ∧ Kept [] w w' :=
  (zlit s w).mono (fun e w' h => by obtain ⟨h1, rfl⟩ := h; exact ⟨h1, lit_cell, (Kept.refl _ _).alloc _⟩)

set_option maxRecDepth 100000 in
set_option maxHeartbeats 800000 in
theorem twolist_any {w : World} {P Q : Nat → Prop} {A1 A2 : Option Addr} {n1 c1 n2 c2 : Nat} {a b c : ByteArray} {xs ys : List ByteArray} (h1 : RdV P w (.slice A1 n1 c1) (strV xs)) (h2 : RdV Q w (.slice A2 n2 c2) (strV ys)) (hn1 : n1 ≤ 1048576) (hn2 : n2 ≤ 1048576) :
    Calls Tryz.prog 8 #[.string a, .string b, .string c, .slice A1 n1 c1, .slice A2 n2 c2] w (TwoPost w a b c xs ys) := by
  have H1 := Lib.hid (fun (w' : World) (k : Kept [] w w') => listbrace_any (h1.kept k (by simp)) hn1)
  have H2 := Lib.hid (fun (w' : World) (k : Kept [] w w') => listbrace_any (h2.kept k (by simp)) hn2)
  clear h1 h2 hn1 hn2
  have K0 : Hid (Kept [] w w) := Lib.hid (Kept.refl _ _)
  go_enter Tryz.func8, Tryz.ntmps8
  go_wp2_with (first | (go_at_call_of 19 (Value.string a); refine (zlit_k _ _).mono ?_; rintro e w1 ⟨rfl, hc1, hk1⟩; have HC1 := Lib.hid hc1; have K1 := Lib.hid hk1; clear hc1 hk1) | (go_at_call_of 20 (Value.slice A1 n1 c1); refine (H1.out _ K1.out).mono ?_; rintro e w2 ⟨b1, lx, rfl, hl, hk⟩; have HL1 := Lib.hid hl; have K2 := Lib.hid (K1.out.trans hk); have K12 := Lib.hid hk; clear hl hk) | (go_at_call_of 19 (Value.string b); refine (zlit_k _ _).mono ?_; rintro e w3 ⟨rfl, hc, hk⟩; have HC3 := Lib.hid hc; have K3 := Lib.hid (K2.out.trans hk); have K23 := Lib.hid hk; clear hc hk) | (go_at_call_of 20 (Value.slice A2 n2 c2); refine (H2.out _ K3.out).mono ?_; rintro e w4 ⟨b2, ly, rfl, hl, hk⟩; have HL4 := Lib.hid hl; have K4 := Lib.hid (K3.out.trans hk); have K34 := Lib.hid hk; clear hl hk) | (go_at_call_of 19 (Value.string c); refine (zlit_k _ _).mono ?_; rintro e w5 ⟨rfl, hc, hk⟩; have HC5 := Lib.hid hc; have K5 := Lib.hid (K4.out.trans hk); have K45 := Lib.hid hk; clear hc hk))
  go_ret
  have kl : Kept [] w5 ((w5.alloc (.cells #[litV w.heap.size, brV b1, litV w2.heap.size, brV b2, litV w4.heap.size] 52)).alloc (.cells #[.slice (some ⟨w5.heap.size, 0, none⟩) 5 5] 46)) := ((Kept.refl _ _).alloc _).alloc _
  refine ⟨w5.heap.size + 1, w.heap.size, w2.heap.size, w4.heap.size, b1, b2, lx, ly, rfl, ⟨⟨.slice (some ⟨w5.heap.size, 0, none⟩) 5 5, ?_, ?_⟩, ?_, ?_, ?_, ?_, ?_⟩, K5.out.trans kl⟩
  · have h := heap_alloc_new (w5.alloc (.cells #[litV w.heap.size, brV b1, litV w2.heap.size, brV b2, litV w4.heap.size] 52)) (.cells #[.slice (some ⟨w5.heap.size, 0, none⟩) 5 5] 46)
    simpa [WordAt, litV, brV] using h
  · have h := (OwnV.lit (T := 52) w5 [litV w.heap.size, brV b1, litV w2.heap.size, brV b2, litV w4.heap.size] (by simp)).rd
    exact (h.weaken (Q := Any) (fun _ _ _ => trivial)).kept ((Kept.refl [] _).alloc (.cells #[.slice (some ⟨w5.heap.size, 0, none⟩) 5 5] 46)) (by simp)
  · have k : Kept [] w1 _ := (((K12.out.trans K23.out).trans K34.out).trans K45.out).trans kl
    exact (k.cell (p := ⟨w.heap.size, 4, none⟩) (block_lt_of_cell HC1.out) (by simp)).trans HC1.out
  · have k : Kept [] w3 _ := (K34.out.trans K45.out).trans kl
    exact (k.cell (p := ⟨w2.heap.size, 4, none⟩) (block_lt_of_cell HC3.out) (by simp)).trans HC3.out
  · exact (kl.cell (p := ⟨w4.heap.size, 4, none⟩) (block_lt_of_cell HC5.out) (by simp)).trans HC5.out
  · exact HL1.out.kept (((K23.out.trans K34.out).trans K45.out).trans kl)
  · exact HL4.out.kept (K45.out.trans kl)
end Go.Proofs.YtafgbgdehpcapaaGreatFmt
