/-
  What every walk of this seat needs: a frame, slices of bytes, a region that draws its order. Plain memory facts.
-/
import Derived.Test.YtnnedmjkhjgbcaaFmtProg
import Derived.WalkKit
import Derived.WalkSpells
import Derived.WalkLawsBesides
import Derived.Laws.Tables
import Derived.Laws.CopyOwn
import Derived.Laws.MakeOwn
import Derived.Lib.SliceRun
import Derived.Lib.ConvBytes
import Derived.Deep.QuietTactic
import Derived.BigQuiet
import Derived.StillTailTactics
import Derived.Lib.Hide
namespace Go.Proofs.YtnnedmjkhjgbcaaFmt
open Go.RowKit

/-- A byte as a cell. -/
def By (c : UInt8) : Value := .int .u8 c.toNat
def Bys (l : List UInt8) : List Value := l.map By

theorem heap_lt {w : World} {g : Nat} {o : Obj} (h : w.heap[g]? = some o) : g < w.heap.size := by
  rcases Nat.lt_or_ge g w.heap.size with hlt | hge
  · exact hlt
  · rw [Array.getElem?_eq_none hge] at h; cases h

/-- What was there is as it was, but for the blocks of S. -/
structure Kept (S : List Nat) (w w' : World) : Prop where
  os : w'.os = w.os
  tape : w'.tape = w.tape
  output : w'.output = w.output
  size : w.heap.size ≤ w'.heap.size
  block : ∀ k, k < w.heap.size → k ∉ S → w'.heap[k]? = w.heap[k]?

section
variable {S : List Nat} {a b c w w' : World}
theorem Kept.refl (S : List Nat) (w : World) : Kept S w w := ⟨rfl, rfl, rfl, Nat.le_refl _, fun _ _ _ => rfl⟩
theorem Kept.trans (h : Kept S a b) (k : Kept S b c) : Kept S a c :=
  ⟨k.os.trans h.os, k.tape.trans h.tape, k.output.trans h.output, Nat.le_trans h.size k.size, fun i hi hn => (k.block i (Nat.lt_of_lt_of_le hi h.size) hn).trans (h.block i hi hn)⟩
theorem Kept.weaken {S' : List Nat} (h : Kept S a b) (hs : ∀ k ∈ S, k ∈ S' ∨ a.heap.size ≤ k) : Kept S' a b :=
  ⟨h.os, h.tape, h.output, h.size, fun i hi hn => h.block i hi (fun hm => (hs i hm).elim hn (fun h => by omega))⟩
theorem Kept.drew (h : Kept S a w) : Kept S a w.drew := ⟨h.os, h.tape, h.output, h.size, h.block⟩
theorem Kept.drewN (h : Kept S a w) (n : Nat) : Kept S a (w.drewN n) := ⟨h.os, h.tape, h.output, h.size, h.block⟩
theorem Kept.alloc (h : Kept S a w) (o : Obj) : Kept S a (w.alloc o) :=
  h.trans ⟨rfl, rfl, rfl, by simp, fun k hk _ => Below.heap_alloc _ _ _ hk⟩
theorem Kept.setCell (h : Kept S a w) {p : Addr} (hp : p.block ∈ S) (u : Value) : Kept S a (w.setCell p u) :=
  h.trans ⟨rfl, rfl, rfl, by simp [World.setCell], fun k _ hn => Below.heap_setCell _ _ _ _ (fun e => hn (e ▸ hp))⟩
theorem Kept.setRow (h : Kept S a w) {g : Nat} (hp : g ∈ S) (cs : Array Value) : Kept S a (w.setRow g cs) :=
  h.trans ⟨rfl, rfl, rfl, by simp, fun k _ hn => setRow_other _ _ _ _ (fun e => hn (e ▸ hp))⟩
theorem Kept.below {B : Nat} (h : Kept S a b) (hS : ∀ k ∈ S, B ≤ k) (hB : B ≤ a.heap.size) : Below B a b :=
  ⟨h.os, h.tape, h.output, h.size, fun k hk => h.block k (by omega) (fun hm => by have := hS k hm; omega)⟩
theorem Kept.cell (h : Kept S a b) {p : Addr} (hp : p.block < a.heap.size) (hn : p.block ∉ S) : b.cell? p = a.cell? p := World.cell?_of_block (w := a) (h.block p.block hp hn)
end

attribute [local go_sem] World.setCell_drew
@[go_sem] theorem setCell_drewN (w : World) (n : Nat) (a : Addr) (v : Value) : (w.drewN n).setCell a v = (w.setCell a v).drewN n := rfl
@[go_sem] theorem alloc_drewN (w : World) (n : Nat) (o : Obj) : (w.drewN n).alloc o = (w.alloc o).drewN n := rfl

theorem wp_region_tail {P : Program} {id : Nat} {Q : Exit → Act → World → Prop} {a : Act} {w : World} {l : List Oper} (n : Nat) (hm : P.follows .mixedOrders = true) (hB : Region.lexTailB .any l.toArray n = true)
    (h : wpStill P l.toArray w.drew (fun a' => wpList P l.toArray Q (l.drop n) a' w.drew) (l.take n) a) : (Code.region id l.toArray true).wp P Q a w :=
  wp_region_still_tail n hm hB h

theorem By_one (c : UInt8) : (By c).oneCell' = true := rfl
theorem Bys_one (l : List UInt8) : ∀ v ∈ Bys l, v.oneCell' = true := fun v hv => by
  obtain ⟨c, _, rfl⟩ := List.mem_map.1 hv
  rfl
@[simp] theorem Bys_length (l : List UInt8) : (Bys l).length = l.length := by simp [Bys]

theorem addr_add (g o j : Nat) : (⟨g, o, none⟩ : Addr).add j = ⟨g, o + j, none⟩ := by unfold Addr.add; split <;> simp_all

/-- The slice with address A and length n reads as the bytes l. -/
def SrcB (w : World) (A : Option Addr) (n : Nat) (l : List UInt8) : Prop :=
  l.length = n ∧ (0 < n → ∃ g o, A = some ⟨g, o, none⟩ ∧ g < w.heap.size ∧ ∀ j c, l[j]? = some c → w.cell? ⟨g, o + j, none⟩ = some (By c))
theorem SrcB.kept {S : List Nat} {w w' : World} {A : Option Addr} {n : Nat} {l : List UInt8} (h : SrcB w A n l) (k : Kept S w w') (hS : ∀ x ∈ S, w.heap.size ≤ x) : SrcB w' A n l :=
  ⟨h.1, fun hn => by
    obtain ⟨g, o, rfl, hg, hc⟩ := h.2 hn
    exact ⟨g, o, rfl, Nat.lt_of_lt_of_le hg k.size, fun j c hj => (k.cell (p := ⟨g, o + j, none⟩) hg (fun hm => by have h1 : w.heap.size ≤ g := hS g hm; omega)).trans (hc j c hj)⟩⟩
/-- .. which lies below block B. -/
def SrcL (w : World) (B : Nat) (A : Option Addr) (n : Nat) (l : List UInt8) : Prop :=
  l.length = n ∧ (0 < n → ∃ g o, A = some ⟨g, o, none⟩ ∧ g < B ∧ ∀ j c, l[j]? = some c → w.cell? ⟨g, o + j, none⟩ = some (By c))
theorem SrcB.low {w : World} {A : Option Addr} {n : Nat} {l : List UInt8} (h : SrcB w A n l) : SrcL w w.heap.size A n l := h
theorem SrcL.kept {B : Nat} {S : List Nat} {w w' : World} {A : Option Addr} {n : Nat} {l : List UInt8} (h : SrcL w B A n l) (k : Kept S w w') (hB : B ≤ w.heap.size) (hS : ∀ x ∈ S, B ≤ x) : SrcL w' B A n l :=
  ⟨h.1, fun hn => by
    obtain ⟨g, o, rfl, hg, hc⟩ := h.2 hn
    exact ⟨g, o, rfl, hg, fun j c hj => (k.cell (p := ⟨g, o + j, none⟩) (show g < _ by omega) (fun hm => by have h1 : B ≤ g := hS g hm; omega)).trans (hc j c hj)⟩⟩
theorem SrcL.all {B : Nat} {w : World} {A : Option Addr} {n : Nat} {l : List UInt8} (h : SrcL w B A n l) (hB : B ≤ w.heap.size) : SrcB w A n l :=
  ⟨h.1, fun hn => by
    obtain ⟨g, o, rfl, hg, hc⟩ := h.2 hn
    exact ⟨g, o, rfl, by omega, hc⟩⟩

theorem u8_und : Tryf.prog.underlying 45 = some (.slice 5) := by kernel_rfl
theorem u8_info : ∃ i, Tryf.prog.info? 5 = some i ∧ i.zero = some (.int .u8 0) ∧ i.size = 1 ∧ i.bytes = 1 := by
  have h : (Tryf.prog.info? 5).map (fun i => (i.zero, i.size, i.bytes)) = some (some (.int .u8 0), 1, 1) := by kernel_rfl
  cases hq : Tryf.prog.info? 5 with
  | none => rw [hq] at h; cases h
  | some i => rw [hq] at h; simp at h; exact ⟨i, rfl, h.1, h.2.1, h.2.2⟩

/-- n zero bytes. -/
def zs (n : Nat) : List Value := List.replicate n (Value.int .u8 0)
theorem made_u8 (n : Nat) : madeCells (Value.cells (.int .u8 0)) n = (zs n).toArray := by
  apply Array.ext
  · simp [madeCells, zs]
  · intro i h1 h2
    simp [madeCells, zs, Value.cells, Nat.mod_one]

theorem make_u8 (n : Nat) (hn : n < 1000000000) (w : World) :
    (Instr.makeSlice 45 (.int .i64 n) (.int .i64 n)).run Tryf.prog w = .ok (.slice (some ⟨w.heap.size, 0, none⟩) n n) (w.alloc (.cells (zs n).toArray 5)) := by
  obtain ⟨i, h1, h2, h3, h4⟩ := u8_info
  rw [run_make w _ _ i _ u8_und h1 h2 .i64 .i64 n n (by omega) (by omega) (by rw [h4]; omega) (by omega)]
  simp [h3, made_u8]

theorem set_step (l : List UInt8) (n k : Nat) (c : UInt8) (hl : l.length = n) (hk : l[k]? = some c) :
    (Bys (l.take k) ++ zs (n - k)).set k (By c) = Bys (l.take (k + 1)) ++ zs (n - (k + 1)) := by
  have hlt : k < l.length := (List.getElem?_eq_some_iff.1 hk).1
  have h1 : (Bys (l.take k)).length = k := by simp; omega
  rw [List.set_append_right _ _ (by omega), h1, Nat.sub_self]
  obtain ⟨m, hm⟩ : ∃ m, n - k = m + 1 := ⟨n - k - 1, by omega⟩
  unfold zs
  rw [hm, List.replicate_succ, List.set_cons_zero, show n - (k + 1) = m by omega, List.take_succ_eq_append_getElem hlt]
  have : l[k] = c := (List.getElem?_eq_some_iff.1 hk).2
  simp [Bys, this]

theorem row_cell {w : World} {g : Nat} {t : TypeId} {L : List Value} (h : w.heap[g]? = some (.cells L.toArray t (0, 0))) (i : Nat) : w.cell? ⟨g, i, none⟩ = L[i]? := by
  rw [cell_of_row _ _ _ _ _ _ h]; simp
theorem row_free {w : World} {g : Nat} {t : TypeId} {L : List Value} (h : w.heap[g]? = some (.cells L.toArray t (0, 0))) (i : Nat) : w.frozen? ⟨g, i, none⟩ = false := by
  simp [World.frozen?, h]
theorem row_set {w : World} {g : Nat} {t : TypeId} {L : List Value} (h : w.heap[g]? = some (.cells L.toArray t (0, 0))) (i : Nat) (v : Value) : (w.setCell ⟨g, i, none⟩ v).heap[g]? = some (.cells (L.set i v).toArray t (0, 0)) := by
  rw [heap_setCell_same w g i _ _ v h, List.setIfInBounds_toArray]
/-- A block of bytes reads as such. -/
theorem SrcB.row {w : World} {g n : Nat} {t : TypeId} {l : List UInt8} (h : w.heap[g]? = some (.cells (Bys l).toArray t (0, 0))) (hl : l.length = n) : SrcB w (some ⟨g, 0, none⟩) n l :=
  ⟨hl, fun _ => ⟨g, 0, rfl, heap_lt h, fun j c hj => by rw [Nat.zero_add, row_cell h]; simp [Bys, hj]⟩⟩
theorem ext_list (s : ByteArray) (a b : Nat) : (s.extract a b).data.toList = (s.data.toList.drop a).take (b - a) := by
  simp [ByteArray.data_extract, Array.toList_extract]
theorem kept_bytesWorld (w : World) (e : TypeId) (s : ByteArray) : Kept [] w (Lib.bytesWorld w e s) :=
  ⟨rfl, rfl, rfl, by rw [Lib.bytesWorld_size]; omega, fun k hk _ => Lib.bytesWorld_at_old w e s k hk⟩

theorem wpList_bytes {w : World} {ops : Array Oper} {rest : List Oper} {o : Oper} {a : Act} {Q : Exit → Act → World → Prop} (hgd : o.guard = none) (x : Operand) (ho : o.op = .convert 9 45 x) (s : ByteArray) (hx : a.eval x = .string s)
    (h : ∀ A cap w', SrcB w' A s.size s.data.toList → s.size ≤ cap → Kept [] w w' → A ≠ none → wpList Tryf.prog ops Q rest (a.put o.dst (.slice A s.size cap)) w') : wpList Tryf.prog ops Q (o :: rest) a w := by
  refine wpList_plain hgd fun K hK => ?_
  have hrun := Lib.run_convert_string_bytes (P := Tryf.prog) w 9 45 5 s (u := .string) (by kernel_rfl) u8_und (by kernel_rfl)
  have hs : SrcB (Lib.bytesWorld w 5 s) (some ⟨w.heap.size, 0, none⟩) s.size s.data.toList := by
    refine ⟨rfl, fun _ => ⟨w.heap.size, 0, rfl, by rw [Lib.bytesWorld_size]; omega, fun j c hj => ?_⟩⟩
    have hlt : j < s.size := (List.getElem?_eq_some_iff.1 hj).1
    rw [Nat.zero_add, Lib.bytesWorld_cell w _ s j hlt]
    simp only [List.getD_eq_getElem?_getD, hj]
    rfl
  have hcap : s.size ≤ grownCap w s.size 0 5 := by unfold grownCap Question.cut; simp
  unfold Oper.wp
  simp only [execOp, ho, hx, Sem.run_bind, hrun, Result.andThen_ok]
  exact hK _ _ (h _ _ _ hs hcap (kept_bytesWorld w _ s) (by simp))
end Go.Proofs.YtnnedmjkhjgbcaaFmt
