/-
  Slices of bytes: that a slice value reads as a list of bytes, make([]byte, n), and a copy made byte by byte.
-/
import Derived.Test.YtnjaeooblfihbaaFmtLexA
import Derived.Laws.MakeOwn
import Derived.Lib.SliceRun
namespace Go.Proofs.YtnjaeooblfihbaaFmt
open Go.RowKit

/-- The slice with address A and length n reads as the bytes l. -/
def SrcB (w : World) (A : Option Addr) (n : Nat) (l : List UInt8) : Prop :=
  l.length = n ∧ (0 < n → ∃ g o, A = some ⟨g, o, none⟩ ∧ g < w.heap.size ∧ ∀ j c, l[j]? = some c → w.cell? ⟨g, o + j, none⟩ = some (By c))
theorem SrcB.kept {S : List Nat} {w w' : World} {A : Option Addr} {n : Nat} {l : List UInt8} (h : SrcB w A n l) (k : Kept S w w') (hS : ∀ x ∈ S, w.heap.size ≤ x) : SrcB w' A n l :=
  ⟨h.1, fun hn => by
    obtain ⟨g, o, rfl, hg, hc⟩ := h.2 hn
    exact ⟨g, o, rfl, Nat.lt_of_lt_of_le hg k.size, fun j c hj => (k.cell (p := ⟨g, o + j, none⟩) hg (fun hm => by have h1 : w.heap.size ≤ g := hS g hm; omega)).trans (hc j c hj)⟩⟩
/-- .. which lies below block B. -/
def SrcL (w : World) (B : Nat) (A : Option Addr) (n : Nat) (l : List UInt8) : Prop :=
  l.length = n ∧ (0 < n → ∃ g o, A = some ⟨g, o, none⟩ ∧ g < B ∧ ∀ j c, l[j]? = some c → w.cell? ⟨g, o + j, none⟩ = some (By c))
theorem SrcB.low {w : World} {A : Option Addr} {n : Nat} {l : List UInt8} (h : SrcB w A n l) : SrcL w w.heap.size A n l := h
theorem SrcL.kept {B : Nat} {S : List Nat} {w w' : World} {A : Option Addr} {n : Nat} {l : List UInt8} (h : SrcL w B A n l) (k : Kept S w w') (hB : B ≤ w.heap.size) (hS : ∀ x ∈ S, B ≤ x) : SrcL w' B A n l :=
  ⟨h.1, fun hn => by
    obtain ⟨g, o, rfl, hg, hc⟩ := h.2 hn
    exact ⟨g, o, rfl, hg, fun j c hj => (k.cell (p := ⟨g, o + j, none⟩) (show g < _ by omega) (fun hm => by have h1 : B ≤ g := hS g hm; omega)).trans (hc j c hj)⟩⟩
theorem SrcL.all {B : Nat} {w : World} {A : Option Addr} {n : Nat} {l : List UInt8} (h : SrcL w B A n l) (hB : B ≤ w.heap.size) : SrcB w A n l :=
  ⟨h.1, fun hn => by
    obtain ⟨g, o, rfl, hg, hc⟩ := h.2 hn
    exact ⟨g, o, rfl, by omega, hc⟩⟩

theorem u8_und : Tryf.prog.underlying 22 = some (.slice 5) := by kernel_rfl
theorem u8_info : ∃ i, Tryf.prog.info? 5 = some i ∧ i.zero = some (.int .u8 0) ∧ i.size = 1 ∧ i.bytes = 1 := by
  have h : (Tryf.prog.info? 5).map (fun i => (i.zero, i.size, i.bytes)) = some (some (.int .u8 0), 1, 1) := by kernel_rfl
  cases hq : Tryf.prog.info? 5 with
  | none => rw [hq] at h; cases h
  | some i => rw [hq] at h; simp at h; exact ⟨i, rfl, h.1, h.2.1, h.2.2⟩

/-- n zero bytes. -/
def zs (n : Nat) : List Value := List.replicate n (Value.int .u8 0)
theorem made_u8 (n : Nat) : madeCells (Value.cells (.int .u8 0)) n = (zs n).toArray := by
  apply Array.ext
  · simp [madeCells, zs]
  · intro i h1 h2
    simp [madeCells, zs, Value.cells, Nat.mod_one]

theorem make_u8 (n : Nat) (hn : n < 1000000000) (w : World) :
    (Instr.makeSlice 22 (.int .i64 n) (.int .i64 n)).run Tryf.prog w = .ok (.slice (some ⟨w.heap.size, 0, none⟩) n n) (w.alloc (.cells (zs n).toArray 5)) := by
  obtain ⟨i, h1, h2, h3, h4⟩ := u8_info
  rw [run_make w _ _ i _ u8_und h1 h2 .i64 .i64 n n (by omega) (by omega) (by rw [h4]; omega) (by omega)]
  simp [h3, made_u8]

theorem set_step (l : List UInt8) (n k : Nat) (c : UInt8) (hl : l.length = n) (hk : l[k]? = some c) :
    (Bys (l.take k) ++ zs (n - k)).set k (By c) = Bys (l.take (k + 1)) ++ zs (n - (k + 1)) := by
  have hlt : k < l.length := (List.getElem?_eq_some_iff.1 hk).1
  have h1 : (Bys (l.take k)).length = k := by simp; omega
  rw [List.set_append_right _ _ (by omega), h1, Nat.sub_self]
  obtain ⟨m, hm⟩ : ∃ m, n - k = m + 1 := ⟨n - k - 1, by omega⟩
  unfold zs
  rw [hm, List.replicate_succ, List.set_cons_zero, show n - (k + 1) = m by omega, List.take_succ_eq_append_getElem hlt]
  have : l[k] = c := (List.getElem?_eq_some_iff.1 hk).2
  simp [Bys, this]

theorem row_cell {w : World} {g : Nat} {t : TypeId} {L : List Value} (h : w.heap[g]? = some (.cells L.toArray t (0, 0))) (i : Nat) : w.cell? ⟨g, i, none⟩ = L[i]? := by
  rw [cell_of_row _ _ _ _ _ _ h]; simp
theorem row_free {w : World} {g : Nat} {t : TypeId} {L : List Value} (h : w.heap[g]? = some (.cells L.toArray t (0, 0))) (i : Nat) : w.frozen? ⟨g, i, none⟩ = false := by
  simp [World.frozen?, h]
theorem row_set {w : World} {g : Nat} {t : TypeId} {L : List Value} (h : w.heap[g]? = some (.cells L.toArray t (0, 0))) (i : Nat) (v : Value) : (w.setCell ⟨g, i, none⟩ v).heap[g]? = some (.cells (L.set i v).toArray t (0, 0)) := by
  rw [heap_setCell_same w g i _ _ v h, List.setIfInBounds_toArray]
/-- A block of bytes reads as such. -/
theorem SrcB.row {w : World} {g n : Nat} {t : TypeId} {l : List UInt8} (h : w.heap[g]? = some (.cells (Bys l).toArray t (0, 0))) (hl : l.length = n) : SrcB w (some ⟨g, 0, none⟩) n l :=
  ⟨hl, fun _ => ⟨g, 0, rfl, heap_lt h, fun j c hj => by rw [Nat.zero_add, row_cell h]; simp [Bys, hj]⟩⟩
theorem ext_list (s : ByteArray) (a b : Nat) : (s.extract a b).data.toList = (s.data.toList.drop a).take (b - a) := by
  simp [ByteArray.data_extract, Array.toList_extract]
end Go.Proofs.YtnjaeooblfihbaaFmt
