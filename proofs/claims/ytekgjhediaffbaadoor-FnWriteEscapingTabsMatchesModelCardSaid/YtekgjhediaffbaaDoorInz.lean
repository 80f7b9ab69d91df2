/-
  n010_120: a line's last byte; the model kept as a slice to append to.
-/
import Derived.Test.YtekgjhediaffbaaDoorIny
namespace Go.Proofs.YtekgjhediaffbaaDoor
open Go.RowKit

theorem untab_snoc (l : List UInt8) : ∃ P, untab (l ++ [10]) = P ++ [10] := by
  have h := tabs_lt (l := l) (x := 10) (by decide)
  rw [untab_eq]
  simp only [List.length_append, List.length_cons, List.length_nil] at h
  exact ⟨l.drop (tabs (l ++ [10])), by rw [List.drop_append_of_le_length (by omega)]⟩
theorem lineOut_last (base fi fc : Int) (l : List UInt8) : ∃ P, lineOut base fi fc (l ++ [10]) = P ++ [10] := by
  obtain ⟨P, hP⟩ := untab_snoc l
  unfold lineOut
  split
  · exact ⟨P, hP⟩
  · rw [hP, escF_snoc]
    unfold stepE
    rw [if_neg (by decide), if_neg (by simp)]
    exact ⟨[255] ++ List.replicate (indent base fi fc (tabs (l ++ [10]))).toNat 9 ++ [255] ++ (escF P).1, by simp [List.append_assoc]⟩
theorem fold_newline (base : Int) (l : List UInt8) : ∃ P, (foldI base is0 (l ++ [10])).out = (foldI base is0 l).out ++ P ++ [10] := by
  obtain ⟨P, hP⟩ := lineOut_last base (foldI base is0 l).fi (foldI base is0 l).fc (foldI base is0 l).cur
  refine ⟨P, ?_⟩
  rw [foldI_snoc]
  unfold stepI
  rw [if_neg (by decide)]
  split
  · rw [hP, List.append_assoc]
  · rw [hP, List.append_assoc]
theorem mind_own {w : World} {A : Addr} {base : Int} {n c : Nat} {l : List UInt8} (hs : SrcB w (some A) n l) (hA : A.spot = none ∧ A.block < w.heap.size) (hnc : n ≤ c) (hb1 : 0 ≤ base) (hb2 : base ≤ 65536) (hn : n ≤ 65537) :
    Calls Tryd.prog 21 #[.int .i64 base, .slice (some A) n c] w fun e w' => ∃ v', e = .returned v' ∧ Own w' v' (foldI base is0 l).out ∧ Av nilS v' w w' := by
  obtain ⟨g, o, sp⟩ := A
  obtain ⟨rfl, hg⟩ := hA
  refine mind w base g o n c l hs.1 hg (fun j x hj => ?_) hnc hb1 hb2 hn
  have hlt : j < l.length := (List.getElem?_eq_some_iff.1 hj).1
  obtain ⟨g', o', e, _, hc⟩ := hs.2 (by have := hs.1; omega)
  cases e
  exact hc j x hj
/-- A prefix of a row reads as such. -/
theorem SrcB.pre {w : World} {g n : Nat} {t : TypeId} {l p : List UInt8} (h : w.heap[g]? = some (.cells (Bys (l ++ p)).toArray t (0, 0))) (hl : l.length = n) : SrcB w (some ⟨g, 0, none⟩) n l :=
  ⟨hl, fun _ => ⟨g, 0, rfl, heap_lt h, fun j c hj => by
    have hlt : j < l.length := (List.getElem?_eq_some_iff.1 hj).1
    have e : l[j] = c := (List.getElem?_eq_some_iff.1 hj).2
    rw [Nat.zero_add, row_cell h]; simp [Bys, List.getElem?_append_left, hlt, e]⟩⟩
theorem slice_to (g n c k : Nat) (hk : k ≤ c) (w : World) : (Instr.slice 22 (.slice (some ⟨g, 0, none⟩) n c) none (some (.int .i64 k)) none).run Tryd.prog w = .ok (.slice (some ⟨g, 0, none⟩) k c) w := by
  have h := run_slice_h (P := Tryd.prog) w 22 (some ⟨g, 0, none⟩) n c u8_und2 .i64 k (by omega) (by omega)
  rw [h, u8_size]
  simp [sliced, addr_add]
end Go.Proofs.YtekgjhediaffbaaDoor
