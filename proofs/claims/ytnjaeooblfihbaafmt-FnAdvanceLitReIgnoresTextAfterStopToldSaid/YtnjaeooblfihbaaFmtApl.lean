/-
  A slice of bytes that owns its row, and append onto it: where the row lies afterwards, and what else has turned (nothing).
-/
import Derived.Test.YtnjaeooblfihbaaFmtByt
import Derived.Laws.AppendOwn
import Derived.Laws.OwnMore
namespace Go.Proofs.YtnjaeooblfihbaaFmt
open Go.RowKit

/-- The slice v owns a row that begins with l. -/
def Own (w : World) (v : Value) (l : List UInt8) : Prop := w.ownsRow 0 5 1 v l.length (Bys l)
section
variable {w w' : World} {v : Value} {l : List UInt8}
theorem Own.nil (w : World) : Own w (.slice none 0 0) [] := World.ownsRow_nil w 0 5 1
theorem Own.lt (h : Own w v l) : ∀ g ∈ v.ownBlock, g < w.heap.size := fun g hg => (World.ownsRow.lt h g hg).2
theorem Own.kept {S : List Nat} (h : Own w v l) (k : Kept S w w') (hS : ∀ g ∈ v.ownBlock, g ∉ S) : Own w' v l := by
  refine ⟨h.1, ?_⟩
  rcases h.2 with hn | ⟨g, cap, cur, rfl, hb, hg, hr⟩
  · exact .inl hn
  · exact .inr ⟨g, cap, cur, rfl, hb, (k.block g (heap_lt hg) (hS g rfl)).trans hg, hr⟩
theorem Own.src {A : Option Addr} {n c : Nat} (h : Own w (.slice A n c) l) : SrcB w A n l ∧ n = l.length ∧ n ≤ c ∧ c ≤ maxLen := by
  rcases h.2 with ⟨h1, h2⟩ | ⟨g, cap, cur, h1, hb, hg, hnc, hcm, hcs, htk⟩
  · simp only [Value.slice.injEq] at h1
    obtain ⟨rfl, rfl, rfl⟩ := h1
    exact ⟨⟨h2, fun h => absurd h (by omega)⟩, h2.symm, Nat.le_refl _, Nat.zero_le _⟩
  · simp only [Value.slice.injEq] at h1
    obtain ⟨rfl, rfl, rfl⟩ := h1
    refine ⟨⟨rfl, fun _ => ⟨g, 0, rfl, heap_lt hg, fun j c hj => ?_⟩⟩, rfl, hnc, hcm⟩
    have hlt : j < l.length := (List.getElem?_eq_some_iff.1 hj).1
    rw [Nat.mul_one] at htk
    rw [Nat.zero_add, cell_of_row _ _ _ _ _ _ hg, ← Array.getElem?_toList, ← List.getElem?_take_of_lt hlt, htk]
    simp [Bys, hj]
/-- 'x[:0]'. -/
theorem Own.cut {g n c : Nat} (h : Own w (.slice (some ⟨g, 0, none⟩) n c) l) : Own w (.slice (some ⟨g, 0, none⟩) 0 c) [] := by
  rcases h.2 with ⟨h1, h2⟩ | ⟨g, cap, cur, h1, hb, hg, hnc, hcm, hcs, htk⟩
  · cases h1
  · simp only [Value.slice.injEq, Option.some.injEq, Addr.mk.injEq, and_true] at h1
    obtain ⟨rfl, rfl, rfl⟩ := h1
    exact ⟨rfl, .inr ⟨_, _, cur, rfl, Nat.zero_le _, hg, Nat.zero_le _, hcm, hcs, rfl⟩⟩
end

theorem app_run {w : World} {v : Value} {l : List UInt8} (h : Own w v l) (ty : TypeId) (a : Addr) (m c : Nat) (p : List UInt8) (hp : p.length = m) (hm : 0 < m) (hc : ∀ j x, p[j]? = some x → w.cell? (a.add j) = some (By x)) (hlim : l.length + m ≤ 1000000000000) :
    ∃ g cap w', (Builtin.append_ #[22, 22] ty #[v, .slice (some a) m c]).run Tryf.prog w = .ok (.slice (some ⟨g, 0, none⟩) (l.length + m) cap) w' ∧ Own w' (.slice (some ⟨g, 0, none⟩) (l.length + m) cap) (l ++ p) ∧ (v.ownBlock = some g ∨ w.heap.size ≤ g) ∧ Kept v.ownBlock.toList w w' := by
  obtain ⟨i, hi, hz, h1, hby⟩ := u8_info
  have hnl : (Bys p).length = m * i.size := by rw [h1, Bys_length, hp, Nat.mul_one]
  have hnews : ∀ j u, (Bys p)[j]? = some u → w.cell? (a.add j) = some u := by
    intro j u hu
    simp only [Bys, List.getElem?_map, Option.map_eq_some_iff] at hu
    obtain ⟨x, hx, rfl⟩ := hu
    exact hc j x hx
  have hlen : (l ++ p).length = l.length + m := by rw [List.length_append, hp]
  have h63 : l.length + m ≤ maxLen := by unfold maxLen; omega
  have hbb : Bys (l ++ p) = Bys l ++ Bys p := by simp [Bys]
  have grown : ∀ (old : Nat), ∀ (S : List Nat),
      Own (w.drew.alloc (.cells ((Bys l).toArray ++ (Bys p).toArray ++ Builtin.zeroCells (Value.int .u8 0).cells (grownCap w (l.length + m) old 5 - (l.length + m))) 5))
        (.slice (some ⟨w.heap.size, 0, none⟩) (l.length + m) (grownCap w (l.length + m) old 5)) (l ++ p) ∧
      Kept S w (w.drew.alloc (.cells ((Bys l).toArray ++ (Bys p).toArray ++ Builtin.zeroCells (Value.int .u8 0).cells (grownCap w (l.length + m) old 5 - (l.length + m))) 5)) := by
    intro old S
    have hge := grownCap_ge w (l.length + m) old 5
    have hcm := grownCap_le_maxLen w (l.length + m) old 5 h63
    refine ⟨⟨by rw [Bys_length, Nat.mul_one], .inr ⟨w.heap.size, _, _, by rw [hlen], Nat.zero_le _, heap_alloc_new w.drew _, by rw [hlen]; exact hge, hcm, ?_, ?_⟩⟩, ((Kept.refl _ _).drew).alloc _⟩
    · simp only [Array.size_append, List.size_toArray, size_zeroCells, Bys_length, hp, Nat.mul_one]
      have : (Value.int .u8 0).cells.size = 1 := rfl
      rw [this]
      omega
    · simp only [Array.toList_append, hlen, Nat.mul_one, hbb]
      exact List.take_left' (by rw [List.length_append, Bys_length, Bys_length, hp])
  rcases h.2 with ⟨rfl, hl0⟩ | ⟨g, cap, cur, rfl, hbg, hg, hnc, hcm, hcs, htake⟩
  · obtain rfl : l = [] := List.eq_nil_of_length_eq_zero hl0
    have hr := run_append_nil (P := Tryf.prog) w 22 ty 5 i (.int .u8 0) u8_und hi hz a m c (Bys p) hnl hnews (by omega) (by simp at hlim; omega) (by rw [hby]; simp at hlim; omega)
    have hgr := grown 0 []
    simp only [List.length_nil, Nat.zero_add, List.nil_append] at hgr ⊢
    refine ⟨w.heap.size, _, _, hr, ?_, .inr (Nat.le_refl _), ?_⟩
    · simpa [Bys] using hgr.1
    · simpa [Bys, Value.ownBlock] using hgr.2
  · by_cases hroom : l.length + m ≤ cap
    · have hfit : l.length * i.size + (Bys p).length ≤ cur.size := by rw [h1, Bys_length, hp, hcs]; omega
      have hr := run_append_room (P := Tryf.prog) w 22 ty 5 i u8_und hi g l.length cap cur hg a m c (Bys p) hnl hnews (Bys_one _) hroom hfit
      refine ⟨g, cap, _, hr, ⟨by rw [Bys_length, Nat.mul_one], .inr ⟨g, cap, _, by rw [hlen], Nat.zero_le _, setRow_heap w g cur _ _ _ hg, by rw [hlen]; exact hroom, hcm, ?_, ?_⟩⟩, .inl rfl, (Kept.refl _ _).setRow (by simp [Value.ownBlock]) _⟩
      · simp only [List.size_toArray, List.length_append, List.length_take, List.length_drop, Array.length_toList, Bys_length, hp, h1]
        omega
      · rw [h1, htake, hlen, hbb, Nat.mul_one]
        exact List.take_left' (by rw [List.length_append, Bys_length, Bys_length, hp])
    · have holds : ∀ j u, (Bys l)[j]? = some u → w.cell? ((⟨g, 0, none⟩ : Addr).add j) = some u := World.ownsRow.cells h (g := g) rfl
      have hr := run_append_grow (P := Tryf.prog) w 22 ty 5 i (.int .u8 0) u8_und hi hz ⟨g, 0, none⟩ l.length cap (Bys l) (by rw [h1, Bys_length, Nat.mul_one]) holds a m c (Bys p) hnl hnews (by omega) (by omega) (growslice_fits (by omega) (by rw [hby]; omega))
      have hgr := grown cap (Value.ownBlock (.slice (some ⟨g, 0, none⟩) l.length cap)).toList
      exact ⟨w.heap.size, _, _, hr, hgr.1, .inr (Nat.le_refl _), hgr.2⟩

/-- 'append(v, ..)' of a block of bytes that has just been made. -/
theorem wpList_app_lit {w : World} {ops : Array Oper} {rest : List Oper} {o : Oper} {a : Act} {Q : Exit → Act → World → Prop} (hgd : o.guard = none) (s x : Operand)
    (ho : o.op = .call { callee := .builtin .append, args := #[s, x], argTypes := #[22, 22] })
    (v : Value) (l : List UInt8) (hs : a.eval s = v) (hown : Own w v l) (m c : Nat) (cs : Array Value) (p : List UInt8) (hx : a.eval x = .slice (some ⟨w.heap.size, 0, none⟩) m c) (hp : p.length = m) (hm : 0 < m) (hcs : cs = (Bys p).toArray) (hlim : l.length + m ≤ 1000000000000)
    (h : ∀ g cap w', Own w' (.slice (some ⟨g, 0, none⟩) (l.length + m) cap) (l ++ p) → (v.ownBlock = some g ∨ w.heap.size ≤ g) → Kept v.ownBlock.toList w w' → wpList Tryf.prog ops Q rest (a.put o.dst (.slice (some ⟨g, 0, none⟩) (l.length + m) cap)) w') : wpList Tryf.prog ops Q (o :: rest) a (w.alloc (.cells cs 5)) := by
  refine wpList_plain hgd fun K hK => ?_
  have hk : Kept [] w (w.alloc (.cells cs 5)) := (Kept.refl _ _).alloc _
  have hb := heap_alloc_new w (.cells cs 5)
  rw [hcs] at hb
  obtain ⟨g, cap, w', hr, h1, h2, h3⟩ := app_run (hown.kept hk (by simp)) o.type ⟨w.heap.size, 0, none⟩ m c p hp hm (fun j y hj => by
    rw [addr_add, Nat.zero_add, hcs, row_cell hb]; simp [Bys, hj]) hlim
  unfold Oper.wp execOp
  simp only [ho, resolve, invoke, builtin, Sem.run_bind, Sem.run_pure, Result.andThen_ok, List.map_toArray, List.map_cons, List.map_nil, hs, hx, hr]
  refine hK _ _ (h g cap w' h1 (h2.imp id fun h => ?_) ((hk.weaken (by simp)).trans h3))
  have := hk.size
  omega
end Go.Proofs.YtnjaeooblfihbaaFmt
