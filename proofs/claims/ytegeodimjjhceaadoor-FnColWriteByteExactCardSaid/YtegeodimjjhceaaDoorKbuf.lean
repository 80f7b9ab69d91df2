/-
  n010_39: the writer that keeps every byte (in bytes.Buffer's place): what its Write does. The frame is exact.
-/
import Derived.Test.YtegeodimjjhceaaDoorApp
import Derived.RegionTactic
import Derived.Deep.RegionWith
import Derived.Deep.Draws
import Derived.BigCall
import Derived.BigGuard
namespace Go.Proofs.YtegeodimjjhceaaDoor
open Go.RowKit

abbrev TK : Nat := 27
/-- The sink at block b holds bs, in a row of its own, or none yet. -/
def Bf (w : World) (T b q : Nat) (_R : Nat → Option Value) (row : Option Nat) (bs : List UInt8) : Prop :=
  ∃ cv, w.heap[b]? = some (.cells [cv].toArray TK (0, 0)) ∧ Own w cv bs ∧ cv.ownBlock = row ∧ (∀ g ∈ row, g ≠ b) ∧ q = 0 ∧ T = TK
section
variable {w w' : World} {T b q : Nat} {R : Nat → Option Value} {row : Option Nat} {bs : List UInt8}
theorem Bf.lt (h : Bf w T b q R row bs) : b < w.heap.size := by obtain ⟨cv, h, _⟩ := h; exact heap_lt h
theorem Bf.rowlt (h : Bf w T b q R row bs) : ∀ g ∈ row, g < w.heap.size ∧ g ≠ b := by
  obtain ⟨cv, _, ho, rfl, hn, _⟩ := h
  exact fun g hg => ⟨ho.lt g hg, hn g hg⟩
theorem Bf.kept {S : List Nat} (h : Bf w T b q R row bs) (k : Kept S w w') (hb : b ∉ S) (hr : ∀ g ∈ row, g ∉ S) : Bf w' T b q R row bs := by
  have hlt := h.lt
  obtain ⟨cv, h1, ho, rfl, hn, h2⟩ := h
  exact ⟨cv, (k.block b hlt hb).trans h1, ho.kept k hr, rfl, hn, h2⟩
end
theorem bytes_of_cells {w : World} {g n : Nat} {cur : Array Value} {l : List UInt8} (hg : w.heap[g]? = some (.cells cur 5 (0, 0))) (hl : l.length = n) (htk : cur.toList.take n = Bys l) : SrcB w (some ⟨g, 0, none⟩) n l := by
  refine ⟨hl, fun _ => ⟨g, 0, rfl, heap_lt hg, fun j c hj => ?_⟩⟩
  have hlt : j < n := hl ▸ (List.getElem?_eq_some_iff.1 hj).1
  rw [Nat.zero_add, cell_of_row _ _ _ _ _ _ hg, ← Array.getElem?_toList, ← List.getElem?_take_of_lt hlt, htk]
  simp [Bys, hj]

theorem wpList_app {w : World} {ops : Array Oper} {rest : List Oper} {o : Oper} {a : Act} {Q : Exit → Act → World → Prop} (hgd : o.guard = none) (s x : Operand)
    (ho : o.op = .call { callee := .builtin .append, args := #[s, x], argTypes := #[22, 22] })
    (v : Value) (l : List UInt8) (hs : a.eval s = v) (hown : Own w v l) (ad : Addr) (m c : Nat) (p : List UInt8) (hx : a.eval x = .slice (some ad) m c) (hp : p.length = m) (hm : 0 < m) (hc : ∀ j y, p[j]? = some y → w.cell? (ad.add j) = some (By y)) (hlim : l.length + m ≤ 1000000000000)
    (h : ∀ g cap w', Own w' (.slice (some ⟨g, 0, none⟩) (l.length + m) cap) (l ++ p) → (v.ownBlock = some g ∨ w.heap.size ≤ g) → Kept v.ownBlock.toList w w' → wpList Tryd.prog ops Q rest (a.put o.dst (.slice (some ⟨g, 0, none⟩) (l.length + m) cap)) w') : wpList Tryd.prog ops Q (o :: rest) a w := by
  refine wpList_plain hgd fun K hK => ?_
  obtain ⟨g, cap, w', hr, h1, h2, h3⟩ := app_run hown o.type ad m c p hp hm hc hlim
  unfold Oper.wp execOp
  simp only [ho, resolve, invoke, builtin, Sem.run_bind, Sem.run_pure, Result.andThen_ok, List.map_toArray, List.map_cons, List.map_nil, hs, hx, hr]
  exact hK _ _ (h g cap w' h1 h2 h3)

set_option maxRecDepth 100000 in
theorem buf_write {w : World} {T b q : Nat} {R : Nat → Option Value} {row : Option Nat} {bs : List UInt8} (h : Bf w T b q R row bs) (A : Option Addr) (n c : Nat) (p : List UInt8) (hp : SrcB w A n p) (_hA : ∀ a ∈ A, a.block ≠ b) (hn : 0 < n) (hlim : bs.length + n ≤ 1000000000000) :
    Calls Tryd.prog 35 #[.pointer (some ⟨b, q, none⟩), .slice A n c] w fun e w' => e = .returned (.tuple #[.int .i64 n, .nilIface]) ∧ ∃ row', Bf w' T b q R row' (bs ++ p) ∧ (∀ g ∈ row', row' = row ∨ w.heap.size ≤ g) ∧ Kept (b :: row.toList) w w' := by
  have hlt := h.lt
  obtain ⟨cv, h1, ho, rfl, hne, rfl, rfl⟩ := h
  obtain ⟨sg, so, rfl, hsg, hsc⟩ := hp.2 hn
  have c0 : w.cell? ⟨b, 0, none⟩ = some cv := row_cell h1 0
  have hadd : ∀ j y, p[j]? = some y → w.cell? ((⟨sg, so, none⟩ : Addr).add j) = some (By y) := fun j y hj => by rw [addr_add]; exact hsc j y hj
  have HA := Lib.hid hadd; have HO := Lib.hid ho; have HP := Lib.hid hp.1; have H1 := Lib.hid h1; have HN := Lib.hid hne
  clear hadd ho hp h1 hne hsc
  go_enter Tryd.func35, Tryd.ntmps35
  go_wp2_with (at_builtin; refine wpList_app rfl _ _ rfl cv bs rfl HO.out ⟨sg, so, none⟩ n c p rfl HP.out hn HA.out hlim ?_; intro g cap w1 ho1 hn1 hk1; have hb1 : w1.heap[b]? = some (.cells [cv].toArray TK (0, 0)) := (hk1.block b hlt (fun hm => HN.out b (by simpa using hm) rfl)).trans H1.out; have c1 : w1.cell? ⟨b, 0, none⟩ = some cv := row_cell hb1 0; have f1 : w1.frozen? ⟨b, 0, none⟩ = false := row_free hb1 0; have HO1 := Lib.hid ho1; have HN1 := Lib.hid hn1; have HK1 := Lib.hid hk1; have HB1 := Lib.hid hb1; clear ho1 hn1 hk1 hb1)
  go_ret2
  have hk2 : Kept [b] w1 (w1.setCell ⟨b, 0, none⟩ (.slice (some ⟨g, 0, none⟩) (bs.length + n) cap)) := (Kept.refl _ _).setCell (p := ⟨b, 0, none⟩) (by simp) _
  have hgb : g ≠ b := by
    rcases HN1.out with e | e
    · exact HN.out g e
    · omega
  refine ⟨rfl, some g, ⟨_, by rw [row_set HB1.out]; rfl, HO1.out.kept hk2 (fun g' hg' => by cases hg'; simp; exact hgb), rfl, fun g' hg' => by cases hg'; exact hgb, rfl, rfl⟩, fun g' hg' => ?_, (HK1.out.weaken (fun x hx => .inl (by simp only [List.mem_cons]; exact .inr hx))).trans (hk2.weaken (by simp))⟩
  cases hg'
  rcases HN1.out with e | e
  · exact .inl e.symm
  · exact .inr e
end Go.Proofs.YtegeodimjjhceaaDoor
