/-
  Brace expansion in plain terms: what a word's parts expand to; a consumer of words, which may stop; the closure that puts the literals ahead of a word.
-/
import Derived.Test.YtnnedmjkhjgbcaaFmtHB
import Derived.Shelf.Abstract
import Derived.Deep.RegionWith
namespace Go.Proofs.YtnnedmjkhjgbcaaFmt
open Go.RowKit

def litV (b : Nat) : Value := .iface 30 (.pointer (some ⟨b, 0, none⟩))
def brV (b : Nat) : Value := .iface 32 (.pointer (some ⟨b, 0, none⟩))
def IsLit (v : Value) : Prop := ∃ b, v = litV b
theorem IsLit.one {v : Value} (h : IsLit v) : v.oneCell' = true := by obtain ⟨b, rfl⟩ := h; rfl

theorem ta_lit_br (b : Nat) (w : World) : (Instr.typeAssert (.iface 30 (.pointer (some ⟨b, 0, none⟩))) 52 32 true).run Tryf.prog w = .ok (.tuple #[.pointer none, .bool false]) w := by kernel_rfl
theorem ta_br_br (b : Nat) (w : World) : (Instr.typeAssert (.iface 32 (.pointer (some ⟨b, 0, none⟩))) 52 32 true).run Tryf.prog w = .ok (.tuple #[.pointer (some ⟨b, 0, none⟩), .bool true]) w := by kernel_rfl
theorem ta_lit_lit (b : Nat) (w : World) : (Instr.typeAssert (.iface 30 (.pointer (some ⟨b, 0, none⟩))) 52 30 true).run Tryf.prog w = .ok (.tuple #[.pointer (some ⟨b, 0, none⟩), .bool true]) w := by kernel_rfl

/-- Below block B nothing has turned since w0. -/
def Old (B : Nat) (w0 w : World) : Prop := B ≤ w.heap.size ∧ ∀ k, k < B → w.heap[k]? = w0.heap[k]?
theorem Old.kept {B : Nat} {w0 w w' : World} {S : List Nat} (h : Old B w0 w) (k : Kept S w w') (hS : ∀ x ∈ S, B ≤ x) : Old B w0 w' :=
  ⟨Nat.le_trans h.1 k.size, fun i hi => (k.block i (by have := h.1; omega) (fun hm => by have := hS i hm; omega)).trans (h.2 i hi)⟩

def WordAt (w : World) (b : Nat) (v : Value) : Prop := w.heap[b]? = some (.cells #[v] 37 (0, 0))
theorem WordAt.kept {w w' : World} {S : List Nat} {b : Nat} {v : Value} (h : WordAt w b v) (k : Kept S w w') (hS : b ∉ S) : WordAt w' b v := (k.block b (heap_lt h) hS).trans h
theorem row0 {w : World} {b : Nat} {v : Value} {t : TypeId} (h : w.heap[b]? = some (.cells #[v] t (0, 0))) : w.cell? ⟨b, 0, none⟩ = some v := row_cell (L := [v]) h 0
theorem row0f {w : World} {b : Nat} {v : Value} {t : TypeId} (h : w.heap[b]? = some (.cells #[v] t (0, 0))) : w.frozen? ⟨b, 0, none⟩ = false := row_free (L := [v]) h 0
theorem row0s {w : World} {b : Nat} {v u : Value} {t : TypeId} (h : w.heap[b]? = some (.cells #[v] t (0, 0))) : (w.setCell ⟨b, 0, none⟩ u).heap[b]? = some (.cells #[u] t (0, 0)) := row_set (L := [v]) h 0 u

/-- A brace expression that is a list. -/
def BrAt (w : World) (B b : Nat) (es : List Value) : Prop := b < B ∧ ∃ ev, w.heap[b]? = some (.cells #[.bool false, ev] 34 (0, 0)) ∧ RdV (· < B) w ev es

/-- What a word's parts expand to. -/
inductive Exp (w0 : World) (B : Nat) : List Value → List (List Value) → Prop
  | done (ls : List Value) (h : ∀ v ∈ ls, IsLit v) : Exp w0 B ls [ls]
  | br (ls : List Value) (hl : ∀ v ∈ ls, IsLit v) (b n : Nat) (eb : Nat → Nat) (hb : BrAt w0 B b ((List.range n).map fun k => .pointer (some ⟨eb k, 0, none⟩))) (r : List Value) (ps : Nat → List Value)
      (hw : ∀ k, k < n → ∃ pv, WordAt w0 (eb k) pv ∧ eb k < B ∧ RdV (· < B) w0 pv (ps k)) (ys : Nat → List (List Value)) (hx : ∀ k, k < n → Exp w0 B (ps k ++ r) (ys k)) (hlen : ∀ k, k < n → (ps k ++ r).length ≤ 1000000) (ho : ∀ k, k < n → ∀ v ∈ ps k ++ r, v.oneCell' = true) :
      Exp w0 B (ls ++ brV b :: r) ((List.range n).flatMap fun k => (ys k).map (ls ++ ·))

/-- A consumer is handed one word behind the other, until it says no. -/
def runs {σ : Type} (step : σ → List Value → σ × Bool) : σ → List (List Value) → σ × Bool
  | s, [] => (s, true)
  | s, x :: xs => if (step s x).2 then runs step (step s x).1 xs else ((step s x).1, false)
section
variable {σ : Type} {step : σ → List Value → σ × Bool}
theorem runs_append (s : σ) (a b : List (List Value)) : runs step s (a ++ b) = if (runs step s a).2 then runs step (runs step s a).1 b else runs step s a := by
  induction a generalizing s with
  | nil => simp [runs]
  | cons x xs ih =>
    rw [List.cons_append, runs, runs]
    split
    · exact ih _
    · simp
theorem runs_map (s : σ) (ls : List Value) (ys : List (List Value)) : runs (fun s y => step s (ls ++ y)) s ys = runs step s (ys.map (ls ++ ·)) := by
  induction ys generalizing s with
  | nil => rfl
  | cons x xs ih =>
    rw [List.map_cons, runs, runs, ih]
theorem runs_one (s : σ) (y : List Value) : runs step s [y] = step s y := by
  rw [runs]
  cases h : step s y with
  | mk a b => cases b <;> simp [runs]
end

/-- Each word that the consumer is handed suits it. -/
def safe {σ : Type} (G : σ → List Value → Prop) (step : σ → List Value → σ × Bool) : σ → List (List Value) → Prop
  | _, [] => True
  | s, x :: xs => G s x ∧ ((step s x).2 = true → safe G step (step s x).1 xs)
theorem safe_append {σ : Type} {G : σ → List Value → Prop} {step : σ → List Value → σ × Bool} {s : σ} {a b : List (List Value)} (h : safe G step s (a ++ b)) : safe G step s a ∧ ((runs step s a).2 = true → safe G step (runs step s a).1 b) := by
  induction a generalizing s with
  | nil => exact ⟨trivial, fun _ => h⟩
  | cons x xs ih =>
    obtain ⟨h1, h2⟩ := h
    rw [runs]
    by_cases hs : (step s x).2 = true
    · have := ih (h2 hs)
      rw [if_pos hs]
      exact ⟨⟨h1, fun _ => this.1⟩, this.2⟩
    · rw [if_neg hs]
      exact ⟨⟨h1, fun h => absurd h hs⟩, fun h => by simp at h⟩
theorem safe_map {σ : Type} {G : σ → List Value → Prop} {step : σ → List Value → σ × Bool} {s : σ} {ls : List Value} {ys : List (List Value)} (h : safe G step s (ys.map (ls ++ ·))) : safe (fun s y => G s (ls ++ y)) (fun s y => step s (ls ++ y)) s ys := by
  induction ys generalizing s with
  | nil => trivial
  | cons x xs ih => exact ⟨h.1, fun hs => ih (h.2 hs)⟩

structure Cons {σ : Type} (w0 : World) (B : Nat) (G : σ → List Value → Prop) (fk : FuncId) (cap : Array Value) (step : σ → List Value → σ × Bool) (J : σ → List Nat → World → Prop) : Prop where
  enters : Enters Tryf.prog fk
  small : ∀ {s : σ} {y : List Value}, G s y → y.length ≤ 1000000000
  keep : ∀ {s : σ} {F : List Nat} {w w' : World} {S : List Nat}, J s F w → Kept S w w' → (∀ x ∈ S, x ∉ F) → (∀ x ∈ S, B ≤ x) → J s F w'
  lt : ∀ {s : σ} {F : List Nat} {w : World}, J s F w → ∀ x ∈ F, B ≤ x ∧ x < w.heap.size
  call : ∀ {s : σ} {F : List Nat} {w : World} {pw : Nat} {v : Value} {ls : List Value}, J s F w → Old B w0 w → WordAt w pw v → B ≤ pw → pw ∉ F → OwnV 52 w v ls → (∀ g ∈ v.ownBlock, B ≤ g ∧ g ∉ F) → (∀ x ∈ ls, IsLit x) → G s ls →
    Calls Tryf.prog fk (#[.pointer (some ⟨pw, 0, none⟩)] ++ cap) w fun e w' => e = .returned (.bool (step s ls).2) ∧ ∃ F', J (step s ls).1 F' w' ∧ (∀ x ∈ F', x ∈ F ∨ x = pw ∨ v.ownBlock = some x ∨ w.heap.size ≤ x) ∧ Kept (pw :: F) w w'

/-- The closure's own memory: the literals ahead, the consumer behind. -/
def J2 {σ : Type} (B lb yb : Nat) (vl : Value) (left : List Value) (fk : FuncId) (cap : Array Value) (J : σ → List Nat → World → Prop) (s : σ) (F2 : List Nat) (w : World) : Prop :=
  ∃ F, F2 = lb :: yb :: (vl.ownBlock.toList ++ F) ∧ J s F w ∧ w.heap[lb]? = some (.cells #[vl] 35 (0, 0)) ∧ OwnV 52 w vl left ∧ w.heap[yb]? = some (.cells #[.func (.func fk) #[] cap] 41 (0, 0)) ∧
    (B ≤ lb ∧ B ≤ yb ∧ ∀ g ∈ vl.ownBlock, B ≤ g) ∧ lb ∉ F ∧ yb ∉ F ∧ (∀ g ∈ vl.ownBlock, g ∉ F)

/-- slices.Concat of two slices that lie side by side in a new row. -/
theorem concat_sl {w : World} {t : TypeId} {v1 v2 : Value} {xs ys : List Value} {P1 P2 : Nat → Prop} (h1 : RdV P1 w v1 xs) (h2 : RdV P2 w v2 ys) (o1 : ∀ v ∈ xs, v.oneCell' = true) (o2 : ∀ v ∈ ys, v.oneCell' = true) (hl : xs.length + ys.length ≤ 1000000000) {z : Nat} (hsz : w.heap.size = z) (w1 : World) (hw1 : w1 = w.alloc (.cells #[v1, v2] t) ∨ w1 = (w.alloc (.cells #[v1, v2] t)).drew) :
    Calls Tryf.prog 18 #[.slice (some ⟨z, 0, none⟩) 2 2] w1 fun e w' => ∃ A c, e = .returned (.slice A (xs.length + ys.length) c) ∧ OwnV 52 w' (.slice A (xs.length + ys.length) c) (xs ++ ys) ∧ (∀ g ∈ (Value.slice A (xs.length + ys.length) c).ownBlock, w.heap.size < g) ∧ Kept [] w w' := by
  subst hsz
  have hb : w1.heap[w.heap.size]? = some (.cells [v1, v2].toArray t (0, 0)) := by
    rcases hw1 with rfl | rfl
    · exact heap_alloc_new w _
    · exact heap_alloc_new w _
  have hk : Kept [] w w1 := by
    rcases hw1 with rfl | rfl
    · exact (Kept.refl _ _).alloc _
    · exact ((Kept.refl _ _).alloc _).drew
  have hz : w1.heap.size = w.heap.size + 1 := by
    rcases hw1 with rfl | rfl
    · simp
    · simp
  refine (concat_any (w := w1) (o := 0) (row_cell hb 0) (row_cell hb 1) (h1.kept hk (by simp)) (h2.kept hk (by simp)) o1 o2 hl).mono ?_
  rintro e w' ⟨v, rfl, ho, hg, hk'⟩
  obtain ⟨A, c, hv, _⟩ := ho.rd
  rw [List.length_append] at hv
  subst hv
  exact ⟨A, c, rfl, ho, fun g h => by have := hg g h; omega, hk.trans hk'⟩

/-- What the closure leaves. -/
def CallPost {σ : Type} (J : σ → List Nat → World → Prop) (s' : σ) (F : List Nat) (pw : Nat) (ob : Option Nat) (w : World) (w' : World) : Prop :=
  ∃ F', J s' F' w' ∧ (∀ x ∈ F', x ∈ F ∨ x = pw ∨ ob = some x ∨ w.heap.size ≤ x) ∧ Kept (pw :: F) w w'

/-- A block that was there and is none of those that may turn is still there; and in none of those that the consumer took. -/
theorem taken_not {F F' : List Nat} {pw m x : Nat} {ob : Option Nat} (hsub : ∀ x ∈ F', x ∈ F ∨ x = pw ∨ ob = some x ∨ m ≤ x) (hx : x < m) (h1 : x ∉ F) (h2 : x ≠ pw) (h3 : ob ≠ some x) : x ∉ F' := fun h => by
  rcases hsub x h with h | h | h | h
  · exact h1 h
  · exact h2 h
  · exact h3 h
  · omega

theorem clo2_end {σ : Type} {B : Nat} {fk : FuncId} {cap : Array Value} {J : σ → List Nat → World → Prop} {lb yb : Nat} {vl : Value} {left : List Value} {s' : σ} {F : List Nat} {w w1 w2 : World} {pw : Nat} {v v3 u : Value} (hpw : pw ∉ lb :: yb :: (vl.ownBlock.toList ++ F))
    (hlb : w.heap[lb]? = some (.cells #[vl] 35 (0, 0))) (hol : OwnV 52 w vl left) (hyb : w.heap[yb]? = some (.cells #[.func (.func fk) #[] cap] 41 (0, 0))) (hb : B ≤ lb ∧ B ≤ yb ∧ ∀ g ∈ vl.ownBlock, B ≤ g) (n1 : lb ∉ F) (n2 : yb ∉ F) (n3 : ∀ g ∈ vl.ownBlock, g ∉ F)
    (hk3 : Kept [] w w1) (hb3 : ∀ g ∈ v3.ownBlock, w.heap.size < g) (hpz : pw < w.heap.size) {F' : List Nat} (hj : J s' F' w2) (hsub : ∀ x ∈ F', x ∈ F ∨ x = pw ∨ v3.ownBlock = some x ∨ (w1.setCell ⟨pw, 0, none⟩ u).heap.size ≤ x) (hk : Kept (pw :: F) (w1.setCell ⟨pw, 0, none⟩ u) w2) :
    CallPost (J2 B lb yb vl left fk cap J) s' (lb :: yb :: (vl.ownBlock.toList ++ F)) pw v.ownBlock w w2 := by
  have hz : (w1.setCell ⟨pw, 0, none⟩ u).heap.size = w1.heap.size := by simp [World.setCell]
  have hz1 := hk3.size
  rw [hz] at hsub
  have kt : Kept (pw :: F) w w2 := ((hk3.weaken (by simp)).setCell (by simp) u).trans hk
  have hl : lb < w.heap.size := heap_lt hlb
  have hy : yb < w.heap.size := heap_lt hyb
  have e1 : lb ≠ pw := fun h => hpw (by simp [h])
  have e2 : yb ≠ pw := fun h => hpw (by simp [h])
  have e3 : ∀ g ∈ vl.ownBlock, g ≠ pw := fun g hg h => hpw (by subst h; have h' : vl.ownBlock = some g := hg; simp [h'])
  have hv3 : ∀ x, x < w.heap.size → v3.ownBlock ≠ some x := fun x hx h => by have := hb3 x h; omega
  refine ⟨lb :: yb :: (vl.ownBlock.toList ++ F'), ⟨F', rfl, hj, (kt.block lb hl (by simp [e1, n1])).trans hlb, hol.kept kt (fun g hg => by simp [e3 g hg, n3 g hg]), (kt.block yb hy (by simp [e2, n2])).trans hyb, hb, taken_not hsub (by omega) n1 e1 (hv3 _ hl), taken_not hsub (by omega) n2 e2 (hv3 _ hy), fun g hg => taken_not hsub (by have := hol.lt g hg; omega) (n3 g hg) (e3 g hg) (hv3 _ (hol.lt g hg))⟩, ?_, kt.weaken (by simp; intro x hx; simp [hx])⟩
  intro x hx
  simp only [List.mem_cons, List.mem_append] at hx ⊢
  rcases hx with h | h | h | h
  · exact .inl (.inl h)
  · exact .inl (.inr (.inl h))
  · exact .inl (.inr (.inr (.inl h)))
  · rcases hsub x h with h | h | h | h
    · exact .inl (.inr (.inr (.inr h)))
    · exact .inr (.inl h)
    · have := hb3 x h; exact .inr (.inr (.inr (by omega)))
    · exact .inr (.inr (.inr (by omega)))

set_option maxRecDepth 100000 in
set_option maxHeartbeats 800000 in
theorem clo2_call {σ : Type} {w0 : World} {B : Nat} {G : σ → List Value → Prop} {fk : FuncId} {cap : Array Value} {step : σ → List Value → σ × Bool} {J : σ → List Nat → World → Prop} (hc : Cons w0 B G fk cap step J) {lb yb : Nat} {vl : Value} {left : List Value} (hleft : ∀ v ∈ left, IsLit v)
    {s : σ} {F2 : List Nat} {w : World} {pw : Nat} {v : Value} {ls : List Value} (hj : J2 B lb yb vl left fk cap J s F2 w) (hold : Old B w0 w) (hword : WordAt w pw v) (hB : B ≤ pw) (hpw : pw ∉ F2) (hown : OwnV 52 w v ls) (hrow : ∀ g ∈ v.ownBlock, B ≤ g ∧ g ∉ F2) (hls : ∀ x ∈ ls, IsLit x) (hll : G s (left ++ ls)) :
    Calls Tryf.prog 17 #[.pointer (some ⟨pw, 0, none⟩), .pointer (some ⟨lb, 0, none⟩), .pointer (some ⟨yb, 0, none⟩)] w fun e w' => e = .returned (.bool (step s (left ++ ls)).2) ∧ CallPost (J2 B lb yb vl left fk cap J) (step s (left ++ ls)).1 F2 pw v.ownBlock w w' := by
  have hsm := hc.small hll
  rw [List.length_append] at hsm
  have HLL := Lib.hid hll
  clear hll
  obtain ⟨F, rfl, hJ, hlb, hol, hyb, ⟨b1, b2, b3⟩, n1, n2, n3⟩ := hj
  obtain ⟨A1, m1, hv1, _, _, _, _, _⟩ := hol.rd
  obtain ⟨A2, m2, hv2, _, _, _, _, _⟩ := hown.rd
  subst hv1 hv2
  have c1 := row0 hlb; have c2 := row0 hyb; have c3 := row0 hword; have f3 := row0f hword
  have HR1 := Lib.hid hol.rd; have HR2 := Lib.hid hown.rd
  have HWA := Lib.hid hword; have HLB := Lib.hid hlb; have HYB := Lib.hid hyb; have HOL := Lib.hid hol; have HON := Lib.hid hown; have HN3 := Lib.hid n3; have HB3' := Lib.hid b3; have N1 := Lib.hid n1; have N2 := Lib.hid n2
  have hen : ∀ (args : Array Value) (w : World), (callFunc fk args).run Tryf.prog w = .ok (.enter fk args) w := hc.enters
  clear hlb hyb hword hol hown n3 b3 n1 n2
  go_enter Tryf.func17, Tryf.ntmps17
  go_wp2_with fail
  have HCN := Lib.hid (concat_sl (t := 35) HR1.out HR2.out (fun v hv => (hleft v hv).one) (fun v hv => (hls v hv).one) (by omega) rfl)
  have hne1 : ¬ yb = pw := fun h => hpw (by simp [h])
  have hne2 : ¬ pw = yb := fun h => hpw (by simp [h])
  have HPW := Lib.hid hpw; have HRW := Lib.hid hrow; have HJ := Lib.hid hJ; have HOLD := Lib.hid hold
  clear hpw hrow hJ hold
  have hzp : pw < w.heap.size := heap_lt HWA.out
  have hzy : yb < w.heap.size := block_lt_of_cell c2
  go_region_with (go_at_call 18; refine (HCN.out _ (.inr rfl)).mono ?_; rintro e w1 ⟨A3, m3, rfl, ho3, hb3, hk3⟩; dsimp only; have d2 := (hk3.cell (p := ⟨yb, 0, none⟩) hzy (by simp)).trans c2; have d3 := row0 (HWA.out.kept hk3 (by simp)); have g3 := row0f (HWA.out.kept hk3 (by simp)); have HO3 := Lib.hid ho3; have HB3 := Lib.hid hb3; have HK3 := Lib.hid hk3; clear ho3 hb3 hk3)
  all_goals (
    have hw1 : WordAt (w1.setCell ⟨pw, 0, none⟩ (.slice A3 (left.length + ls.length) m3)) pw (.slice A3 (left.length + ls.length) m3) := row0s (HWA.out.kept HK3.out (by simp))
    have hks : Kept [pw] w (w1.setCell ⟨pw, 0, none⟩ (.slice A3 (left.length + ls.length) m3)) := (HK3.out.weaken (by simp)).setCell (by simp) _
    have hpn : pw ∉ F := fun h => HPW.out (by simp [h])
    have hcall := Lib.hid (hc.call (hc.keep HJ.out hks (by simpa using hpn) (by simpa using hB)) (HOLD.out.kept hks (by simpa using hB)) hw1 hB hpn (HO3.out.kept ((Kept.refl [pw] w1).setCell (by simp) _) (fun g hg hm => by have h1 := HB3.out g hg; simp at hm; omega)) (fun g hg => ⟨by have h1 := HB3.out g hg; omega, fun hm => by have h1 := HB3.out g hg; have h2 := hc.lt HJ.out g hm; omega⟩) (fun x hx => by rcases List.mem_append.1 hx with h | h; exact hleft x h; exact hls x h) HLL.out)
    clear hw1 hks hpn
    go_wp2_with (go_at_fn fk; refine hcall.out.mono ?_; rintro e w2 ⟨rfl, hpost⟩; dsimp only; have HP := Lib.hid hpost; clear hpost)
    go_ret
    refine ⟨rfl, ?_⟩
    obtain ⟨F', hj', hsub', hk'⟩ := HP.out
    exact clo2_end HPW.out HLB.out HOL.out HYB.out ⟨b1, b2, HB3'.out⟩ N1.out N2.out HN3.out HK3.out HB3.out hzp hj' hsub' hk')
/-- The closure is a consumer. -/
theorem clo2_cons {σ : Type} {w0 : World} {B : Nat} {G : σ → List Value → Prop} {fk : FuncId} {cap : Array Value} {step : σ → List Value → σ × Bool} {J : σ → List Nat → World → Prop} (hc : Cons w0 B G fk cap step J) {lb yb : Nat} {vl : Value} {left : List Value} (hleft : ∀ v ∈ left, IsLit v) :
    Cons w0 B (fun s y => G s (left ++ y)) 17 #[.pointer (some ⟨lb, 0, none⟩), .pointer (some ⟨yb, 0, none⟩)] (fun s y => step s (left ++ y)) (J2 B lb yb vl left fk cap J) where
  enters := enters_of Tryf.func17 (by kernel_rfl) rfl
  small := fun h => by have := hc.small h; rw [List.length_append] at this; omega
  keep := by
    rintro s F2 w w' S ⟨F, rfl, hj, h1, h2, h3, hb, n1, n2, n3⟩ hk hS hSB
    have q1 : lb ∉ S := fun h => hS _ h (by simp)
    have q2 : yb ∉ S := fun h => hS _ h (by simp)
    refine ⟨F, rfl, hc.keep hj hk (fun x hx hm => hS x hx (by simp [hm])) hSB, (hk.block lb (heap_lt h1) q1).trans h1, h2.kept hk (fun g hg hm => hS g hm ?_), (hk.block yb (heap_lt h3) q2).trans h3, hb, n1, n2, n3⟩
    have h' : vl.ownBlock = some g := hg
    simp [h']
  lt := by
    rintro s F2 w ⟨F, rfl, hj, h1, h2, h3, ⟨b1, b2, b3⟩, n1, n2, n3⟩ x hx
    simp only [List.mem_cons, List.mem_append] at hx
    rcases hx with rfl | rfl | h | h
    · exact ⟨b1, heap_lt h1⟩
    · exact ⟨b2, heap_lt h3⟩
    · exact ⟨b3 x (mem_own h), h2.lt x (mem_own h)⟩
    · exact hc.lt hj x h
  call := fun hj hold hword hB hpw hown hrow hls hll => clo2_call hc hleft hj hold hword hB hpw hown hrow hls hll
end Go.Proofs.YtnnedmjkhjgbcaaFmt
