/-
  bracesSeqRec at a brace that is a list: each element in turn.
-/
import Derived.Test.YtnnedmjkhjgbcaaFmtHD
namespace Go.Proofs.YtnnedmjkhjgbcaaFmt
open Go.RowKit

theorem mk_func (fn : Fn) (first cap : Array Value) (w : World) : (Instr.makeFunc fn first cap).run Tryf.prog w = .ok (.func fn first cap) w := by kernel_rfl

theorem clo1_call {w : World} {pn lb yb : Nat} {b : Bool} {S : World → Prop} (h : Calls Tryf.prog 14 #[.pointer (some ⟨pn, 0, none⟩), .func (.func 17) #[] #[.pointer (some ⟨lb, 0, none⟩), .pointer (some ⟨yb, 0, none⟩)]] w fun e w' => e = .returned (.bool b) ∧ S w') :
    Calls Tryf.prog 16 #[.pointer (some ⟨pn, 0, none⟩), .pointer (some ⟨lb, 0, none⟩), .pointer (some ⟨yb, 0, none⟩)] w fun e w' => e = .returned (.bool b) ∧ S w' := by
  have H := Lib.hid h
  have hmf := mk_func
  clear h
  go_enter Tryf.func16, Tryf.ntmps16
  go_wp2_with (go_at_call 14; refine H.out.mono ?_; rintro e w1 ⟨rfl, hs⟩; dsimp only; have HS := Lib.hid hs; clear hs)
  go_ret
  exact ⟨rfl, HS.out⟩

/-- What bracesSeqRec does with a word. -/
def BsrOk (w0 : World) (B : Nat) (ps : List Value) (yss : List (List Value)) : Prop :=
  ∀ (σ : Type) (G : σ → List Value → Prop) (fk : FuncId) (cap : Array Value) (step : σ → List Value → σ × Bool) (J : σ → List Nat → World → Prop), Cons w0 B G fk cap step J → ps.length ≤ 1000000 →
    ∀ (s : σ) (F : List Nat) (w : World) (pw : Nat) (v : Value), safe G step s yss → J s F w → Old B w0 w → WordAt w pw v → pw ∉ F → RdV (· ∉ F) w v ps →
      Calls Tryf.prog 14 #[.pointer (some ⟨pw, 0, none⟩), .func (.func fk) #[] cap] w fun e w' => e = .returned (.bool (runs step s yss).2) ∧ BsrPost J (runs step s yss).1 F w w'

/-- In the middle of the list. -/
def InI {σ : Type} (B : Nat) (fk : FuncId) (cap : Array Value) (step : σ → List Value → σ × Bool) (J : σ → List Nat → World → Prop) (s : σ) (F : List Nat) (w : World) (vl : Value) (ls : List Value) (f : Nat → List (List Value)) (j : Nat) (wr : World) : Prop :=
  ∃ sj F', runs step s ((List.range j).flatMap f) = (sj, true) ∧ J2 B (w.heap.size + 1) w.heap.size vl ls fk cap J sj ((w.heap.size + 1) :: w.heap.size :: (vl.ownBlock.toList ++ F')) wr ∧ (∀ x ∈ F', x ∈ F ∨ w.heap.size ≤ x) ∧ Kept F w wr ∧ (∀ g ∈ vl.ownBlock, w.heap.size ≤ g)

theorem inI_start {σ : Type} {w0 : World} {B : Nat} {G : σ → List Value → Prop} {fk : FuncId} {cap : Array Value} {step : σ → List Value → σ × Bool} {J : σ → List Nat → World → Prop} (hc : Cons w0 B G fk cap step J) {s : σ} {F : List Nat} {w wr : World} (hj : J s F w) (hold : Old B w0 w) {A : Option Addr} {n m : Nat} {ls : List Value} (h : Left w wr (.func (.func fk) #[] cap) A n m ls) {f : Nat → List (List Value)} :
    InI B fk cap step J s F w (.slice A n m) ls f 0 wr := by
  obtain ⟨h0, h1, h2, h3, h4, h5⟩ := h
  have hz := h5.size
  have hb := hold.1
  have hF : ∀ x ∈ F, x < w.heap.size := fun x hx => (hc.lt hj x hx).2
  refine ⟨s, F, rfl, ⟨F, rfl, hc.keep hj h5 (by simp) (by simp), h2, h3, h1, ⟨by omega, by omega, fun g hg => by have := h4 g hg; omega⟩, fun hm => by have := hF _ hm; omega, fun hm => by have := hF _ hm; omega, fun g hg hm => by have := hF _ hm; have := h4 g hg; omega⟩, fun x hx => .inl hx, h5.weaken (by simp), fun g hg => by have := h4 g hg; omega⟩
theorem inI_end {σ : Type} {B : Nat} {fk : FuncId} {cap : Array Value} {step : σ → List Value → σ × Bool} {J : σ → List Nat → World → Prop} {s : σ} {F : List Nat} {w wr : World} {vl : Value} {ls : List Value} {f : Nat → List (List Value)} {n : Nat} (h : InI B fk cap step J s F w vl ls f n wr) :
    Ending.returned (.bool true) = .returned (.bool (runs step s ((List.range n).flatMap f)).2) ∧ BsrPost J (runs step s ((List.range n).flatMap f)).1 F w wr := by
  obtain ⟨sj, F', hr, ⟨F2, he, hj, _⟩, hsub, hk, _⟩ := h
  simp only [List.cons.injEq, true_and, List.append_cancel_left_eq] at he
  subst he
  rw [hr]
  exact ⟨rfl, F', hj, hsub, hk⟩

/-- A round of the list is over: go on, or the consumer has said no. -/
def InPost {σ : Type} (B : Nat) (fk : FuncId) (cap : Array Value) (step : σ → List Value → σ × Bool) (J : σ → List Nat → World → Prop) (s : σ) (F : List Nat) (w : World) (vl : Value) (ls : List Value) (f : Nat → List (List Value)) (j : Nat) (w' : World) : Prop :=
  ((runs step s ((List.range (j + 1)).flatMap f)).2 = true → InI B fk cap step J s F w vl ls f (j + 1) w') ∧ ((runs step s ((List.range (j + 1)).flatMap f)).2 = false → BsrPost J (runs step s ((List.range (j + 1)).flatMap f)).1 F w w')

theorem in_call {σ : Type} {w0 : World} {B : Nat} {G : σ → List Value → Prop} {fk : FuncId} {cap : Array Value} {step : σ → List Value → σ × Bool} {J : σ → List Nat → World → Prop} (hc : Cons w0 B G fk cap step J) {s : σ} {F : List Nat} {w wr : World} (hj : J s F w) (hold : Old B w0 w) {vl : Value} {ls : List Value} (hls : ∀ v ∈ ls, IsLit v) {f : Nat → List (List Value)} {j : Nat} {pr : List Value} {yj : List (List Value)} (hf : f j = yj.map (ls ++ ·)) (ih : BsrOk w0 B pr yj) {n : Nat} (hjn : j < n) (hG : safe G step s ((List.range n).flatMap f)) (hlen : pr.length ≤ 1000000)
    (hin : InI B fk cap step J s F w vl ls f j wr) {vx : Value} {w1 : World} (hk1 : Kept [] (wr.alloc (.cells #[vx] 37)) w1) {v3 : Value} (ho3 : OwnV 52 w1 v3 pr) (hb3 : ∀ g ∈ v3.ownBlock, (wr.alloc (.cells #[vx] 37)).heap.size < g) :
    Calls Tryf.prog 16 #[.pointer (some ⟨wr.heap.size, 0, none⟩), .pointer (some ⟨w.heap.size + 1, 0, none⟩), .pointer (some ⟨w.heap.size, 0, none⟩)] (w1.setCell ⟨wr.heap.size, 0, none⟩ v3) fun e w' => e = .returned (.bool (runs step s ((List.range (j + 1)).flatMap f)).2) ∧ InPost B fk cap step J s F w vl ls f j w' := by
  obtain ⟨sj, F', hr, hJ2, hsub, hk, hown⟩ := hin
  have hR : runs step s ((List.range (j + 1)).flatMap f) = runs (fun s y => step s (ls ++ y)) sj yj := by
    rw [List.range_succ, List.flatMap_append, runs_append, hr, if_pos rfl, runs_map]
    simp [hf]
  have hG2 : safe (fun s y => G s (ls ++ y)) (fun s y => step s (ls ++ y)) sj yj := by
    obtain ⟨m, rfl⟩ : ∃ m, n = (j + 1) + m := ⟨n - (j + 1), by omega⟩
    rw [List.range_add, List.flatMap_append, List.range_succ, List.flatMap_append, List.append_assoc] at hG
    have h1 := (safe_append hG).2
    rw [hr] at h1
    have h2 := (safe_append (h1 rfl)).1
    have e : List.flatMap f [j] = yj.map (ls ++ ·) := by simp [hf]
    rw [e] at h2
    exact safe_map h2
  have hz : (wr.alloc (.cells #[vx] 37)).heap.size = wr.heap.size + 1 := by simp
  have hz1 := hk1.size
  have hzw := hk.size
  have hzs : (w1.setCell ⟨wr.heap.size, 0, none⟩ v3).heap.size = w1.heap.size := by simp [World.setCell]
  have hC2 := clo2_cons hc hls (lb := w.heap.size + 1) (yb := w.heap.size) (vl := vl) (left := ls)
  have hF2 : ∀ x ∈ (w.heap.size + 1) :: w.heap.size :: (vl.ownBlock.toList ++ F'), B ≤ x ∧ x < wr.heap.size := hC2.lt hJ2
  have e1 : WordAt w1 wr.heap.size vx := (hk1.block _ (by omega) (by simp)).trans (heap_alloc_new wr _)
  have ka : Kept [] wr w1 := ((Kept.refl _ _).alloc _).trans hk1
  have kb : Kept [wr.heap.size] wr (w1.setCell ⟨wr.heap.size, 0, none⟩ v3) := (ka.weaken (by simp)).setCell (by simp) _
  have hBF : ∀ x ∈ F, B ≤ x := fun x hx => (hc.lt hj x hx).1
  have hold' : Old B w0 (w1.setCell ⟨wr.heap.size, 0, none⟩ v3) := (hold.kept hk hBF).kept kb (fun x hx => by simp at hx; have := hold.1; omega)
  have hnb : wr.heap.size ∉ (w.heap.size + 1) :: w.heap.size :: (vl.ownBlock.toList ++ F') := fun hm => by have := (hF2 _ hm).2; omega
  have hrd : RdV (· ∉ (w.heap.size + 1) :: w.heap.size :: (vl.ownBlock.toList ++ F')) (w1.setCell ⟨wr.heap.size, 0, none⟩ v3) v3 pr :=
    ((ho3.kept ((Kept.refl [wr.heap.size] w1).setCell (by simp) v3) (fun g hg hm => by have := hb3 g hg; simp at hm; omega)).rd).weaken (fun g _ hg hm => by have := hb3 g hg; have := (hF2 _ hm).2; omega)
  rw [hR]
  refine (clo1_call (ih σ _ _ _ _ _ hC2 hlen sj _ _ _ _ hG2 (hC2.keep hJ2 kb (by simpa using hnb) (by have := hold.1; simp; omega)) hold' (row0s e1) hnb hrd)).mono ?_
  rintro e w' ⟨rfl, F3, ⟨F4, rfl, hj4, q1, q2, q3, q4, q5, q6, q7⟩, hsub3, hk3⟩
  have hs4 : ∀ x ∈ F4, x ∈ F ∨ w.heap.size ≤ x := fun x hx => by
    rcases hsub3 x (by simp [hx]) with h | h
    · simp only [List.mem_cons, List.mem_append] at h
      rcases h with h | h | h | h
      · exact .inr (by omega)
      · exact .inr (by omega)
      · exact .inr (hown x (mem_own h))
      · exact hsub x h
    · exact .inr (by omega)
  have hkk : Kept F w w' := by
    have k1 : Kept (wr.heap.size :: ((w.heap.size + 1) :: w.heap.size :: (vl.ownBlock.toList ++ F')) ++ F) w w' :=
      ((hk.weaken (fun x hx => .inl (by simp [hx]))).trans (kb.weaken (fun x hx => .inl (by simp at hx; simp [hx])))).trans (hk3.weaken (fun x hx => .inl (by simp only [List.mem_cons, List.mem_append, List.cons_append] at hx ⊢; rcases hx with h | h | h | h <;> simp [h])))
    refine k1.weaken (fun x hx => ?_)
    simp only [List.mem_cons, List.mem_append, List.cons_append] at hx
    rcases hx with h | h | h | (h | h) | h
    · exact .inr (by omega)
    · exact .inr (by omega)
    · exact .inr (by omega)
    · exact .inr (hown x (mem_own h))
    · exact hsub x h
    · exact .inl h
  refine ⟨rfl, fun ht => ⟨_, F4, ?_, ⟨F4, rfl, hj4, q1, q2, q3, q4, q5, q6, q7⟩, hs4, hkk, hown⟩, fun _ => ?_⟩
  · rw [hR] at ht ⊢
    exact Prod.ext rfl ht
  · rw [hR]
    exact ⟨F4, hj4, hs4, hkk⟩
theorem runs_stop {σ : Type} {step : σ → List Value → σ × Bool} {s : σ} {f : Nat → List (List Value)} {j n : Nat} (hj : j < n) (h : (runs step s ((List.range (j + 1)).flatMap f)).2 = false) : runs step s ((List.range n).flatMap f) = runs step s ((List.range (j + 1)).flatMap f) := by
  obtain ⟨m, rfl⟩ : ∃ m, n = (j + 1) + m := ⟨n - (j + 1), by omega⟩
  rw [List.range_add, List.flatMap_append, runs_append, h]
  simp

theorem RdV.old {B : Nat} {w0 w : World} {v : Value} {l : List Value} (h : RdV (· < B) w0 v l) (ho : Old B w0 w) : RdV (· < B) w v l := by
  obtain ⟨A, c, e, h1, h2, h3, h5, h4⟩ := h
  refine ⟨A, c, e, h1, h2, h3, h5, fun h0 => ?_⟩
  obtain ⟨g, o, e2, hg, hp, hc⟩ := h4 h0
  have hp' : g < B := hp
  exact ⟨g, o, e2, by have := ho.1; omega, hp, fun j x hj => (World.cell?_of_block (ho.2 g hp')).trans (hc j x hj)⟩

theorem wps_und : Tryf.prog.underlying 35 = some (.slice 52) := by kernel_rfl
theorem wps_size (w : World) : (sizeOf (Tryf.prog.elem 35)).run Tryf.prog w = .ok 1 w := by kernel_rfl
theorem rdV_drop {P : Nat → Prop} {w : World} {g o n c k : Nat} {l : List Value} (h : RdV P w (.slice (some ⟨g, o, none⟩) n c) l) (hk : k ≤ l.length) : ∃ X, (∀ w', (Instr.slice 35 (.slice (some ⟨g, o, none⟩) n c) (some (.int .i64 k)) none none).run Tryf.prog w' = .ok (.slice (some X) (n - k) (c - k)) w') ∧ RdV P w (.slice (some X) (n - k) (c - k)) (l.drop k) := by
  obtain ⟨A, c', e, h1, h2, h3, h5, h4⟩ := h
  cases e
  refine ⟨if c = k then ⟨g, o, none⟩ else ⟨g, o + k, none⟩, fun w' => ?_, ?_⟩
  · rw [run_slice_l w' _ _ _ _ (by kernel_rfl) .i64 k (by omega) (by omega), wps_size]
    show Result.ok _ _ = _
    unfold sliced
    congr 2
    split <;> simp_all [addr_add]
  · refine ⟨_, _, by rw [List.length_drop], by rw [List.length_drop]; omega, by omega, (fun h => by cases h), (fun _ => by split <;> exact ⟨_, _, rfl⟩), fun h0 => ?_⟩
    rw [List.length_drop] at h0
    obtain ⟨g', o', e, hg, hp, hc⟩ := h4 (by omega)
    cases e
    rw [if_neg (by omega)]
    refine ⟨g, o + k, rfl, hg, hp, fun j x hj => ?_⟩
    rw [List.getElem?_drop] at hj
    rw [Nat.add_assoc]
    exact hc (k + j) x hj

end Go.Proofs.YtnnedmjkhjgbcaaFmt
