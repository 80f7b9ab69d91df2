/-
  slices.Grow of nil and slices.Concat of two slices of word parts: a new row.
-/
import Derived.Test.YtnnedmjkhjgbcaaFmtHA
import Derived.Lib.AppendZeros
import Derived.Lib.AppendZerosOnto
import Derived.Lib.Walk
import Derived.LoopN
namespace Go.Proofs.YtnnedmjkhjgbcaaFmt
open Go.RowKit

theorem wp_el : ElT 35 52 .nilIface := ElT.mk' (by kernel_rfl) 16 (by kernel_rfl) (by omega) (by kernel_rfl)
theorem word_el : ElT 29 26 (.pointer none) := ElT.mk' (by kernel_rfl) 8 (by kernel_rfl) (by omega) (by kernel_rfl)
theorem str_el : ElT 38 9 (.string ⟨#[]⟩) := ElT.mk' (by kernel_rfl) 16 (by kernel_rfl) (by omega) (by kernel_rfl)

/-- append(v, x). -/
theorem wpList_app {ST T : TypeId} {z : Value} (he : ElT ST T z) {w : World} {ops : Array Oper} {rest : List Oper} {o : Oper} {a : Act} {Q : Exit → Act → World → Prop} (hgd : o.guard = none) (s x : Operand)
    (ho : o.op = .call { callee := .builtin .append, args := #[s, x], argTypes := #[ST, ST] })
    {v xv : Value} {l p : List Value} {P : Nat → Prop} (hs : a.eval s = v) (hx : a.eval x = xv) (hown : OwnV T w v l) (hrd : RdV P w xv p) (hp1 : ∀ v ∈ p, v.oneCell' = true) (hlim : l.length + p.length ≤ 1000000000000)
    (h : ∀ v' w', OwnV T w' v' (l ++ p) → (∀ g ∈ v'.ownBlock, v.ownBlock = some g ∨ w.heap.size ≤ g) → Kept v.ownBlock.toList w w' → wpList Tryf.prog ops Q rest (a.put o.dst v') w') : wpList Tryf.prog ops Q (o :: rest) a w := by
  refine wpList_plain hgd fun K hK => ?_
  obtain ⟨v', w', hr, h1, h2, h3⟩ := app_any he hown hrd o.type hp1 hlim
  unfold Oper.wp execOp
  simp only [ho, resolve, invoke, builtin, Sem.run_bind, Sem.run_pure, Result.andThen_ok, List.map_toArray, List.map_cons, List.map_nil, hs, hx, hr]
  exact hK _ _ (h v' w' h1 h2 h3)

set_option maxRecDepth 100000 in
theorem grow_nil (n : Nat) (w : World) (hn : n ≤ 1000000000) :
    Calls Tryf.prog 26 #[.slice none 0 0, .int .i64 n] w fun e w' => ∃ v, e = .returned v ∧ OwnV 52 w' v [] ∧ (∀ g ∈ v.ownBlock, w.heap.size ≤ g) ∧ Kept [] w w' := by
  by_cases h0 : n = 0
  · subst h0
    refine Calls.mono (R := fun e w' => e = .returned (.slice none 0 0) ∧ w = w') ?_ (fun e w' h => by obtain ⟨h1, rfl⟩ := h; exact ⟨_, h1, OwnV.nil _ _, (fun g hg => by cases hg), Kept.refl _ _⟩)
    go_enter Tryf.func26, Tryf.ntmps26
    go_wp2
    go_ret
    exact ⟨rfl, rfl⟩
  · obtain ⟨i, hi, hz, h1, hby⟩ := wp_el.info
    have hb : n * i.bytes ≤ n * 16 := Nat.mul_le_mul_left _ hby
    have hr := fun ty => Lib.run_append_nil_zeros (P := Tryf.prog) w 35 3 ty 52 i .nilIface .i64 .i64 wp_el.und (by kernel_rfl) hi hz n (by omega) (by omega) (by omega) (by omega)
    have hge := grownCap_ge w n 0 52
    have hcm := grownCap_le_maxLen w n 0 52 (by unfold maxLen; omega)
    obtain ⟨G, hG⟩ : ∃ G, G = grownCap w n 0 52 := ⟨_, rfl⟩
    rw [← hG] at hr hge hcm
    obtain ⟨cs, hcs⟩ : ∃ cs : Array Value, cs = Builtin.zeroCells (Value.cells .nilIface) n ++ Builtin.zeroCells (Value.cells .nilIface) (G - n) := ⟨_, rfl⟩
    rw [← hcs] at hr
    have hsz : cs.size = G := by
      have e : (Value.cells .nilIface).size = 1 := by kernel_rfl
      rw [hcs, Array.size_append, size_zeroCells, size_zeroCells, e]; omega
    have hc2 := Lib.hid hcm
    unfold maxLen at hcm
    have HR := Lib.hid hr; have HS := Lib.hid hsz
    have hn0 : 0 < n := by omega
    clear hr hcs hG hsz hi hz hb hby h0
    refine Calls.mono (R := fun e w' => e = .returned (.slice (some ⟨w.heap.size, 0, none⟩) 0 G) ∧ w' = w.drew.alloc (.cells cs 52)) ?_ (fun e w' h => ⟨_, h.1, ⟨rfl, .inr ⟨w.heap.size, G, cs, rfl, Nat.zero_le _, ?_, Nat.zero_le _, hc2.out, by rw [HS.out, Nat.mul_one], rfl⟩⟩, (fun g hg => by cases hg; exact Nat.le_refl _), ?_⟩)
    · go_enter Tryf.func26, Tryf.ntmps26
      go_wp2_with (at_builtin; refine Lib.wpList_append_run _ rfl _ _ _ _ rfl _ _ rfl rfl _ _ (HR.out _) ?_)
      go_ret
      exact ⟨rfl, rfl⟩
    · rw [h.2]
      exact heap_alloc_new w.drew _
    · rw [h.2]
      exact ((Kept.refl _ _).drew).alloc _

/-- A step that turned a row made since w. -/
theorem Kept.own {w w1 w2 : World} {S : List Nat} (k1 : Kept [] w w1) (k2 : Kept S w1 w2) (h : ∀ x ∈ S, w.heap.size ≤ x) : Kept [] w w2 :=
  ((k1.weaken (S' := S) (by simp)).trans k2).weaken (fun x hx => .inr (h x hx))
theorem mem_own {v : Value} {x : Nat} (h : x ∈ v.ownBlock.toList) : x ∈ v.ownBlock := by simpa using h

set_option maxRecDepth 100000 in
set_option maxHeartbeats 800000 in
theorem concat_any {w : World} {g o c : Nat} {v1 v2 : Value} {xs ys : List Value} {P1 P2 : Nat → Prop} (c0 : w.cell? ⟨g, o, none⟩ = some v1) (c1 : w.cell? ⟨g, o + 1, none⟩ = some v2) (h1 : RdV P1 w v1 xs) (h2 : RdV P2 w v2 ys)
    (o1 : ∀ v ∈ xs, v.oneCell' = true) (o2 : ∀ v ∈ ys, v.oneCell' = true) (hl : xs.length + ys.length ≤ 1000000000) :
    Calls Tryf.prog 18 #[.slice (some ⟨g, o, none⟩) 2 c] w fun e w' => ∃ v, e = .returned v ∧ OwnV 52 w' v (xs ++ ys) ∧ (∀ g ∈ v.ownBlock, w.heap.size ≤ g) ∧ Kept [] w w' := by
  have H1 := Lib.hid h1; have H2 := Lib.hid h2; have O1 := Lib.hid o1; have O2 := Lib.hid o2
  obtain ⟨A1, n1, rfl, a1, a2, a3, a5, a4⟩ := h1
  obtain ⟨A2, n2, rfl, b1, b2, b3, b5, b4⟩ := h2
  unfold maxLen at a2 b2
  clear a3 a4 a5 b3 b4 b5 o1 o2
  have hg : g < w.heap.size := block_lt_of_cell c0
  obtain ⟨m, hm⟩ : ∃ m, m = xs.length + ys.length := ⟨_, rfl⟩
  have HG := Lib.hid (grow_nil m w (by omega))
  have HM := Lib.hid hm
  have e1 : (xs.length : Int) + ys.length = m := by omega
  clear hm
  go_enter Tryf.func18, Tryf.ntmps18
  go_wp2_with fail
  refine wp_loop_rounds 3 ?_
  rw [rounds_succ]
  go_wp2_with fail
  rw [rounds_succ]
  go_wp2_with fail
  rw [rounds_succ]
  go_wp2_with (go_at_call 26; refine HG.out.mono ?_; rintro e w1 ⟨v3, rfl, ho1, hb1, hk1⟩; dsimp only; have d0 : w1.cell? ⟨g, o, none⟩ = some (.slice A1 xs.length n1) := (hk1.cell (p := ⟨g, o, none⟩) hg (by simp)).trans c0; have d1 : w1.cell? ⟨g, o + 1, none⟩ = some (.slice A2 ys.length n2) := (hk1.cell (p := ⟨g, o + 1, none⟩) hg (by simp)).trans c1; have HO1 := Lib.hid ho1; have HB1 := Lib.hid hb1; have HK1 := Lib.hid hk1; clear ho1 hb1 hk1)
  refine wp_loop_rounds 3 ?_
  rw [rounds_succ]
  go_wp2_with (at_builtin; refine wpList_app wp_el rfl _ _ rfl rfl rfl HO1.out (H1.out.kept HK1.out (by simp)) O1.out (by simp; omega) ?_; intro v4 w2 ho2 hb2 hk2; have hk20 : Kept [] w w2 := HK1.out.own hk2 (fun x hx => HB1.out x (mem_own hx)); have hb20 : ∀ g ∈ v4.ownBlock, w.heap.size ≤ g := (fun g hg => (hb2 g hg).elim (fun h => HB1.out g h) (fun h => Nat.le_trans HK1.out.size h)); have f0 : w2.cell? ⟨g, o, none⟩ = some (.slice A1 xs.length n1) := (hk20.cell (p := ⟨g, o, none⟩) hg (by simp)).trans c0; have f1 : w2.cell? ⟨g, o + 1, none⟩ = some (.slice A2 ys.length n2) := (hk20.cell (p := ⟨g, o + 1, none⟩) hg (by simp)).trans c1; have HO2 := Lib.hid ho2; have HB2 := Lib.hid hb20; have HK2 := Lib.hid hk20; clear ho2 hb2 hk2 hk20 hb20)
  rw [rounds_succ]
  go_wp2_with (at_builtin; refine wpList_app wp_el rfl _ _ rfl rfl rfl HO2.out (H2.out.kept HK2.out (by simp)) O2.out (by simp; omega) ?_; intro v5 w3 ho3 hb3 hk3; have hk30 : Kept [] w w3 := HK2.out.own hk3 (fun x hx => HB2.out x (mem_own hx)); have hb30 : ∀ g ∈ v5.ownBlock, w.heap.size ≤ g := (fun g hg => (hb3 g hg).elim (fun h => HB2.out g h) (fun h => Nat.le_trans HK2.out.size h)); have HO3 := Lib.hid ho3; have HB3 := Lib.hid hb30; have HK3 := Lib.hid hk30; clear ho3 hb3 hk3 hk30 hb30)
  rw [rounds_succ]
  go_wp2_with fail
  go_ret
  exact ⟨_, rfl, by simpa using HO3.out, HB3.out, HK3.out⟩
end Go.Proofs.YtnnedmjkhjgbcaaFmt
