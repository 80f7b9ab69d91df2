/-
  FnBracesSeqRecNumericSequence: its consumer, walked.
-/
import Derived.Test.YtnnedmjkhjgbcaaFmtSc
import Derived.Deep.RegionWith
import Derived.Deep.AppendLies
namespace Go.Proofs.YtnnedmjkhjgbcaaFmt
open Go.RowKit

/-- append onto a slice that owns its row, as one step of a region that draws. -/
theorem step_app {ST T : TypeId} {z : Value} (he : ElT ST T z) {w : World} {ops : Array Oper} {o : Oper} {a : Act} {K : Act → World → Prop} {Q : Exit → Act → World → Prop} {E : Prop} (hgd : o.guard = none) (s x : Operand)
    (ho : o.op = .call { callee := .builtin .append, args := #[s, x], argTypes := #[ST, ST] })
    {v xv : Value} {l p : List Value} {P : Nat → Prop} (hs : a.eval s = v) (hx : a.eval x = xv) (hown : OwnV T w v l) (hrd : RdV P w xv p) (hp1 : ∀ v ∈ p, v.oneCell' = true) (hlim : l.length + p.length ≤ 1000000000000)
    (h : ∀ v' w', OwnV T w' v' (l ++ p) → (∀ g ∈ v'.ownBlock, v.ownBlock = some g ∨ w.heap.size ≤ g) → Kept v.ownBlock.toList w w' → K (a.put o.dst v') w') : if Region.wanted o (yielded ops a.tmps) = true then Oper.wp Tryf.prog o a w K Q else E := by
  have hw : Region.wanted o (yielded ops a.tmps) = true := by simp [Region.wanted, hgd]
  rw [if_pos hw]
  obtain ⟨v', w', hr, h1, h2, h3⟩ := app_any he hown hrd o.type hp1 hlim
  unfold Oper.wp execOp
  simp only [ho, resolve, invoke, builtin, Sem.run_bind, Sem.run_pure, Result.andThen_ok, List.map_toArray, List.map_cons, List.map_nil, hs, hx, hr]
  exact h v' w' h1 h2 h3

set_option maxRecDepth 100000 in
set_option maxHeartbeats 1600000 in
theorem seq_clo {w : World} {gb cb pw s m cnt : Nat} {A : Option Addr} {l : List Value} {S : ByteArray} (hg : w.heap[gb]? = some (.cells #[.slice A s m] 38 (0, 0))) (ho : OwnV 9 w (.slice A s m) l) (hl : l.length = s) (hc : w.cell? ⟨cb, 0, none⟩ = some (.int .u64 cnt)) (hs : s < cnt) (hcm : cnt ≤ 65536) (hn : ∀ g ∈ (Value.slice A s m).ownBlock, gb ≠ g)
    (HL : ∀ W, Kept [] w W → Calls Tryf.prog 11 #[.pointer (some ⟨pw, 0, none⟩)] W fun e w' => e = .returned (.string S) ∧ Kept [] W w') :
    Calls Tryf.prog 10 #[.pointer (some ⟨pw, 0, none⟩), .pointer (some ⟨gb, 0, none⟩), .pointer (some ⟨cb, 0, none⟩)] w fun e w' => e = .returned (.bool true) ∧ ∃ A' m' w2, OwnV 9 w2 (.slice A' (s + 1) m') (l ++ [.string S]) ∧ (∀ g ∈ (Value.slice A' (s + 1) m').ownBlock, (Value.slice A s m).ownBlock = some g ∨ w.heap.size ≤ g) ∧ Kept (Value.slice A s m).ownBlock.toList w w2 ∧ w' = w2.setCell ⟨gb, 0, none⟩ (.slice A' (s + 1) m') := by
  have c1 := row0 hg
  have f1 := row0f hg
  have hgz := heap_lt hg
  have HG := Lib.hid hg; have HO := Lib.hid ho; have HLN := Lib.hid hl; have HN := Lib.hid hn
  have G1 := Lib.hid HL
  have hcap : m ≤ 9223372036854775807 := by
    obtain ⟨_, _, e, _, h2, _⟩ := ho.rd
    cases e
    unfold maxLen at h2
    omega
  clear hg ho hl hn HL
  go_enter Tryf.func10, Tryf.ntmps10
  go_wp2_with fail
  have hcells : ∀ W, Kept [] w W → W.cell? ⟨gb, 0, none⟩ = some (.slice A s m) := fun W k => row0 ((k.block gb hgz (by simp)).trans HG.out)
  have HCE := Lib.hid hcells
  clear hcells
  go_region_law (first
    | (go_simp; go_at_call 11; refine (G1.out _ (by first | exact (Kept.refl _ _).drew | exact Kept.refl _ _)).mono ?_; rintro e w1 ⟨rfl, hk⟩; dsimp only; have hk1 : Kept [] w w1 := Kept.trans (by first | exact (Kept.refl _ _).drew | exact Kept.refl _ _) hk; have d1 := HCE.out w1 hk1; have d3 := HCE.out (w1.alloc (.cells #[.string S] 9)) (hk1.alloc _); have K1 := Lib.hid hk1; have HOW := Lib.hid ((HO.out.kept hk1 (by simp)).kept ((Kept.refl [] w1).alloc (.cells #[.string S] 9)) (by simp)); clear hk hk1)
    | (refine step_app str_el rfl _ _ rfl rfl rfl HOW.out (OwnV.lit w1 [.string S] (by simp)).rd (by simp; rfl) (by rw [HLN.out]; simp; omega) ?_; intro v' w2 ho hb' hk'; obtain ⟨A2, m2, hv2, _⟩ := ho.rd; rw [List.length_append, HLN.out, show [Value.string S].length = 1 from rfl] at hv2; subst hv2; have hgx : gb ∉ (Value.slice A s m).ownBlock.toList := fun hm => HN.out gb (mem_own hm) rfl; have hg2 := (hk'.block gb (by have := K1.out.size; simp; omega) hgx).trans (((((Kept.refl [] w1).alloc (.cells #[.string S] 9)).block gb (by have := K1.out.size; omega) (by simp)).trans ((K1.out.block gb hgz (by simp)).trans HG.out))); have d2 := row0 hg2; have f2 := row0f hg2; have HO2 := Lib.hid ho; have HB2 := Lib.hid hb'; have HK2 := Lib.hid hk'; clear ho hb' hk' hg2 hgx))
  all_goals (
    go_wp2_with fail
    go_ret
    refine ⟨rfl, A2, m2, w2, HO2.out, fun g hg => ?_, ?_, rfl⟩
    · rcases HB2.out g hg with h | h
      · exact .inl h
      · exact .inr (by have := K1.out.size; simp at h; omega)
    · exact ((K1.out.alloc _).weaken (by simp)).trans HK2.out)
end Go.Proofs.YtnnedmjkhjgbcaaFmt
