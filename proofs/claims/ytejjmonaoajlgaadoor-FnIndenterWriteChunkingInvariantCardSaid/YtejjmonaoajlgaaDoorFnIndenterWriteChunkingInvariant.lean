/-
  For every input: FnIndenterWriteChunkingInvariant returns true and leaves its arguments as they were. No condition beyond the row's own: the listed variables are what the program's text lays.
-/
import Derived.Test.YtejjmonaoajlgaaDoorWFrame3
import Derived.Test.YtejjmonaoajlgaaDoorJL2
namespace Go.Proofs.YtejjmonaoajlgaaDoor.fnIndenterWriteChunkingInvariant
open Go.ChangeShapes Go.WideShapes Go.ChangeAt Go.RowKit
open Go.ChangeMaps (open_string shut_string)

theorem reads (os : Os) {H : Type} (enc : TypeId × Value → H) : ∃ places, DataW.whole enc Tryd.prog ((World.laidAll Tryd.prog os laid3).forCall (fun _ _ => 0) ⟨#[], #[.int .i64 0, .slice none 0 0, .int .i64 0], []⟩).memory Tryd.f4.params.toList Rows.fnIndenterWriteChunkingInvariantSpec.vars false (#[.int .i64 0, .slice none 0 0, .int .i64 0] : Array Value).toList 8 = some ([.lit (.int .i64 0), .nil, .lit (.int .i64 0)], [], places) :=
  ⟨[], by kernel_rfl⟩

set_option maxRecDepth 100000 in
theorem lifted (os : Os) (started : os.Started) (H : Type) (enc : TypeId × Value → H) (F : Stop.Interp) :
    ReturnsInHanded {} Tryd.checked os 4 .any ((OpenSpec.ofChange Rows.fnIndenterWriteChunkingInvariantSpec).preRow enc Tryd.prog Tryd.f4 Rows.fnIndenterWriteChunkingInvariantRow.domain false Rows.fnIndenterWriteChunkingInvariantRow.laid) (((OpenSpec.ofChange Rows.fnIndenterWriteChunkingInvariantSpec).at F).post enc Tryd.prog Tryd.f4 false true false false) := by
  obtain ⟨places, hx⟩ := reads os enc
  refine returnsInHanded_of_row (C := Tryd.checked) (s := OpenSpec.ofChange Rows.fnIndenterWriteChunkingInvariantSpec) own started (by kernel_rfl) Tryd.func4
    (witness_row_atRef (enc := enc) (C := Tryd.checked) false (World.laidAll Tryd.prog os laid3) #[.int .i64 0, .slice none 0 0, .int .i64 0] (World.laidAll_os _ _ _) (by kernel_rfl) (by kernel_rfl) (by kernel_rfl)
      (OpenSpec.preRow_of_cond 8 hx (by kernel_rfl) (fun k hk => by cases hk) (by kernel_rfl) (door_met3 os _))) ?_
  intro W base args ds gs before hval0 hW _ _ _ hL _ _
  have hval : ∀ (j : Nat) t v, Tryd.f4.params[j]? = some t → args[j]? = some v → Value.okWide Tryd.prog W .any base t v := hval0
  have hW' := hW
  obtain ⟨p, q, hA0, hV, rfl, hfz, hnd⟩ := hW
  have hA : DataW.TrodAll enc Tryd.prog W 0 (fun _ => true) true Tryd.f4.params.toList args.toList ds p := hA0
  rw [Tryd.params4] at hA hval
  obtain ⟨v0, vs0, d0, ds0, p0, q0, hargs, rfl, rfl, h0, r0⟩ := trodAll_cons hA
  obtain ⟨v1, vs1, d1, ds1, p1, q1, rfl, rfl, rfl, h1, r1⟩ := trodAll_cons r0
  obtain ⟨v2, vs2, d2, ds2, p2, q2, rfl, rfl, rfl, h2, r2⟩ := trodAll_cons r1
  obtain ⟨rfl, rfl, rfl⟩ := trodAll_nil r2
  obtain rfl : args = #[v0, v1, v2] := by cases args; simp_all
  obtain ⟨rfl, rfl⟩ := trodVars_none hV
  obtain ⟨a0, rfl, rfl, rfl, w0⟩ := open_int Tryd.underlying3 (hval 0 3 v0 rfl rfl) h0
  obtain ⟨a1, len1, cap1, rfl⟩ := okWide_slice Tryd.underlying22 (hval 1 22 v1 rfl rfl)
  have k1 := h1
  have lt1 : ∀ x ∈ p1, x.block < W.heap.size := by obtain ⟨m, hm⟩ := k1; exact DataW.trod_lt m _ _ _ hm
  obtain ⟨z1, w1⟩ : ∃ zs, IsRow .u8 W a1 len1 cap1 zs := by
    obtain ⟨fuel, hf⟩ := h1
    rcases open_ints Tryd.underlying22 Tryd.underlying5 (by kernel_rfl) hf with ⟨hcs, _⟩ | ⟨x, l, c, zs, hcs, _, hl, hm, hz, _, hcell, hwz⟩
    · simp [Value.cells] at hcs
      obtain ⟨rfl, rfl, rfl⟩ := hcs
      exact ⟨[], .inl ⟨rfl, rfl, rfl, rfl⟩⟩
    · simp [Value.cells] at hcs
      obtain ⟨rfl, rfl, rfl⟩ := hcs
      exact ⟨zs, .inr ⟨_, rfl, hl, hm, by simpa using hz, hcell, hwz⟩⟩
  obtain ⟨l1, hs1, hn1, hc1, hm1⟩ := src_of_row w1
  obtain ⟨a2, rfl, rfl, rfl, w2⟩ := open_int Tryd.underlying3 (hval 2 3 v2 rfl rfl) h2
  clear hA0 hval0
  refine Calls.mono (R := fun e w' => e = .returned (.bool true) ∧ Below W.heap.size W w') ?_ fun e W' ⟨he, bel⟩ => ?_
  · by_cases hok : len1 ≤ 1048576 ∧ len1 ≤ 65536 ∧ 1 ≤ a0 ∧ a0 ≤ 4096
    · refine (ok_FnIndenterWriteChunkingInvariant W a0 a1 len1 cap1 a2 l1 hs1 hn1 (by omega) (by omega) (by omega)).mono ?_
      rintro e w' ⟨rfl, hk⟩
      exact ⟨rfl, hk.below (by simp) (Nat.le_refl _)⟩
    · refine (skip_FnIndenterWriteChunkingInvariant W a0 a1 len1 cap1 a2 hok (by omega)).mono ?_
      rintro e w' ⟨rfl, rfl⟩
      exact ⟨rfl, Below.refl _ _⟩
  subst he
  exact ⟨_, rfl, _, _, _, [], _, [], hW', trodAll_mk1 (shut_bool Tryd.underlying4 _), (trodAll_cons_mk (shut_int Tryd.underlying3 w0) (trodAll_cons_mk (Below.trod laidOut (by kernel_rfl) (of_decide_eq_true (by kernel_rfl)) k1 bel lt1) (trodAll_cons_mk (shut_int Tryd.underlying3 w2) trodAll_mk0))), rfl, bel.frame _, fun h => by cases h⟩

theorem said : Rows.FnIndenterWriteChunkingInvariantSaid :=
  OpenClaim.holds_of_cond 4 Tryd.f4 rfl rfl rfl rfl rfl rfl rfl ⟨rfl, rfl, rfl, rfl, rfl⟩ rfl rfl rfl rfl rfl (by kernel_rfl) Tryd.func4 (by kernel_rfl)
    (of_decide_eq_true (by kernel_rfl)) (by unfold Func.isWrapper; first | (rw [if_pos (by decide +kernel)]; kernel_rfl) | (rw [if_neg (by decide +kernel)]; exact ⟨rfl, rfl⟩))
    (fun os started H enc _ F => by rw [OpenClaim.pre_eq_preRow]; exact lifted os started H enc F)

theorem plain (f : FuncId) (fn : Func) (hf : Tryd.pinned.checked.prog.funcNamed Rows.fnIndenterWriteChunkingInvariantRow.func = some f) (hfn : Tryd.pinned.checked.prog.funcs[f]? = some fn) :
    Rows.fnIndenterWriteChunkingInvariantCard.stood.looks = Tryd.pinned.checked.prog.looks [] ∧ ∀ (j : Nat) t, fn.params[j]? = some t → Tryd.pinned.checked.prog.wantsStandIn t = false := by
  obtain rfl : f = 4 := Option.some.inj ((show Tryd.prog.funcNamed Rows.fnIndenterWriteChunkingInvariantRow.func = some 4 by kernel_rfl).symm.trans hf) |>.symm
  obtain rfl : fn = Tryd.f4 := (Option.some.inj (Tryd.func4.symm.trans hfn)).symm
  refine ⟨by kernel_rfl, fun j t ht => ?_⟩
  have hall : (Tryd.f4.params.toList.all fun t => !(Tryd.prog.wantsStandIn t)) = true := by kernel_rfl
  have := List.all_eq_true.1 hall t (Array.mem_toList_iff.2 (Array.mem_of_getElem? ht))
  exact (by simpa using this : Tryd.prog.wantsStandIn t = false)

/-- THE CARD. -/
theorem card : Rows.FnIndenterWriteChunkingInvariantCardSaid :=
  Claim7.holds_tied_plain_at .later [] _ _ _ _ said (fun _ h => by cases h) (by kernel_rfl) (fun _ h => by cases h) fnIndenterWriteChunkingInvariant_row_tie rfl ⟨rfl, rfl⟩ (by kernel_rfl) rfl plain (by kernel_rfl)
end Go.Proofs.YtejjmonaoajlgaaDoor.fnIndenterWriteChunkingInvariant
