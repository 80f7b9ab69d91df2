/-
  n010_120: what the laws need besides: copying bytes, a string's bytes, the models at nil.
-/
import Derived.Test.YtekgjhediaffbaaDoorImi
import Derived.Test.YtekgjhediaffbaaDoorInn
namespace Go.Proofs.YtekgjhediaffbaaDoor
open Go.RowKit

theorem Own.slice {w : World} {v : Value} {l : List UInt8} (h : Own w v l) : ∃ A c, v = .slice A l.length c := by
  rcases h.2 with ⟨h1, h2⟩ | ⟨g, cap, cur, h1, _⟩
  · exact ⟨none, 0, by rw [h1, h2]⟩
  · exact ⟨_, cap, h1⟩

/-- '[]byte(s)': the new row is the last block. -/
theorem wpList_bytesM {w : World} {ops : Array Oper} {rest : List Oper} {o : Oper} {a : Act} {Q : Exit → Act → World → Prop} (hgd : o.guard = none) (x : Operand) (ho : o.op = .convert 9 22 x) (s : ByteArray) (hx : a.eval x = .string s) (hm : s.size ≤ 9223372036854775807)
    (h : ∀ cap w', SrcB w' (some ⟨w.heap.size, 0, none⟩) s.size s.data.toList → s.size ≤ cap → cap ≤ 9223372036854775807 → Kept [] w w' → w'.heap.size = w.heap.size + 1 → wpList Tryd.prog ops Q rest (a.put o.dst (.slice (some ⟨w.heap.size, 0, none⟩) s.size cap)) w') : wpList Tryd.prog ops Q (o :: rest) a w := by
  refine wpList_plain hgd fun K hK => ?_
  have hrun := Lib.run_convert_string_bytes (P := Tryd.prog) w 9 22 5 s (u := .string) (by kernel_rfl) u8_und (by kernel_rfl)
  have hs : SrcB (Lib.bytesWorld w 5 s) (some ⟨w.heap.size, 0, none⟩) s.size s.data.toList := by
    refine ⟨rfl, fun _ => ⟨w.heap.size, 0, rfl, by rw [Lib.bytesWorld_size]; omega, fun j c hj => ?_⟩⟩
    have hlt : j < s.size := (List.getElem?_eq_some_iff.1 hj).1
    rw [Nat.zero_add, Lib.bytesWorld_cell w _ s j hlt]
    simp only [List.getD_eq_getElem?_getD, hj]
    rfl
  have hcap : s.size ≤ grownCap w s.size 0 5 := by unfold grownCap Question.cut; simp
  have hcap2 : grownCap w s.size 0 5 ≤ 9223372036854775807 := grownCap_le_maxLen w s.size 0 5 hm
  unfold Oper.wp
  simp only [execOp, ho, hx, Sem.run_bind, hrun, Result.andThen_ok]
  exact hK _ _ (h _ _ hs hcap hcap2 (kept_bytesWorld w _ s) (Lib.bytesWorld_size ..))

/-- The model of s's bytes, which have just been laid. -/
theorem mind_of {w : World} {A : Addr} {base : Int} {n c : Nat} {l : List UInt8} (hs : SrcB w (some A) n l) (hA : A.spot = none ∧ A.block < w.heap.size) (hnc : n ≤ c) (hb1 : 0 ≤ base) (hb2 : base ≤ 65536) (hn : n ≤ 65537) :
    Calls Tryd.prog 21 #[.int .i64 base, .slice (some A) n c] w fun e w' => ∃ B c', e = .returned (.slice B (foldI base is0 l).out.length c') ∧ SrcB w' B (foldI base is0 l).out.length (foldI base is0 l).out ∧ Kept [] w w' := by
  obtain ⟨g, o, sp⟩ := A
  obtain ⟨rfl, hg⟩ := hA
  refine (mind w base g o n c l hs.1 hg (fun j x hj => ?_) hnc hb1 hb2 hn).mono ?_
  · have hlt : j < l.length := (List.getElem?_eq_some_iff.1 hj).1
    obtain ⟨g', o', e, _, hc⟩ := hs.2 (by have := hs.1; omega)
    cases e
    exact hc j x hj
  · rintro e w' ⟨v, rfl, ho, hav⟩
    obtain ⟨B, c', rfl⟩ := ho.slice
    exact ⟨B, c', rfl, ho.src.1, hav.2⟩

set_option maxRecDepth 100000 in
theorem mesc_nil (w : World) : Calls Tryd.prog 18 #[.slice none 0 0, .slice none 0 0] w fun e w' => e = .returned (.slice none 0 0) ∧ w = w' := by
  go_enter Tryd.func18, Tryd.ntmps18
  go_wp2
  refine wp_loop_once ?_
  go_wp2
  go_ret
  exact ⟨rfl, rfl⟩
/-- The model of tab escaping, onto nil. -/
theorem mesc_of {w : World} {A : Option Addr} {n c : Nat} {l : List UInt8} (hs : SrcB w A n l) (hA : (A = none ∧ n = 0 ∧ c = 0) ∨ ∃ g o, A = some ⟨g, o, none⟩) (hn : n ≤ 1048576) :
    Calls Tryd.prog 18 #[.slice A n c, .slice none 0 0] w fun e w' => ∃ B c', e = .returned (.slice B (escF l).1.length c') ∧ SrcB w' B (escF l).1.length (escF l).1 ∧ Kept [] w w' := by
  rcases hA with ⟨rfl, rfl, rfl⟩ | ⟨g, o, rfl⟩
  · obtain rfl : l = [] := List.eq_nil_of_length_eq_zero hs.1
    refine (mesc_nil w).mono ?_
    rintro e w' ⟨rfl, rfl⟩
    exact ⟨none, 0, rfl, ⟨rfl, fun h => absurd h (by simp [escF])⟩, Kept.refl _ _⟩
  · have hg : ∀ (_ : 0 < n), g < w.heap.size ∧ ∀ j x, l[j]? = some x → w.cell? ⟨g, o + j, none⟩ = some (By x) := fun h => by
      obtain ⟨g', o', e, h1, h2⟩ := hs.2 h
      cases e
      exact ⟨h1, h2⟩
    refine (mesc w g o n c l nilS [] hs.1 (fun h => (hg h).1) (fun j x hj => ?_) (by simp [Value.ownBlock]) (Own.nil _) (by simp; omega)).mono ?_
    · have hlt : j < l.length := (List.getElem?_eq_some_iff.1 hj).1
      exact (hg (by have := hs.1; omega)).2 j x hj
    · rintro e w' ⟨v, rfl, ho, hav⟩
      rw [List.nil_append] at ho
      obtain ⟨B, c', rfl⟩ := ho.slice
      exact ⟨B, c', rfl, ho.src.1, hav.2⟩

set_option maxRecDepth 100000 in
set_option maxHeartbeats 800000 in
theorem zcopy (w : World) (A : Option Addr) (n c : Nat) (l : List UInt8) (hn : n < 1000000000000) (hs : SrcB w A n l) :
    Calls Tryd.prog 12 #[.slice A n c] w fun e w' => e = .returned (.slice (some ⟨w.heap.size, 0, none⟩) n n) ∧ w'.heap[w.heap.size]? = some (.cells (Bys l).toArray 5 (0, 0)) ∧ Kept [] w w' := by
  have q2 : ∀ w, (Instr.makeSlice 22 (.int .i64 n) (.int .i64 n)).run Tryd.prog w = .ok (.slice (some ⟨w.heap.size, 0, none⟩) n n) (w.alloc (.cells (zs n).toArray 5)) := fun w => by
    obtain ⟨i, h1, h2, h3, h4⟩ := u8_info
    rw [run_make w _ _ i _ u8_und h1 h2 .i64 .i64 n n (by omega) (by omega) (by rw [h4]; omega) (by omega)]
    simp [h3, made_u8]
  have HS := Lib.hid hs
  clear hs
  go_enter Tryd.func12, Tryd.ntmps12
  go_wp2
  clear q2
  have hst : (w.alloc (.cells (zs n).toArray 5)).heap[w.heap.size]? = some (.cells (Bys (l.take 0) ++ zs (n - 0)).toArray 5 (0, 0)) := by
    rw [heap_alloc_new]; simp [Bys]
  have HS1 := Lib.hid hst
  have HS2 := Lib.hid (show Kept [] w (w.alloc (.cells (zs n).toArray 5)) from (Kept.refl _ _).alloc _)
  clear hst
  go_loopw [4] (fun i wr => ∃ k : Nat, k ≤ n ∧ i = .int .i64 k ∧ Hid (wr.heap[w.heap.size]? = some (.cells (Bys (l.take k) ++ zs (n - k)).toArray 5 (0, 0))) ∧ Hid (Kept [] w wr)) (fun i _ => n - (intOf i).toNat)
  case atStart => exact ⟨0, Nat.zero_le _, rfl, HS1, HS2⟩
  case round =>
    obtain ⟨k, hk, rfl, hb, hkp⟩ := hrel
    by_cases hlt : k < n
    · obtain ⟨x, hx⟩ : ∃ x, l[k]? = some x := ⟨l[k]'(by have := HS.out.1; omega), List.getElem?_eq_getElem _⟩
      obtain ⟨g, o, hA, hg, hcc⟩ := HS.out.2 (by omega)
      subst hA
      have hcs : wr.cell? ⟨g, o + k, none⟩ = some (By x) := by
        rw [hkp.out.cell (p := ⟨g, o + k, none⟩) hg (by simp)]; exact hcc k x hx
      have hco : ∃ v, wr.cell? ⟨w.heap.size, k, none⟩ = some v := by
        rw [row_cell hb.out]
        have : k < (Bys (l.take k) ++ zs (n - k)).length := by have := HS.out.1; simp [zs]; omega
        exact ⟨_, List.getElem?_eq_getElem this⟩
      obtain ⟨v0, hco⟩ := hco
      have hfo := row_free hb.out k
      have HX := Lib.hid hx; clear hx hcc
      unfold By at hcs
      go_wp2
      go_roundw
      case rel =>
        refine ⟨k + 1, by omega, by go_num, ?_, ?_⟩
        · have h1 := row_set hb.out k (By x)
          rw [set_step l n k x HS.out.1 HX.out] at h1
          exact h1
        · have : Kept [w.heap.size] wr (wr.setCell ⟨w.heap.size, k, none⟩ (By x)) := (Kept.refl _ _).setCell (by simp) _
          exact (hkp.out.weaken (S' := [w.heap.size]) (by simp)).trans this |>.weaken (by simp)
      case measure => simp [intOf]; omega
    · go_wp2
      go_ret
      have hkn : k = n := by omega
      subst hkn
      refine ⟨rfl, ?_, hkp.out⟩
      have h1 := hb.out
      rw [List.take_of_length_le (by have := HS.out.1; omega), Nat.sub_self] at h1
      simpa [zs] using h1
theorem prod_bound {a b : Int} (h1 : 0 ≤ a) (h2 : a ≤ 65538) (h3 : 0 ≤ b) (h4 : b ≤ 65539) : 0 ≤ a * b ∧ a * b ≤ 4295294982 := by
  refine ⟨Int.mul_nonneg h1 h3, ?_⟩
  have e1 : a * b ≤ 65538 * b := Int.mul_le_mul_of_nonneg_right h2 h3
  omega
/-- What comes out of n bytes is not too long. -/
theorem out_le {base : Int} (hb1 : 0 ≤ base) (hb2 : base ≤ 65536) (l : List UInt8) (hl : l.length ≤ 65537) : (foldI base is0 l).out.length ≤ 5000000000 := by
  have h := foldI_ok hb1 l (is0_ok base)
  have h1 := h.out
  have h2 : ((0 + l.length : Nat) : Int) * (base + 8) ≤ 65537 * (base + 8) := Int.mul_le_mul_of_nonneg_right (by omega) (by omega)
  omega
end Go.Proofs.YtekgjhediaffbaaDoor
