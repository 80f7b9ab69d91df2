/-
  ParseInt and FormatInt on numerals: the memory is kept.
-/
import Derived.Test.YtnnedmjkhjgbcaaFmtSe
import Derived.Lib.LaidTab
namespace Go.Proofs.YtnnedmjkhjgbcaaFmt
open Go.RowKit Go.Lib Go.Sort

theorem kept_grow (w : World) (os : Array Obj) : Kept [] w (grow w os) := ⟨rfl, rfl, rfl, by simp [grow], fun k hk _ => by simp [grow, Array.getElem?_append_left hk]⟩
theorem kept_bytes (w : World) (e : TypeId) (s : ByteArray) : Kept [] w (bytesWorld w e s) :=
  ⟨rfl, rfl, rfl, by simp [bytesWorld, World.freeze, World.alloc, World.drew, -World.alloc_eq, -World.drew_eq], fun k hk _ => bytesWorld_at_old w e s k hk⟩

theorem parse_any (w : World) (v : Int) (h1 : -4611686018427387904 ≤ v) (h2 : v ≤ 4611686018427387904) : Calls Tryf.prog 19 #[.string (sItoa v), .int .i64 10, .int .i64 64] w fun e w' => e = .returned (.tuple #[.int .i64 v, .nilIface]) ∧ Kept [] w w' := by
  have hd : (sItoa v).data.toList = itoa v := by unfold sItoa; simp
  refine (Tryf.strconv_ParseInt_10_at64_ok (sItoa v) (by have := sItoa_size (v := v) (by omega) (by omega); omega) v (by rw [hd]; exact parse_itoa h1 h2) w).mono ?_
  rintro e w' ⟨rfl, h | ⟨t, h⟩⟩
  · subst h; exact ⟨rfl, Kept.refl _ _⟩
  · subst h; exact ⟨rfl, kept_bytes _ _ _⟩

def Tab (w : World) : Prop := TabIs Tryf.prog w "internal/strconv.uint64pow10" .u64 pow10Tab
theorem Tab.kept {w w' : World} {S : List Nat} (h : Tab w) (k : Kept S w w') (hS : 2 ∉ S) : Tab w' := by
  unfold Tab TabIs World.var? at h ⊢
  have hg : Tryf.prog.globalNamed "internal/strconv.uint64pow10" = some 2 := by kernel_rfl
  rw [hg] at h ⊢
  simp only [Option.bind_some] at h ⊢
  have hlt : 2 < w.heap.size := by
    rcases Nat.lt_or_ge 2 w.heap.size with q | q
    · exact q
    · rw [Array.getElem?_eq_none q] at h; cases h
  rw [k.block _ hlt hS]
  exact h
theorem fmt_any (w : World) (v : Int) (h1 : -9223372036854775808 ≤ v) (h2 : v ≤ 9223372036854775807) (ht : Tab w) : Calls Tryf.prog 22 #[.int .i64 v, .int .i64 10] w fun e w' => e = .returned (.string (sItoa v)) ∧ Kept [] w w' := by
  refine (Tryf.strconv_FormatInt_10 v h1 h2 w ht).mono ?_
  rintro e w' ⟨rfl, k, os, rfl⟩
  exact ⟨rfl, (((Kept.refl _ w).drewN k)).trans (kept_grow _ _)⟩
end Go.Proofs.YtnnedmjkhjgbcaaFmt
