/-
  n010_42: what is handed out behind the literal.
-/
import Derived.Test.YtaaobebpjblbdaaFmtNp
namespace Go.Proofs.YtaaobebpjblbdaaFmt
open Go.RowKit

theorem ztokval {w : World} {pb : Nat} {p : Pc} (hp : PB w pb p) (t r : Int) (v : ByteArray) (h1 : p.tok = .int .u32 t) (h2 : p.val = .string v) (h3 : p.r = .int .i32 r) :
    Calls Tryf.prog 16 #[.pointer (some ⟨pb, 0, none⟩)] w fun e w' => e = .returned (.tuple #[.int .u32 t, .string v, .int .i32 r]) ∧ Kept [] w w' := by
  have c10 : w.cell? ⟨pb, 10, none⟩ = some (.int .u32 t) := by rw [hp.c_tok, h1]
  have c11 : w.cell? ⟨pb, 11, none⟩ = some (.string v) := by rw [hp.c_val, h2]
  have c3 : w.cell? ⟨pb, 3, none⟩ = some (.int .i32 r) := by rw [hp.c_r, h3]
  clear hp h1 h2 h3
  go_enter Tryf.func16, Tryf.ntmps16
  go_wp2
  go_quiet (fail)
  go_wp2
  go_ret3
  exact ⟨rfl, (Kept.refl _ _).drewN _⟩

theorem zadv {w : World} {p : Addr} {v : Value} {R : Ending → World → Prop} {S : World → Prop} (h : Calls Tryf.prog 24 #[.pointer (some p), v] w fun e w' => e = .returned (.tuple #[]) ∧ S w') (hR : ∀ w', S w' → R (.returned (.tuple #[])) w') : Calls Tryf.prog 15 #[.pointer (some p), v] w R := by
  have H := Lib.hid h; have HR := Lib.hid hR
  clear h hR
  go_enter Tryf.func15, Tryf.ntmps15
  go_wp2_with (go_at_call 24; refine H.out.mono ?_; rintro e w1 ⟨rfl, hs⟩; dsimp only; have HS := Lib.hid hs; clear hs)
  go_end0
  exact HR.out _ HS.out
end Go.Proofs.YtaaobebpjblbdaaFmt
