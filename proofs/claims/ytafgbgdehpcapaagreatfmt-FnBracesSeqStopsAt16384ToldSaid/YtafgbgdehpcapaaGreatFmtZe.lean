/-
  fmt.Errorf by its contract, one int operand: whatever text fmt answers, an error comes back.
-/
import Derived.Test.YtafgbgdehpcapaaGreatFmtHC
import Derived.Stop.CallBack
import Derived.Stop.IfaceNil
import GoSem.ClaimData
import Derived.BigCall
namespace Go.Proofs.YtafgbgdehpcapaaGreatFmt
open Go.RowKit Go.Extern.Stop Go.Stop Go.Extern

@[go_sem] theorem ef_call (args : Array Value) (w : World) : (callFunc 37 args).run Tryz.prog w = ((FmtStop.errorf #[9, 71] #[34] args).run Tryz.prog w).andThen fun v w' => .ok (.value v) w' :=
  run_callFunc_extern Tryz.func37 (by kernel_rfl) (by kernel_rfl) (by kernel_rfl) (by kernel_rfl) args w
@[go_sem] theorem ef_guard (name : String) (w : World) : (FmtStop.guard name).run Tryz.prog w = .ok () w := by kernel_rfl
@[go_sem] theorem ef_fmt : FmtStop.printed? ⟨#[98, 114, 97, 99, 101, 32, 101, 120, 112, 97, 110, 115, 105, 111, 110, 32, 119, 111, 117, 108, 100, 32, 101, 120, 99, 101, 101, 100, 32, 37, 100, 32, 101, 108, 101, 109, 101, 110, 116, 115]⟩ 1 = some [(0, 100, false)] := by kernel_rfl
@[go_sem] theorem ef_fmtr (w : World) : (FmtDoors.printed ⟨#[98, 114, 97, 99, 101, 32, 101, 120, 112, 97, 110, 115, 105, 111, 110, 32, 119, 111, 117, 108, 100, 32, 101, 120, 99, 101, 101, 100, 32, 37, 100, 32, 101, 108, 101, 109, 101, 110, 116, 115]⟩ 1).run Tryz.prog w = .ok [(0, 100, false)] w := by kernel_rfl
def ef_shape : List UInt8 := [5, 3, 0, 0, 0, 0, 0, 0, 0, 105, 110, 116]
@[go_sem] theorem ef_op (name : String) (x : Int) (w : World) : (FmtStop.operand name true 100 false (.iface 3 (.int .i64 x))).run Tryz.prog w = .ok (ef_shape, Go.Extern.Stop.digits 8 (x % 2 ^ 64).toNat) w := by kernel_rfl
@[go_sem] theorem ef_op' (name : String) (x : Int) (w : World) : (FmtStop.operand name false 100 false (.iface 3 (.int .i64 x))).run Tryz.prog w = .ok (ef_shape, Go.Extern.Stop.digits 8 (x % 2 ^ 64).toNat) w := by kernel_rfl
@[go_sem] theorem ef_strict (name : String) (x : Int) (w : World) : (FmtStop.strict name (.iface 3 (.int .i64 x))).run Tryz.prog w = .ok (ef_shape, Go.Extern.Stop.digits 8 (x % 2 ^ 64).toNat) w := by kernel_rfl
@[go_sem] theorem ef_str (w : World) : (typeStr 3).run Tryz.prog w = .ok "int" w := by kernel_rfl
@[go_sem] theorem ef_ptr (w : World) : (FmtStop.ptrTo "errors.errorString").run Tryz.prog w = .ok 85 w := by kernel_rfl
@[go_sem] theorem ef_elem (w : World) : (elemOf 85).run Tryz.prog w = .ok 87 w := by kernel_rfl

set_option maxRecDepth 100000 in
set_option maxHeartbeats 1600000 in
theorem errorf_d {w : World} (F : Interp) (hF0 : F.answers w.tape) {blk : Nat} {k : Int} (hc0 : w.cell? ⟨blk, 0, none⟩ = some (.iface 3 (.int .i64 k))) :
    Calls Tryz.prog 25 #[.string ⟨#[98, 114, 97, 99, 101, 32, 101, 120, 112, 97, 110, 115, 105, 111, 110, 32, 119, 111, 117, 108, 100, 32, 101, 120, 99, 101, 101, 100, 32, 37, 100, 32, 101, 108, 101, 109, 101, 110, 116, 115]⟩, .slice (some ⟨blk, 0, none⟩) 1 1] w fun e w' =>
      (∃ T v, e = .returned (.iface T v)) ∧ Kept [] w w' := by
  have hF := answers_open hF0
  go_enter Tryz.func25, Tryz.ntmps25
  go_wp2
  go_ret
  exact ⟨⟨_, _, rfl⟩, ((Kept.refl _ _).alloc _).drew⟩
end Go.Proofs.YtafgbgdehpcapaaGreatFmt
