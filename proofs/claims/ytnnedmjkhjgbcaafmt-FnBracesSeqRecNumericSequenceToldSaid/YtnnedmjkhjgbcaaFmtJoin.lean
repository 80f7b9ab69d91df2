/-
  Contracts of the library, laid over this program: Builder_Extra_156, strings_Join.
-/
import Derived.Shelf.Strings.OnBuilder
import Derived.Test.YtnnedmjkhjgbcaaFmtProg
namespace Go.Proofs
open Go.Shelf
def Tryf.lays156_ren : Go.Shelf.Ren := ⟨fun | 156 => 15 | 165 => 23 | 166 => 24 | 169 => 25 | 240 => 31 | 241 => 32 | 276 => 43 | 277 => 44 | n => n, fun | 31 => 38 | 9 => 9 | 3 => 3 | 4 => 4 | 0 => 0 | 20 => 20 | 72 => 66 | 76 => 68 | 70 => 64 | 37 => 45 | 75 => 58 | 127 => 74 | 164 => 87 | 5 => 5 | 80 => 40 | n => n, fun | n => n⟩
theorem Tryf.lays156 : Go.Proofs.Lays.n156 Tryf.prog Tryf.lays156_ren := {
  mixed := by kernel_rfl
  f156 := Tryf.func15.trans (congrArg some (by kernel_rfl))
  f165 := Tryf.func23.trans (congrArg some (by kernel_rfl))
  f166 := Tryf.func24.trans (congrArg some (by kernel_rfl))
  f169 := Tryf.func25.trans (congrArg some (by kernel_rfl))
  f240 := Tryf.func31.trans (congrArg some (by kernel_rfl))
  f241 := Tryf.func32.trans (congrArg some (by kernel_rfl))
  f276 := Tryf.func43.trans (congrArg some (by kernel_rfl))
  f277 := Tryf.func44.trans (congrArg some (by kernel_rfl))
  t0 := Tryf.underlying0
  a0 := Tryf.isAgg0
  z0 := Tryf.sizeOf0
  v0 := Tryf.zeroValue0
  t3 := Tryf.underlying3
  a3 := Tryf.isAgg3
  z3 := Tryf.sizeOf3
  v3 := Tryf.zeroValue3
  t4 := Tryf.underlying4
  a4 := Tryf.isAgg4
  z4 := Tryf.sizeOf4
  v4 := Tryf.zeroValue4
  t9 := Tryf.underlying9
  a9 := Tryf.isAgg9
  z9 := Tryf.sizeOf9
  v9 := Tryf.zeroValue9
  t20 := Tryf.underlying20
  a20 := Tryf.isAgg20
  z20 := Tryf.sizeOf20
  v20 := Tryf.zeroValue20
  t31 := Tryf.underlying38
  a31 := Tryf.isAgg38
  z31 := Tryf.sizeOf38
  v31 := Tryf.zeroValue38
  t37 := Tryf.underlying45
  a37 := Tryf.isAgg45
  z37 := Tryf.sizeOf45
  v37 := Tryf.zeroValue45
  t70 := Tryf.underlying64
  a70 := Tryf.isAgg64
  z70 := Tryf.sizeOf64
  v70 := Tryf.zeroValue64
  t72 := Tryf.underlying66
  a72 := Tryf.isAgg66
  z72 := Tryf.sizeOf66
  v72 := Tryf.zeroValue66
  t75 := Tryf.underlying58
  a75 := Tryf.isAgg58
  z75 := Tryf.sizeOf58
  v75 := Tryf.zeroValue58
  t76 := Tryf.underlying68
  a76 := Tryf.isAgg68
  z76 := Tryf.sizeOf68
  v76 := Tryf.zeroValue68
  t127 := Tryf.underlying74
  a127 := Tryf.isAgg74
  z127 := Tryf.sizeOf74
  v127 := Tryf.zeroValue74
  t164 := Tryf.underlying87
  a164 := Tryf.isAgg87
  z164 := Tryf.sizeOf87
  v164 := Tryf.zeroValue87 }
theorem Tryf.Builder_Extra_156 : Builder.Extra Tryf.prog Tryf.lays156_ren := {
  sizeBuilder := by kernel_rfl
  liesBuilder := by kernel_rfl
  t5 := Tryf.underlying5
  a5 := Tryf.isAgg5
  z5 := Tryf.sizeOf5
  v5 := Tryf.zeroValue5
  infoByte := by kernel_rfl
  cellsByte := by kernel_rfl
  sizeByte := by kernel_rfl
  neB5 := by decide }
open Go.RowKit in
/-- strings.Join: "Join concatenates the elements of its first argument to create a single string. The separator string sep is placed between elements in the resulting string.": HOWEVER MANY ELEMENTS. Below the heap's end the world is as it was. (LAID: no walk: one application.) -/
theorem Tryf.strings_Join (bk o c : Nat) (xs : List ByteArray) (sep : ByteArray) (w : World) (hcells : ∀ (j : Nat) x, xs[j]? = some x → w.cell? ⟨bk, o + j, none⟩ = some (.string x)) (hbk : bk < w.heap.size) (hN : xs.length ≤ 140737488355328) (hcap : xs.length ≤ c) (hlen : (Lib.join (xs.map (·.data.toList)) sep.data.toList).length ≤ 140737488355328) :
    Calls Tryf.prog 15 #[.slice (some ⟨bk, o, none⟩) xs.length c, .string sep] w fun e w' => e = .returned (.string ⟨(Lib.join (xs.map (·.data.toList)) sep.data.toList).toArray⟩) ∧ Below w.heap.size w w' := Any.strings_Join Tryf.lays156 Tryf.Builder_Extra_156 bk o c xs sep w hcells hbk hN hcap hlen
end Go.Proofs
