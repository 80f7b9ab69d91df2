/-
  Contracts of the library, laid over this program: Builder_Extra_156, strings_Join.
-/
import Derived.Shelf.Strings.OnBuilder
import Derived.Test.YtafgbgdehpcapaaGreatFmtProg
namespace Go.Proofs
open Go.Shelf
def Tryz.lays156_ren : Go.Shelf.Ren := ⟨fun | 156 => 26 | 165 => 39 | 166 => 40 | 169 => 41 | 240 => 47 | 241 => 48 | 276 => 59 | 277 => 60 | n => n, fun | 31 => 22 | 9 => 9 | 3 => 3 | 4 => 4 | 0 => 0 | 20 => 20 | 72 => 77 | 76 => 79 | 70 => 74 | 37 => 75 | 75 => 34 | 127 => 88 | 164 => 102 | 5 => 5 | 80 => 35 | n => n, fun | n => n⟩
theorem Tryz.lays156 : Go.Proofs.Lays.n156 Tryz.prog Tryz.lays156_ren := {
  mixed := by kernel_rfl
  f156 := Tryz.func26.trans (congrArg some (by kernel_rfl))
  f165 := Tryz.func39.trans (congrArg some (by kernel_rfl))
  f166 := Tryz.func40.trans (congrArg some (by kernel_rfl))
  f169 := Tryz.func41.trans (congrArg some (by kernel_rfl))
  f240 := Tryz.func47.trans (congrArg some (by kernel_rfl))
  f241 := Tryz.func48.trans (congrArg some (by kernel_rfl))
  f276 := Tryz.func59.trans (congrArg some (by kernel_rfl))
  f277 := Tryz.func60.trans (congrArg some (by kernel_rfl))
  t0 := Tryz.underlying0
  a0 := Tryz.isAgg0
  z0 := Tryz.sizeOf0
  v0 := Tryz.zeroValue0
  t3 := Tryz.underlying3
  a3 := Tryz.isAgg3
  z3 := Tryz.sizeOf3
  v3 := Tryz.zeroValue3
  t4 := Tryz.underlying4
  a4 := Tryz.isAgg4
  z4 := Tryz.sizeOf4
  v4 := Tryz.zeroValue4
  t9 := Tryz.underlying9
  a9 := Tryz.isAgg9
  z9 := Tryz.sizeOf9
  v9 := Tryz.zeroValue9
  t20 := Tryz.underlying20
  a20 := Tryz.isAgg20
  z20 := Tryz.sizeOf20
  v20 := Tryz.zeroValue20
  t31 := Tryz.underlying22
  a31 := Tryz.isAgg22
  z31 := Tryz.sizeOf22
  v31 := Tryz.zeroValue22
  t37 := Tryz.underlying75
  a37 := Tryz.isAgg75
  z37 := Tryz.sizeOf75
  v37 := Tryz.zeroValue75
  t70 := Tryz.underlying74
  a70 := Tryz.isAgg74
  z70 := Tryz.sizeOf74
  v70 := Tryz.zeroValue74
  t72 := Tryz.underlying77
  a72 := Tryz.isAgg77
  z72 := Tryz.sizeOf77
  v72 := Tryz.zeroValue77
  t75 := Tryz.underlying34
  a75 := Tryz.isAgg34
  z75 := Tryz.sizeOf34
  v75 := Tryz.zeroValue34
  t76 := Tryz.underlying79
  a76 := Tryz.isAgg79
  z76 := Tryz.sizeOf79
  v76 := Tryz.zeroValue79
  t127 := Tryz.underlying88
  a127 := Tryz.isAgg88
  z127 := Tryz.sizeOf88
  v127 := Tryz.zeroValue88
  t164 := Tryz.underlying102
  a164 := Tryz.isAgg102
  z164 := Tryz.sizeOf102
  v164 := Tryz.zeroValue102 }
theorem Tryz.Builder_Extra_156 : Builder.Extra Tryz.prog Tryz.lays156_ren := {
  sizeBuilder := by kernel_rfl
  liesBuilder := by kernel_rfl
  t5 := Tryz.underlying5
  a5 := Tryz.isAgg5
  z5 := Tryz.sizeOf5
  v5 := Tryz.zeroValue5
  infoByte := by kernel_rfl
  cellsByte := by kernel_rfl
  sizeByte := by kernel_rfl
  neB5 := by decide }
open Go.RowKit in
/-- strings.Join: "Join concatenates the elements of its first argument to create a single string. The separator string sep is placed between elements in the resulting string.": HOWEVER MANY ELEMENTS. Below the heap's end the world is as it was. (LAID: no walk: one application.) -/
theorem Tryz.strings_Join (bk o c : Nat) (xs : List ByteArray) (sep : ByteArray) (w : World) (hcells : ∀ (j : Nat) x, xs[j]? = some x → w.cell? ⟨bk, o + j, none⟩ = some (.string x)) (hbk : bk < w.heap.size) (hN : xs.length ≤ 140737488355328) (hcap : xs.length ≤ c) (hlen : (Lib.join (xs.map (·.data.toList)) sep.data.toList).length ≤ 140737488355328) :
    Calls Tryz.prog 26 #[.slice (some ⟨bk, o, none⟩) xs.length c, .string sep] w fun e w' => e = .returned (.string ⟨(Lib.join (xs.map (·.data.toList)) sep.data.toList).toArray⟩) ∧ Below w.heap.size w w' := Any.strings_Join Tryz.lays156 Tryz.Builder_Extra_156 bk o c xs sep w hcells hbk hN hcap hlen
end Go.Proofs
