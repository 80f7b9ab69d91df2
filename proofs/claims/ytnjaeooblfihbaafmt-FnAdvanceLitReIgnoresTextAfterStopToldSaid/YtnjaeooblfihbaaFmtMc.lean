/-
  utf8.DecodeRune by the library's contract.
-/
import Derived.Test.YtnjaeooblfihbaaFmtMb
import Derived.Shelf.Spec.DecodeRune
namespace Go.Proofs.YtnjaeooblfihbaaFmt
open Go.RowKit

def dec_ren : Go.Shelf.Ren := ⟨fun | 32 => 30 | 49 => 40 | n => n, fun | 0 => 0 | 3 => 3 | 4 => 4 | 5 => 5 | 21 => 21 | 25 => 44 | 30 => 22 | 33 => 79 | 66 => 89 | 68 => 91 | 69 => 92 | n => n, fun | 2 => 1 | 3 => 2 | n => n⟩
set_option maxRecDepth 100000 in
theorem dec_lays : Go.Proofs.Lays7.n32 Tryf.prog dec_ren := by
  constructor
  case f32 => exact Tryf.func30.trans (congrArg some (by kernel_rfl))
  case f49 => exact Tryf.func40.trans (congrArg some (by kernel_rfl))
  all_goals first | kernel_rfl | (intro w; kernel_rfl)

def Tabs (w : World) : Prop := Lib.Utf8Tabs 1 2 w

theorem get_byAt (l : List UInt8) (k : Nat) : ((⟨l.toArray⟩ : ByteArray).get! k).toNat = byAt l k := by
  unfold byAt
  by_cases h : k < l.length
  · rw [List.getElem?_eq_getElem h, Option.getD_some]
    congr 1
    have e : (⟨l.toArray⟩ : ByteArray).get! k = l.toArray[k]! := rfl
    rw [e]
    simp [h]
  · rw [List.getElem?_eq_none (by omega), Option.getD_none]
    have e : (⟨l.toArray⟩ : ByteArray).get! k = l.toArray[k]! := rfl
    rw [e]
    simp [h]
    rfl

/-- utf8.DecodeRune of the bytes l that lie at b, off. -/
theorem decr (l : List UInt8) (hl : l ≠ []) (b off n cap : Nat) (hn : n = l.length) (w : World) (hT : Tabs w) (hc : ∀ j x, l[j]? = some x → w.cell? ⟨b, off + j, none⟩ = some (By x)) :
    Calls Tryf.prog 30 #[.slice (some ⟨b, off, none⟩) n cap] w fun e w' => e = .returned (.tuple #[.int .i32 (dcN l).1, .int .i64 (dcN l).2]) ∧ Kept [] w w' := by
  have hs : (⟨l.toArray⟩ : ByteArray).size = l.length := rfl
  have := Any7.utf8_DecodeRune dec_lays (⟨l.toArray⟩ : ByteArray) b off cap w hT (fun j hj => by
    rw [hs] at hj
    rw [get_byAt]
    have := hc j l[j] (List.getElem?_eq_getElem hj)
    rw [this]
    unfold By byAt
    rw [List.getElem?_eq_getElem hj, Option.getD_some])
  have hd : Lib.decodeGo (⟨l.toArray⟩ : ByteArray) = dcN l := by
    unfold Lib.decodeGo dcN
    rw [if_neg (by rw [hs]; exact fun e => hl (List.eq_nil_of_length_eq_zero e)), Lib.decode_at, get_byAt, get_byAt, get_byAt, get_byAt, hs]
    rfl
  rw [hd, hs, ← hn] at this
  exact this.mono fun e w' h => ⟨h.1, ⟨h.2.os, h.2.tape, h.2.output, h.2.size, fun k hk _ => h.2.block k hk⟩⟩
end Go.Proofs.YtnjaeooblfihbaaFmt
