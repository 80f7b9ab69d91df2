/-
  n010_42: lexOther over a plain source.
-/
import Derived.Test.YtaaobebpjblbdaaFmtNq
import Derived.Test.YtaaobebpjblbdaaFmtConv
namespace Go.Proofs.YtaaobebpjblbdaaFmt
open Go.RowKit

def goO (st : Nat) (zsh : Bool) : UInt8 → Bool := goesO (bits BinOp.and IntKind.u32 (qvOf st) 983040 != 0) (qvOf st != 524288) (bits BinOp.and IntKind.u32 (qvOf st) 203776 != 0) (bits BinOp.and IntKind.u32 (qvOf st) 787266 == 0) (!zsh) true

set_option maxRecDepth 100000 in
set_option maxHeartbeats 800000 in
theorem lex_plain (w : World) (s : ByteArray) (st : Int) (h1 : 0 ≤ st) (h2 : st ≤ 3) (z : Bool) (ea : Addr) (x : UInt8) (u : List UInt8) (hs : s.data.toList = x :: u) (hx : plainB x) (hu : ∀ y ∈ u, plainB y) (hn : s.size < 10000000) (hg : w.cell? ⟨0, 0, none⟩ = some (EOFv ea)) :
    Calls Tryf.prog 7 #[.string s, .int .i64 st, .bool z] w fun e w' => e = .returned (.tuple #[.int .u32 (endT ((x :: u).dropWhile (goO st.toNat z))), .string ⟨((x :: u).takeWhile (goO st.toNat z)).toArray⟩, .int .i32 (endR ((x :: u).dropWhile (goO st.toNat z)))]) ∧ Kept [] w w' := by
  have HQ := Lib.hid (litQuote_any st h1 h2); have HL := Lib.hid (litLang_any z)
  have HG := Lib.hid hg; have HS := Lib.hid hs; have HX := Lib.hid hx; have HU := Lib.hid hu
  clear hg hs hx hu
  go_enter Tryf.func7, Tryf.ntmps7
  go_wp2_with (first | (refine wpList_bytes rfl _ rfl s rfl ?_; intro A cap w1 hsrc hcap hk1 hA; have HSRC := Lib.hid hsrc; have HCAP := Lib.hid hcap; have HK1 := Lib.hid hk1; clear hsrc hcap hk1 hA) | (go_at_call 12; refine (HQ.out _).mono ?_; rintro e w' ⟨rfl, rfl⟩) | (go_at_call 13; refine (HL.out _).mono ?_; rintro e w' ⟨rfl, rfl⟩))
  have hg1 : w1.cell? ⟨0, 0, none⟩ = some (EOFv ea) := (HK1.out.cell (p := ⟨0, 0, none⟩) (block_lt_of_cell HG.out) (by simp)).trans HG.out
  have HB := Lib.hid (show 0 < w1.heap.size + 2 by have h : 0 < w1.heap.size := block_lt_of_cell hg1; omega)
  have HNL := Lib.hid (newlexer w1 A s.size cap s.data.toList ea (qvOf st.toNat) (lvOf z) HSRC.out hn HCAP.out hg1)
  clear hg1
  have hul : u.length ≤ 100000000 := by have := congrArg List.length HS.out; have e : s.data.toList.length = s.size := rfl; simp at this; omega
  go_wp2_with (first | (go_at_call 11; refine HNL.out.mono ?_; rintro e w2 ⟨rfl, hl, hk2⟩; rw [HS.out] at hl; have HL2 := Lib.hid hl; have HK2 := Lib.hid hk2; clear hl hk2) | (go_at_call 14; refine zrune (rune_s HL2.out (by decide) HB.out (by decide) (.plain x u HX.out.1 HX.out.2.1 HX.out.2.2.1 HX.out.2.2.2)) ?_; intro w3 h3; dsimp only; have H3 := Lib.hid h3; clear h3) | (go_at_call 15; refine zadv (adv_other H3.out.1 (by decide) HB.out (asks_ok st.toNat z) rfl rfl HX.out HU.out hul) ?_; intro w4 h4; dsimp only; obtain ⟨hk4, p4, hp4, ht4, hv4, hr4⟩ := h4.out; have HT := Lib.hid (ztokval hp4 _ _ _ ht4 hv4 hr4); have HK4 := Lib.hid hk4; clear h4 hk4 hp4 ht4 hv4 hr4) | (go_at_call 16; refine HT.out.mono ?_; rintro e w5 ⟨rfl, hk5⟩; have HK5 := Lib.hid hk5; clear hk5))
  go_ret3
  obtain ⟨S3, k3, s3⟩ := H3.out.2
  obtain ⟨S4, k4, s4⟩ := HK4.out
  have hz := HK1.out.size
  refine ⟨rfl, (((HK1.out.trans HK2.out).weaken (S' := S3 ++ S4) (by simp)).trans ((k3.weaken (S' := S3 ++ S4) (fun k hk => .inl (List.mem_append.2 (.inl hk)))).trans ((k4.weaken (S' := S3 ++ S4) (fun k hk => .inl (List.mem_append.2 (.inr hk)))).trans (HK5.out.weaken (by simp))))).weaken (fun k hk => .inr ?_)⟩
  rcases List.mem_append.1 hk with h | h
  · rcases s3 k h with h | h | h <;> omega
  · rcases s4 k h with h | h | h <;> omega
end Go.Proofs.YtaaobebpjblbdaaFmt
