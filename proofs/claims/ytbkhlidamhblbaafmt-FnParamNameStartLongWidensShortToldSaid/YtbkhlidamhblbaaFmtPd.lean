/-
  n010_56: paramNameStart, and what the statement asks of it.
-/
import Derived.Test.YtbkhlidamhblbaaFmtPc
namespace Go.Proofs.YtbkhlidamhblbaaFmt
open Go.RowKit

theorem Md.kept0 {w w' : World} {B pb rb : Nat} {ea : Addr} {p : Pc} {win rest u : List UInt8} {bsp : Nat} {offs : Int} (h : Md w B pb rb ea p win rest bsp offs u) (k : Kept [] w w') : Md w' B pb rb ea p win rest bsp offs u :=
  { h with lx := { h.lx with hpb := h.lx.hpb.kept k (by simp), hrd := h.lx.hrd.kept k (by simp) h.lx.hne, heof := (k.cell (p := ⟨0, 0, none⟩) (block_lt_of_cell h.lx.heof) (by simp)).trans h.lx.heof } }
theorem LexS.kept {w w' : World} {B pb rb : Nat} {ea : Addr} {q : Pc} {r : Int} {u : List UInt8} {k : Nat} (h : LexS w B pb rb ea q r u none k) (hr : r ≠ 1114112) (kp : Kept [] w w') : LexS w' B pb rb ea q r u none k := by
  obtain ⟨p, wd, ln, col, hb, h1, h2, h3, h4, h5, w1, w2, w3, l1, l2, c1, c2, b1, b2, b3, hl, hll, ⟨_, win, rest, bsp, offs, hm⟩ | ⟨he, _⟩⟩ := h
  · exact ⟨p, wd, ln, col, hb, h1, h2, h3, h4, h5, w1, w2, w3, l1, l2, c1, c2, b1, b2, Nat.le_trans b3 kp.size, hl, hll, .inl ⟨hr, win, rest, bsp, offs, hm.kept0 kp⟩⟩
  · exact absurd he hr

def okP (y : Int) (sh : Bool) : Bool := staP y || (!sh && (y == 34))
def PnPost (w : World) (B pb rb : Nat) (ea : Addr) (q : Pc) (x y : UInt8) (t : List UInt8) (sh : Bool) (w' : World) : Prop :=
  LexS w' B pb rb ea q (if okP y.toNat sh then y.toNat else x.toNat) (if okP y.toNat sh then t else y :: t) none 0 ∧ Kr B pb rb w w'

set_option maxRecDepth 100000 in
theorem pname_any {w : World} {B pb rb pe : Nat} {ea : Addr} {q : Pc} {x y : UInt8} {t : List UInt8} {sh : Bool} (h : LexS w B pb rb ea q x.toNat (y :: t) none 0) (hB : 0 < B) (hc : w.cell? ⟨pe, 4, none⟩ = some (.bool sh)) (n1 : pe ≠ pb) (n2 : pe ≠ rb) (hy : 32 ≤ y.toNat ∧ y.toNat < 127 ∧ y.toNat ≠ 92) (hx : x.toNat < 127) :
    Calls Tryf.prog 10 #[.pointer (some ⟨pb, 0, none⟩), .pointer (some ⟨pe, 0, none⟩)] w fun e w' => e = .returned (.bool (okP y.toNat sh)) ∧ PnPost w B pb rb ea q x y t sh w' := by
  have hxr : (x.toNat : Int) ≠ 1114112 := by omega
  have HP := Lib.hid (peek_s h hxr rfl)
  have hlp := block_lt_of_cell hc
  have hny : ((y.toNat : Int) == 128) = false := by simp; omega
  obtain ⟨yv, hyv⟩ : ∃ v : Int, v = y.toNat := ⟨_, rfl⟩
  have HYV := Lib.hid hyv
  have key : ∀ w1, LexS w1 B pb rb ea q x.toNat (y :: t) none 0 → Calls Tryf.prog 15 #[.pointer (some ⟨pb, 0, none⟩)] w1 fun e w' => e = .returned (.int .i32 y.toNat) ∧ LexS w' B pb rb ea q y.toNat t none 0 ∧ Kr B pb rb w1 w' := fun w1 h1 => rune_s h1 (by omega) hB hxr (Nx.plain y t (by omega) (by omega) (by omega) (by omega))
  have KEY := Lib.hid key
  have HPOST : Hid (∀ w1 w2, Kept [rb, pb] w w1 → (okP y.toNat sh = true → LexS w2 B pb rb ea q y.toNat t none 0 ∧ Kr B pb rb w1 w2) → (okP y.toNat sh = false → LexS w1 B pb rb ea q x.toNat (y :: t) none 0 ∧ w1 = w2) → PnPost w B pb rb ea q x y t sh w2) := Lib.hid (fun w1 w2 k1 a b => by
    have kr1 : Kr B pb rb w w1 := Kr.of k1 (by intro z hz; simp at hz; rcases hz with rfl | rfl <;> simp)
    unfold PnPost
    cases ho : okP y.toNat sh with
    | true => exact ⟨by simpa using (a ho).1, kr1.trans (a ho).2⟩
    | false => obtain ⟨b1, rfl⟩ := b ho; exact ⟨by simpa using b1, kr1⟩)
  clear h key
  rw [← hyv] at hny HPOST ⊢
  clear hyv hxr hy
  go_enter Tryf.func10, Tryf.ntmps10
  go_wp2_with (first
    | (go_at_call 16; refine HP.out.mono ?_; rintro e w1 ⟨rfl, hl1, hk1⟩; have d1 : w1.cell? ⟨pe, 4, none⟩ = some (.bool sh) := (hk1.cell (p := ⟨pe, 4, none⟩) hlp (by simp [n1, n2])).trans hc; rw [show By (hd2 (y :: t)).1 = .int .u8 yv by rw [HYV.out, hd2_fst rfl]; rfl]; have HL1 := Lib.hid hl1; have HK1 := Lib.hid hk1; clear hl1 hk1)
    | (go_at_call 17; refine (sta_any _ _).mono ?_; rintro e w' ⟨rfl, rfl⟩)
    | (go_at_call 15; refine (KEY.out _ HL1.out).mono ?_; rintro e w2 ⟨rfl, hl2, hk2⟩; have HL2 := Lib.hid hl2; have HK2 := Lib.hid hk2; clear hl2 hk2))
  all_goals go_ret
  all_goals first
    | exact ⟨by rw [show okP yv sh = true by simp [okP, *]]; rfl, HPOST.out w1 w2 HK1.out (fun _ => ⟨by rw [HYV.out]; exact HL2.out, HK2.out⟩) (fun hf => absurd hf (by simp [okP, *]))⟩
    | exact ⟨by rw [show okP yv sh = false by simp [okP, *]]; rfl, HPOST.out w1 w1 HK1.out (fun ht => absurd ht (by simp [okP, *])) (fun _ => ⟨HL1.out, rfl⟩)⟩

set_option maxRecDepth 100000 in
theorem zz_any {w : World} {s : ByteArray} {x y : UInt8} {t : List UInt8} {ea : Addr} (sh : Bool) (hst : s.data.toList = x :: y :: t) (hs : s.size < 10000000) (hg : w.cell? ⟨0, 0, none⟩ = some (EOFv ea)) (hx : 32 ≤ x.toNat ∧ x.toNat < 127 ∧ x.toNat ≠ 92) (hy : 32 ≤ y.toNat ∧ y.toNat < 127 ∧ y.toNat ≠ 92) :
    Calls Tryf.prog 8 #[.string s, .bool sh] w fun e w' => e = .returned (.tuple #[.bool (okP y.toNat sh), .int .i32 (if okP y.toNat sh then y.toNat else x.toNat)]) ∧ Kept [] w w' := by
  have HS := Lib.hid (start_any hst hs hg hx)
  have hgl : 0 < w.heap.size := block_lt_of_cell hg
  have hxr : (x.toNat : Int) ≠ 1114112 := by omega
  clear hst hg
  have HPN := Lib.hid (fun (w : World) (B pb rb pe : Nat) (q : Pc) (h1 : LexS w B pb rb ea q x.toNat (y :: t) none 0) (h2 : 0 < B) (h3 : w.cell? ⟨pe, 4, none⟩ = some (.bool sh)) (h4 : pe ≠ pb) (h5 : pe ≠ rb) => (pname_any (sh := sh) h1 h2 h3 h4 h5 hy (by omega)).mono (R' := fun e w' => e = .returned (.bool (okP y.toNat sh)) ∧ w'.cell? ⟨pb, 3, none⟩ = some (.int .i32 (if okP y.toNat sh then (y.toNat : Int) else x.toNat)) ∧ Kr B pb rb w w') (fun e w' hh => by
    obtain ⟨he, hl2, hk2⟩ := hh
    refine ⟨he, ?_, hk2⟩
    obtain ⟨p, wd, ln, col, hb, z1, z2, z3, z4, z5, w1', w2', w3', l1, l2, c1, c2, b1, b2, b3, hl, hll, ⟨_, win, rest, bsp, offs, hm⟩ | ⟨he, _, ha⟩⟩ := hl2
    · rw [hm.lx.hpb.c_r, z1]
    · split at he <;> omega))
  generalize hrr : (if okP y.toNat sh then (y.toNat : Int) else x.toNat) = rr at HPN ⊢
  generalize hbk : okP y.toNat sh = bk at HPN ⊢
  clear hrr hbk
  go_enter Tryf.func8, Tryf.ntmps8
  go_wp2_with (first
    | (go_at_call 9; refine HS.out.mono ?_; rintro e w1 ⟨B, pb, rb, q, rfl, hl, p1, p2, p3, hk⟩; have HL := Lib.hid hl; have HK := Lib.hid hk; have hlt1 : pb < w1.heap.size := (by obtain ⟨_, _, _, _, _, _, _, _, _, _, _, _, _, _, _, _, _, z1, z2, z3, _⟩ := hl; omega); have hlt2 : rb < w1.heap.size := (by obtain ⟨_, _, _, _, _, _, _, _, _, _, _, _, _, _, _, _, _, z1, z2, z3, _⟩ := hl; omega); clear hl hk)
    | (go_at_call 10; refine (HPN.out _ _ _ _ _ _ (HL.out.kept hxr ((Kept.refl _ _).alloc _)) (by omega) (row_cell (L := [.int .u32 0, .int .u32 0, .int .u32 0, .int .u32 0, .bool sh, .pointer none, .bool false, .bool false, .bool false, .bool false, .int .u8 0, .int .u8 0, .int .u8 0, .pointer none, .nilIface, .nilIface, .slice none 0 0, .pointer none, .pointer none, .int .u32 0, .pointer none]) (heap_alloc_new w1 _) 4) (by omega) (by omega)).mono ?_; rintro e w2 ⟨rfl, d3, hk2⟩; have HK2 := Lib.hid hk2; clear hk2))
  obtain ⟨S, k2, h2⟩ := HK2.out
  have hfin : Kept [] w w2 := (((HK.out.alloc _).weaken (S' := S) (by simp)).trans k2).weaken (fun z hz => .inr (by rcases h2 z hz with h | h | h <;> omega))
  have HFIN := Lib.hid hfin
  clear hfin k2 h2
  go_region
  all_goals (
    go_wp2_with fail
    go_ret2
    exact ⟨rfl, by first | exact HFIN.out | exact HFIN.out.drew⟩)
end Go.Proofs.YtbkhlidamhblbaaFmt
