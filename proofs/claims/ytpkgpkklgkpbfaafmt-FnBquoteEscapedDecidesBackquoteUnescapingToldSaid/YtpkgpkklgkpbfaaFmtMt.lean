/-
  n010_110: FnBquoteEscapedDecidesBackquoteUnescaping, walked.
-/
import Derived.Test.YtpkgpkklgkpbfaaFmtMs2
import Derived.Test.YtpkgpkklgkpbfaaFmtMn
import Derived.IntWalk
namespace Go.Proofs.YtpkgpkklgkpbfaaFmt
open Go.RowKit

theorem Kr.lower {B B' pb rb : Nat} {w w' : World} (h : Kr B' pb rb w w') (hB : B ≤ B') : Kr B pb rb w w' := by
  obtain ⟨S, k, hS⟩ := h
  exact ⟨S, k, fun x hx => by rcases hS x hx with h | h | h <;> omega⟩
theorem LexO.up {w : World} {B B' pb rb : Nat} {ea : Addr} {q : Pc} {r : Int} {u : List UInt8} {k : Nat} (h : LexO w B pb rb ea q r u k) (hr : r ≠ 1114112) (h1 : B ≤ B') (h2 : B' ≤ w.heap.size) : LexO w B' pb rb ea q r u k := by
  obtain ⟨p, wd, ln, col, hb, e1, e2, e3, e4, e5, w1, w2, l1, l2, c1, c2, b1, b2, b3, hl, hT, hc⟩ := h
  refine ⟨p, wd, ln, col, hb, e1, e2, e3, e4, e5, w1, w2, l1, l2, c1, c2, by omega, by omega, h2, hl, fun w' k' => hT w' (k'.lower h1), ?_⟩
  rcases hc with ⟨hr, win, rest, bsp, offs, hm⟩ | ⟨he, _⟩
  · refine .inl ⟨hr, win, rest, bsp, offs, { hm with lx := { hm.lx with hrd := ?_, hlt := by omega } }⟩
    obtain ⟨A, n, c, i, pv, l, q1, q2, q3, q4, q5, q6, q7, q8, q9⟩ := hm.lx.hrd
    exact ⟨A, n, c, i, pv, l, q1, q2, fun h0 => by obtain ⟨g, o, r1, r2, r3⟩ := q3 h0; exact ⟨g, o, r1, by omega, r3⟩, q4, q5, q6, q7, by omega, h2⟩
  · exact absurd he hr

theorem LexO.hsz {w : World} {B pb rb : Nat} {ea : Addr} {q : Pc} {r : Int} {u : List UInt8} {k : Nat} (h : LexO w B pb rb ea q r u k) : pb < B ∧ rb < B ∧ B ≤ w.heap.size := by
  obtain ⟨p, wd, ln, col, hb, e1, e2, e3, e4, e5, w1, w2, l1, l2, c1, c2, b1, b2, b3, hl, hT, hc⟩ := h
  exact ⟨b1, b2, b3⟩

/-- A fresh lexer inside one level of backquotes. -/
theorem lexo_fresh {w w' : World} {pb : Nat} {ea : Addr} {l : List UInt8} (hT : Tabs w) (hpb : pb = w.heap.size) (h : Lx w' (pb + 3) pb (pb + 1) ea (Pc.lexer pb (pb + 1) (pb + 2) 1) [] l 0) (hk : Kept [] w w') (hl : l.length < 10000000) :
    LexO w' (pb + 3) pb (pb + 1) ea (Pc.lexer pb (pb + 1) (pb + 2) 1) 0 l 0 := by
  have hmd : Md w' (pb + 3) pb (pb + 1) ea (Pc.lexer pb (pb + 1) (pb + 2) 1) [] l 0 0 l := ⟨h, .inl ⟨rfl, rfl⟩, rfl, by omega, by simp; omega, by simp, by simp⟩
  refine ⟨_, 0, 1, 1, rfl, rfl, rfl, rfl, rfl, ⟨rfl, rfl⟩, by omega, by omega, by omega, by omega, by omega, by omega, by omega, by omega, h.hrd.lt.2, rfl, ?_, .inl ⟨by decide, _, _, _, _, hmd⟩⟩
  intro w2 hk2
  obtain ⟨S, kS, hS⟩ := hk2
  have k2 : Kept S w w2 := (hk.weaken (S' := S) (by simp)).trans kS
  exact hT.kept k2 (fun x hx => by rcases hS x hx with h | h | h <;> omega)

theorem zbq (y : UInt8) (w : World) : Calls Tryf.prog 7 #[.int .u8 y.toNat] w fun e w' => e = .returned (.bool (bqE y)) ∧ w = w' := by
  have H := Lib.hid (fun w => bqesc y w)
  obtain ⟨b, hb⟩ : ∃ b, b = bqE y := ⟨_, rfl⟩
  rw [← hb] at H ⊢
  clear hb
  go_enter Tryf.func7, Tryf.ntmps7
  go_wp2_with (go_at_call 14; refine (H.out _).mono ?_; rintro e w' ⟨rfl, rfl⟩)
  go_ret
  exact ⟨rfl, rfl⟩

def bqWant (y : UInt8) : List Int := if bqE y then [(y.toNat : Int), 122] else [92, (y.toNat : Int), 122]
theorem bq_str {y : UInt8} (h0 : y.toNat ≠ 0) (h1 : y.toNat ≠ 10) (h2 : y.toNat ≠ 13) (h3 : y.toNat < 128) : StrO 0 [92, y, 122] (bqWant y) := by
  have hz : ∀ r, StrO r [122] [122] := fun r => StrO.step r 122 1 [122] [] 0 [] (Oy.plain 122 [] (by decide) (by decide) (by decide) (by decide)) (StrO.fin 122 0)
  unfold bqWant
  by_cases h92 : y = 92
  · subst h92
    exact StrO.step 0 92 1 _ [122] 1 _ (Oy.two 122 [] (by decide) (by decide) (by decide)) (hz 92)
  have h92' : y.toNat ≠ 92 := fun e => h92 (UInt8.toNat_inj.1 e)
  cases he : bqE y with
  | true => exact StrO.step 0 _ 1 _ [122] 1 _ (Oy.esc y [122] (by decide) h3 h0 h1 h2 h92' he) (hz _)
  | false => exact StrO.step 0 92 1 _ [y, 122] 0 _ (Oy.stay y [122] (by decide) h1 h2 he) (StrO.step 92 _ 1 _ [122] 0 _ (Oy.plain y [122] h3 h0 h2 h92') (hz _))

theorem bq_stream {w3 : World} {pb : Nat} {ea : Addr} {q : Pc} {y : UInt8} {R : List Int} {n : Nat} {cs : Array Value} (hl : LexO w3 (pb + 3) pb (pb + 1) ea q 0 [92, y, 122] 0) (hg : 0 < pb) (hs : StrO 0 [92, y, 122] R) (hq : q.err = .nilIface) (hcs : cs = (i32V R).toArray) (hn : n = R.length) (hR : R.length ≤ 10) :
    Calls Tryf.prog 8 #[.pointer (some ⟨pb, 0, none⟩), .slice (some ⟨w3.heap.size, 0, none⟩) n n] (w3.alloc (.cells cs 21)) fun e w' => e = .returned (.bool true) ∧ Kr (pb + 3) pb (pb + 1) w3 w' := by
  subst hcs
  obtain ⟨b1, b2, b3⟩ := hl.hsz
  have hk : Kept [] w3 (w3.alloc (.cells (i32V R).toArray 21)) := (Kept.refl _ _).alloc _
  have hlo := (hl.kept0 (by omega) hk).up (by decide) (B' := w3.heap.size + 1) (by omega) (by simp)
  have hlen : (i32V R).length = R.length := by rw [i32V, List.length_map]
  have ho := (OwnV.lit (T := 21) w3 (i32V R) (by omega)).rd
  rw [hlen, ← hn] at ho
  refine (zstreamO hlo (by omega) (by decide) hs hq hn (by omega) ho (fun g hg' => ?_)).mono ?_
  · have : w3.heap.size = g := by simpa [Value.ownBlock] using hg'
    exact ⟨by omega, by omega, by omega⟩
  · rintro e w' ⟨rfl, hk2⟩
    exact ⟨rfl, (Kr.of hk (by simp)).trans (hk2.lower (by omega))⟩

theorem skipE (w : World) (y : UInt8) (h : y.toNat = 0 ∨ y.toNat = 10 ∨ y.toNat = 13 ∨ 128 ≤ y.toNat) : Calls Tryf.prog 3 #[.int .u8 y.toNat] w fun e w' => e = .returned (.bool true) ∧ w = w' := by
  obtain ⟨x, hx⟩ : ∃ x : Int, (y.toNat : Int) = x := ⟨_, rfl⟩
  rw [hx]
  have hh : x = 0 ∨ (¬ x = 0 ∧ x = 10) ∨ (¬ x = 0 ∧ ¬ x = 10 ∧ x = 13) ∨ (¬ x = 0 ∧ ¬ x = 10 ∧ ¬ x = 13 ∧ 128 ≤ x) := by omega
  clear h hx
  go_enter Tryf.func3, Tryf.ntmps3
  rcases hh with rfl | ⟨_, rfl⟩ | ⟨_, _, rfl⟩ | ⟨h1, h2, h3, h4⟩
  · go_wp2
    go_ret
    exact ⟨rfl, rfl⟩
  · go_wp2
    go_ret
    exact ⟨rfl, rfl⟩
  · go_wp2
    go_ret
    exact ⟨rfl, rfl⟩
  · have g1 : (x == 0) = false := by simpa using h1
    have g2 : (x == 10) = false := by simpa using h2
    have g3 : (x == 13) = false := by simpa using h3
    go_wp2
    go_ret
    exact ⟨rfl, rfl⟩

set_option maxRecDepth 100000 in
set_option maxHeartbeats 1600000 in
theorem okF (w : World) (y : UInt8) (ea : Addr) (h0 : y.toNat ≠ 0) (h1 : y.toNat ≠ 10) (h2 : y.toNat ≠ 13) (h3 : y.toNat < 128) (hg : w.cell? ⟨0, 0, none⟩ = some (EOFv ea)) (hT : Tabs w) : Calls Tryf.prog 3 #[.int .u8 y.toNat] w fun e w' => e = .returned (.bool true) ∧ Kept [] w w' := by
  have HST := Lib.hid (bq_str h0 h1 h2 h3)
  have HG := Lib.hid hg; have HT := Lib.hid hT
  have hgl : 0 < w.heap.size := block_lt_of_cell hg
  have HE := Lib.hid (fun w => zbq y w)
  obtain ⟨x, hx⟩ : ∃ x : Int, (y.toNat : Int) = x := ⟨_, rfl⟩
  have hw : IntKind.i32.wrap x = x := IntWalk.i32_in _ (by omega)
  have g1 : (x == 0) = false := by simp; omega
  have g2 : (x == 10) = false := by simp; omega
  have g3 : (x == 13) = false := by simp; omega
  have g4 : ¬ (128 : Int) ≤ x := by omega
  have hrow : #[Value.int .u8 92, .int .u8 x, .int .u8 122] = (Bys [92, y, 122]).toArray := by rw [← hx]; rfl
  have HROW := Lib.hid hrow
  have hwant : bqWant y = if bqE y then [x, 122] else [92, x, 122] := by rw [← hx]; rfl
  rw [hwant] at HST
  rw [hx] at HE ⊢
  clear hg hT h0 h1 h2 h3 hx hrow hwant
  have hk0 : Kept [] w (w.alloc (.cells #[Value.int .u8 92, .int .u8 x, .int .u8 122] 5)) := (Kept.refl _ _).alloc _
  obtain ⟨pb, hpb⟩ : ∃ pb, pb = (w.alloc (.cells #[Value.int .u8 92, .int .u8 x, .int .u8 122] 5)).heap.size := ⟨_, rfl⟩
  have HPB : Hid (w.heap.size ≤ pb) := Lib.hid (by rw [hpb]; exact hk0.size)
  have HNL : Hid (Calls Tryf.prog 6 #[.slice (some ⟨w.heap.size, 0, none⟩) 3 3, .int .i64 1, .bool false] (w.alloc (.cells #[Value.int .u8 92, .int .u8 x, .int .u8 122] 5)) fun e w' => e = .returned (.pointer (some ⟨pb, 0, none⟩)) ∧ LexO w' (pb + 3) pb (pb + 1) ea (Pc.lexer pb (pb + 1) (pb + 2) 1) 0 [92, y, 122] 0 ∧ Kept [] w w') := Lib.hid (by
    rw [hpb]
    refine (newlexer _ (some ⟨w.heap.size, 0, none⟩) 3 3 1 [92, y, 122] ea (by rw [HROW.out]; exact SrcB.row (heap_alloc_new _ _) rfl) (by omega) (by omega) ((hk0.cell (p := ⟨0, 0, none⟩) hgl (by simp)).trans HG.out)).mono ?_
    rintro e w3 ⟨rfl, hlx, hk3⟩
    exact ⟨rfl, lexo_fresh (HT.out.kept hk0 (by simp)) rfl hlx hk3 (by simp), hk0.trans hk3⟩)
  clear hk0 hpb
  cases he : bqE y
  · have HS2 : Hid (StrO 0 [92, y, 122] [92, x, 122]) := Lib.hid (by have := HST.out; rw [he] at this; simpa using this)
    rw [he] at HE
    clear he HST
    go_enter Tryf.func3, Tryf.ntmps3
    go_wp2_with (first
      | (go_at_call 6; refine HNL.out.mono ?_; rintro e w3 ⟨rfl, hlx, hk3⟩; have HLX := Lib.hid hlx; have HK3 := Lib.hid hk3; clear hlx hk3)
      | (go_at_call 7; refine (HE.out _).mono ?_; rintro e w4 ⟨rfl, rfl⟩)
      | (go_at_call 8; refine (bq_stream HLX.out (Nat.lt_of_lt_of_le hgl HPB.out) HS2.out rfl rfl rfl (by simp)).mono ?_; rintro e w5 ⟨rfl, hk5⟩; have HK5 := Lib.hid hk5; clear hk5))
    go_ret
    obtain ⟨S, k5, hS⟩ := HK5.out
    refine ⟨rfl, ((HK3.out.weaken (S' := S) (by simp)).trans k5).weaken (fun x hx => .inr ?_)⟩
    have q1 := HK3.out.size
    have q2 := HPB.out
    rcases hS _ hx with h | h | h <;> omega
  · have HS2 : Hid (StrO 0 [92, y, 122] [x, 122]) := Lib.hid (by have := HST.out; rw [he] at this; simpa using this)
    rw [he] at HE
    clear he HST
    go_enter Tryf.func3, Tryf.ntmps3
    go_wp2_with (first
      | (go_at_call 6; refine HNL.out.mono ?_; rintro e w3 ⟨rfl, hlx, hk3⟩; have HLX := Lib.hid hlx; have HK3 := Lib.hid hk3; clear hlx hk3)
      | (go_at_call 7; refine (HE.out _).mono ?_; rintro e w4 ⟨rfl, rfl⟩)
      | (go_at_call 8; refine (bq_stream HLX.out (Nat.lt_of_lt_of_le hgl HPB.out) HS2.out rfl rfl rfl (by simp)).mono ?_; rintro e w5 ⟨rfl, hk5⟩; have HK5 := Lib.hid hk5; clear hk5))
    go_ret
    obtain ⟨S, k5, hS⟩ := HK5.out
    refine ⟨rfl, ((HK3.out.weaken (S' := S) (by simp)).trans k5).weaken (fun x hx => .inr ?_)⟩
    have q1 := HK3.out.size
    have q2 := HPB.out
    rcases hS _ hx with h | h | h <;> omega

theorem law_FnBquoteEscapedDecidesBackquoteUnescaping (w : World) (y : UInt8) (ea : Addr) (hg : w.cell? ⟨0, 0, none⟩ = some (EOFv ea)) (hT : Tabs w) : Calls Tryf.prog 3 #[.int .u8 y.toNat] w fun e w' => e = .returned (.bool true) ∧ Kept [] w w' := by
  by_cases h : y.toNat = 0 ∨ y.toNat = 10 ∨ y.toNat = 13 ∨ 128 ≤ y.toNat
  · exact (skipE w y h).mono fun e w' hh => ⟨hh.1, hh.2 ▸ Kept.refl _ _⟩
  · exact okF w y ea (by omega) (by omega) (by omega) (by omega) hg hT
end Go.Proofs.YtpkgpkklgkpbfaaFmt
