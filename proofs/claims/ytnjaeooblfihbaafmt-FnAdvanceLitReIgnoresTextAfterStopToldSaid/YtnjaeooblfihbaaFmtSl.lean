/-
  newLit and endLit: the literal is begun, and becomes a string.
-/
import Derived.Test.YtnjaeooblfihbaaFmtSt
import Derived.Laws.BytesString
namespace Go.Proofs.YtnjaeooblfihbaaFmt
open Go.RowKit

theorem arr60_h (g : Nat) (k : IntKind) (h : Nat) (hh : h ≤ 1024) (w : World) :
    (Instr.sliceAt 57 (.pointer (some ⟨g, 1063, none⟩)) none (some (.int k h)) none).run Tryf.prog w = .ok (.slice (some ⟨g, 1063, none⟩) h 1024) w := slice_arr_h g 1063 k h hh w

theorem PB.s_lit0 {w : World} {pb : Nat} {p : Pc} (h : PB w pb p) (v : Value) : PB (w.setCell ⟨pb, 1063, none⟩ v) pb { p with litBuf := v :: p.litBuf.drop 1 } := by
  have h0 : p.head.length = 39 := rfl
  have h1 := h.rb
  have h2 := h.lb
  obtain ⟨a, l, hl⟩ : ∃ a l, p.litBuf = a :: l := by
    cases hq : p.litBuf with
    | nil => rw [hq] at h2; simp at h2
    | cons a l => exact ⟨a, l, rfl⟩
  refine h.put ?_ rfl (by rw [hl]; rfl)
  show (p.head ++ (p.readBuf ++ (p.litBuf ++ [p.litBs]))).set 1063 v = p.head ++ (p.readBuf ++ ((v :: p.litBuf.drop 1) ++ [p.litBs]))
  rw [List.set_append_right _ _ (by omega), List.set_append_right _ _ (by omega), show 1063 - p.head.length - p.readBuf.length = 0 by omega, hl]
  rfl

set_option maxRecDepth 100000 in
set_option maxHeartbeats 800000 in
theorem newlit_byte {w : World} {pb : Nat} {p : Pc} (hp : PB w pb p) (x : UInt8) (hx : x.toNat < 128) :
    Calls Tryf.prog 34 #[.pointer (some ⟨pb, 0, none⟩), .int .i32 x.toNat] w fun e w' => e = .returned (.tuple #[]) ∧ PB w' pb { p with litBs := .slice (some ⟨pb, 1063, none⟩) 1 1024, litBuf := By x :: p.litBuf.drop 1 } ∧ Kept [pb] w w' := by
  have hf := hp.frozen
  have c1 := hp.c_litBs
  obtain ⟨v0, c2⟩ : ∃ v, w.cell? ⟨pb, 1063, none⟩ = some v := by
    have h2 := hp.lb
    have := hp.lit 0 (by omega)
    rw [Nat.add_zero] at this
    exact ⟨p.litBuf[0], this.trans (List.getElem?_eq_getElem (by omega))⟩
  have hxl : (x.toNat : Int) < 128 := by omega
  have q1 := fun w => arr60_h pb .i64 1 (by omega) w
  have H := Lib.hid hp
  clear hp
  go_enter Tryf.func34, Tryf.ntmps34
  go_wp2
  go_end0
  exact ⟨rfl, (H.out.s_litBs _).s_lit0 _, ((Kept.refl _ _).setCell (by simp) _).setCell (by simp) _⟩

set_option maxRecDepth 100000 in
set_option maxHeartbeats 800000 in
theorem newlit_none {w : World} {pb : Nat} {p : Pc} (hp : PB w pb p) (r : Int) (hr : r = 1114112 ∨ r = 1114113) :
    Calls Tryf.prog 34 #[.pointer (some ⟨pb, 0, none⟩), .int .i32 r] w fun e w' => e = .returned (.tuple #[]) ∧ PB w' pb { p with litBs := .slice (some ⟨pb, 1063, none⟩) 0 1024 } ∧ Kept [pb] w w' := by
  have hf := hp.frozen
  have c1 := hp.c_litBs
  have q1 := fun w => arr60_h pb .i64 0 (by omega) w
  have H := Lib.hid hp
  clear hp
  rcases hr with rfl | rfl
  all_goals (
    go_enter Tryf.func34, Tryf.ntmps34
    go_wp2
    go_end0
    exact ⟨rfl, H.out.s_litBs _, (Kept.refl _ _).setCell (by simp) _⟩)

theorem foldl_push (l : List UInt8) (s : ByteArray) : (l.map fun x : UInt8 => (x.toNat : Int)).foldl (fun r n => r.push (UInt8.ofNat n.toNat)) s = ⟨(s.data.toList ++ l).toArray⟩ := by
  induction l generalizing s with
  | nil => simp
  | cons a l ih =>
    rw [List.map_cons, List.foldl_cons, ih]
    congr 1
    have : UInt8.ofNat ((a.toNat : Int)).toNat = a := by simp
    rw [this]
    simp [ByteArray.push]
/-- string(b), the bytes of b being known. -/
theorem run_str {w : World} (A : Addr) (n c : Nat) (l : List UInt8) (hn : l.length = n) (h : ∀ j x, l[j]? = some x → w.cell? (A.add j) = some (By x)) :
    (convert 22 9 (.slice (some A) n c)).run Tryf.prog w = .ok (.string ⟨l.toArray⟩) w := by
  rw [run_convert_bytes_string (P := Tryf.prog) w 22 9 5 (some A) n c u8_und (by kernel_rfl) (by kernel_rfl)]
  have hl : (loadCells A n).run Tryf.prog w = .ok ((l.map fun x : UInt8 => (x.toNat : Int)).map (Value.int .u8)).toArray w := by
    have e : ((l.map fun x : UInt8 => (x.toNat : Int)).map (Value.int .u8)) = Bys l := by simp [Bys, By]
    rw [e, ← hn, ← Bys_length l]
    refine run_loadCells_list _ _ _ (fun j v hj => ?_)
    rw [Bys, List.getElem?_map, Option.map_eq_some_iff] at hj
    obtain ⟨x, hx, rfl⟩ := hj
    exact h j x hx
  rw [run_bytesToString w A n c _ hl, foldl_push]
  rfl

/-- Where the literal's bytes lie. -/
theorem Lt.cells {w : World} {B pb : Nat} {p : Pc} {l : List UInt8} (h : Lt w B pb p (some l)) (hp : PB w pb p) : ∃ g o c, p.litBs = .slice (some ⟨g, o, none⟩) l.length c ∧ l.length ≤ c ∧ ∀ j x, l[j]? = some x → w.cell? ((⟨g, o, none⟩ : Addr).add j) = some (By x) := by
  rcases h with ⟨h1, h2, h3⟩ | ⟨g, cap, h1, h2, h3⟩
  · refine ⟨pb, 1063, 1024, h1, h2, fun j x hj => ?_⟩
    have hlt : j < l.length := (List.getElem?_eq_some_iff.1 hj).1
    rw [addr_add, hp.lit j (by omega)]
    have : p.litBuf[j]? = (p.litBuf.take l.length)[j]? := by rw [List.getElem?_take, if_pos hlt]
    rw [this, h3]
    simp [Bys, hj]
  · obtain ⟨⟨_, hs⟩, _, hc, _⟩ := h2.src
    refine ⟨g, 0, cap, h1, hc, fun j x hj => ?_⟩
    have hlt : j < l.length := (List.getElem?_eq_some_iff.1 hj).1
    obtain ⟨g', o', e, _, hcell⟩ := hs (by omega)
    cases e
    rw [addr_add]
    exact hcell j x hj

set_option maxRecDepth 100000 in
set_option maxHeartbeats 800000 in
/-- endLit where the current rune is EOF or an escaped newline: all of it. -/
theorem endlit_all {w : World} {B pb : Nat} {p : Pc} (hp : PB w pb p) {l : List UInt8} (hl : Lt w B pb p (some l)) (r : Int) (hr : p.r = .int .i32 r) (hr2 : r = 1114112 ∨ r = 1114113) :
    Calls Tryf.prog 37 #[.pointer (some ⟨pb, 0, none⟩)] w fun e w' => e = .returned (.string ⟨l.toArray⟩) ∧ PB w' pb { p with litBs := nilS } ∧ Kept [pb] w w' := by
  obtain ⟨g, o, c, h1, h2, h3⟩ := hl.cells hp
  have c3 : w.cell? ⟨pb, 3, none⟩ = some (.int .i32 r) := by rw [hp.c_r, hr]
  have c1 : w.cell? ⟨pb, 2087, none⟩ = some (.slice (some ⟨g, o, none⟩) l.length c) := by rw [hp.c_litBs, h1]
  have hf := hp.frozen
  have q1 := run_str (w := w) ⟨g, o, none⟩ l.length c l rfl h3
  have H := Lib.hid hp
  clear hp hl hr h1 h2 h3
  rcases hr2 with rfl | rfl
  all_goals (
    go_enter Tryf.func37, Tryf.ntmps37
    go_wp2
    go_ret
    exact ⟨rfl, H.out.s_litBs _, (Kept.refl _ _).setCell (by simp) _⟩)

set_option maxRecDepth 100000 in
set_option maxHeartbeats 800000 in
/-- endLit behind an ASCII rune: all but it. -/
theorem endlit_one {w : World} {B pb : Nat} {p : Pc} (hp : PB w pb p) {l : List UInt8} (hl : Lt w B pb p (some l)) (r : Int) (hr : p.r = .int .i32 r) (hr2 : r ≠ 1114112) (hr3 : r ≠ 1114113) (hw : p.w = .int .i64 1) (h0 : 0 < l.length) (hb : l.length ≤ 10000000000) :
    Calls Tryf.prog 37 #[.pointer (some ⟨pb, 0, none⟩)] w fun e w' => e = .returned (.string ⟨(l.take (l.length - 1)).toArray⟩) ∧ PB w' pb { p with litBs := nilS } ∧ Kept [pb] w w' := by
  obtain ⟨g, o, c, h1, h2, h3⟩ := hl.cells hp
  have c3 : w.cell? ⟨pb, 3, none⟩ = some (.int .i32 r) := by rw [hp.c_r, hr]
  have c4 : w.cell? ⟨pb, 4, none⟩ = some (.int .i64 1) := by rw [hp.c_w, hw]
  have c1 : w.cell? ⟨pb, 2087, none⟩ = some (.slice (some ⟨g, o, none⟩) l.length c) := by rw [hp.c_litBs, h1]
  have hf := hp.frozen
  have g1 : (r == 1114112) = false := by simpa using hr2
  have g2 : (r == 1114113) = false := by simpa using hr3
  have hwr : IntKind.i64.wrap ((l.length : Int) - 1) = l.length - 1 := IntWalk.i64_in _ (by omega)
  have e1 : ((l.length : Int) - 1).toNat = l.length - 1 := by omega
  have e2 : ¬ (l.length : Int) - 1 < 0 := by omega
  have e3 : (l.length : Int) - 1 ≤ c := by omega
  have q1 : ∀ n, (convert 22 9 (.slice (some ⟨g, o, none⟩) (l.length - 1) c)).run Tryf.prog (w.drewN n) = .ok (.string ⟨(l.take (l.length - 1)).toArray⟩) (w.drewN n) := fun n => run_str (w := w.drewN n) ⟨g, o, none⟩ (l.length - 1) c (l.take (l.length - 1)) (by simp) (fun j x hj => h3 j x (by rw [List.getElem?_take] at hj; split at hj; exact hj; cases hj))
  have H := Lib.hid hp
  clear hp hl hr h1 h3 hr2 hr3 hw
  go_enter Tryf.func37, Tryf.ntmps37
  go_wp2
  go_quiet (fail)
  go_wp2
  go_ret
  exact ⟨rfl, (H.out.s_litBs _).drewN nq, ((Kept.refl _ _).setCell (by simp) _).drewN _⟩

/-- The state's parser, and that its literal may be put anew. -/
theorem LexS.relit {w : World} {B pb rb : Nat} {ea : Addr} {q : Pc} {r : Int} {u : List UInt8} {lit : Option (List UInt8)} {k : Nat} (h : LexS w B pb rb ea q r u lit k) (hB : 0 < B) :
    ∃ p, PB w pb p ∧ p.r = .int .i32 r ∧ Lt w B pb p lit ∧ p.base = q.base ∧ (0 < r → r < 128 → p.w = .int .i64 1) ∧ pb < B ∧ rb < B ∧ B ≤ w.heap.size ∧ (∀ l ∈ lit, l.length + u.length ≤ 1000000000) ∧
      ∀ w' v lb lit', PB w' pb { p with litBs := v, litBuf := lb } → Kept [pb] w w' → Lt w' B pb { p with litBs := v, litBuf := lb } lit' → (∀ l ∈ lit', l.length + u.length ≤ 1000000000) → LexS w' B pb rb ea q r u lit' k := by
  obtain ⟨p, wd, ln, col, hb, h1, h2, h3, h4, h5, w1, w2, w3, l1, l2, c1, c2, b1, b2, b3, hl, hll, hcase⟩ := h
  have hp : PB w pb p := by
    rcases hcase with ⟨_, win, rest, bsp, offs, hm⟩ | ⟨_, _, ha⟩
    · exact hm.lx.hpb
    · exact ha.1
  refine ⟨p, hp, h1, hl, hb, fun a b => by rw [h2, w3 a b], b1, b2, b3, hll, fun w' v lb lit' hp' hk' hl' hll' => ?_⟩
  refine ⟨{ p with litBs := v, litBuf := lb }, wd, ln, col, hb, h1, h2, h3, h4, h5, w1, w2, w3, l1, l2, c1, c2, b1, b2, Nat.le_trans b3 hk'.size, hl', hll', ?_⟩
  rcases hcase with ⟨hr, win, rest, bsp, offs, hm⟩ | ⟨hr, hu, ha⟩
  · refine .inl ⟨hr, win, rest, bsp, offs, ?_⟩
    have := hm.step (Kb.of hk' (by simp)) hB hp' 0 (by have := hm.hb; omega) rfl rfl rfl (by simpa using hm.lx.hbsp) rfl rfl rfl
    simpa using this
  · obtain ⟨_, e1, e2, A, n, c, m, b, e3, e4, e5, e6, e7⟩ := ha
    exact .inr ⟨hr, hu, hp', e1, e2, A, n, c, m, b, e3, e4, e5, e6, e7⟩

theorem newlit_s {w : World} {B pb rb : Nat} {ea : Addr} {q : Pc} {u : List UInt8} {lit : Option (List UInt8)} {k : Nat} {x : UInt8} (h : LexS w B pb rb ea q x.toNat u lit k) (hB : 0 < B) (hx : x.toNat < 128) (hu : u.length ≤ 100000000) :
    Calls Tryf.prog 34 #[.pointer (some ⟨pb, 0, none⟩), .int .i32 x.toNat] w fun e w' => e = .returned (.tuple #[]) ∧ LexS w' B pb rb ea q x.toNat u (some [x]) k ∧ Kept [pb] w w' := by
  obtain ⟨p, hp, hr, hl, hb, hw, b1, b2, b3, hll, hup⟩ := h.relit hB
  refine (newlit_byte hp x hx).mono ?_
  rintro e w' ⟨rfl, hp', hk'⟩
  refine ⟨rfl, hup w' _ _ (some [x]) hp' hk' (.inl ⟨rfl, by simp, ?_⟩) (fun l hl => by simp at hl; subst hl; simp; omega), hk'⟩
  show (By x :: p.litBuf.drop 1).take 1 = Bys [x]
  rfl

theorem newlit_s_eof {w : World} {B pb rb : Nat} {ea : Addr} {q : Pc} {r : Int} {u : List UInt8} {lit : Option (List UInt8)} {k : Nat} (h : LexS w B pb rb ea q r u lit k) (hB : 0 < B) (hr : r = 1114112 ∨ r = 1114113) (hu : u.length ≤ 100000000) :
    Calls Tryf.prog 34 #[.pointer (some ⟨pb, 0, none⟩), .int .i32 r] w fun e w' => e = .returned (.tuple #[]) ∧ LexS w' B pb rb ea q r u (some []) k ∧ Kept [pb] w w' := by
  obtain ⟨p, hp, hr', hl, hb, hw, b1, b2, b3, hll, hup⟩ := h.relit hB
  refine (newlit_none hp r hr).mono ?_
  rintro e w' ⟨rfl, hp', hk'⟩
  exact ⟨rfl, hup w' _ p.litBuf (some []) hp' hk' (.inl ⟨rfl, by simp, rfl⟩) (fun l hl => by simp at hl; subst hl; simp; omega), hk'⟩

/-- What endLit answers. -/
def endOf (r : Int) (l : List UInt8) : List UInt8 := if r = 1114112 ∨ r = 1114113 then l else l.take (l.length - 1)

theorem endlit_s {w : World} {B pb rb : Nat} {ea : Addr} {q : Pc} {r : Int} {u l : List UInt8} {k : Nat} (h : LexS w B pb rb ea q r u (some l) k) (hB : 0 < B) (hr : (r = 1114112 ∨ r = 1114113) ∨ (0 < r ∧ r < 128 ∧ 0 < l.length)) :
    Calls Tryf.prog 37 #[.pointer (some ⟨pb, 0, none⟩)] w fun e w' => e = .returned (.string ⟨(endOf r l).toArray⟩) ∧ LexS w' B pb rb ea q r u none k ∧ Kept [pb] w w' := by
  obtain ⟨p, hp, hr', hl, hb, hw, b1, b2, b3, hll, hup⟩ := h.relit hB
  have fin : ∀ {w'}, PB w' pb { p with litBs := nilS } → Kept [pb] w w' → LexS w' B pb rb ea q r u none k := fun hp' hk' => hup _ _ p.litBuf none hp' hk' rfl (fun l hl => by cases hl)
  have hll' := hll l rfl
  rcases hr with hr | ⟨r1, r2, r3⟩
  · refine (endlit_all hp hl r hr' hr).mono ?_
    rintro e w' ⟨rfl, hp', hk'⟩
    exact ⟨by unfold endOf; rw [if_pos hr], fin hp' hk', hk'⟩
  · refine (endlit_one hp hl r hr' (by omega) (by omega) (hw r1 r2) r3 (by omega)).mono ?_
    rintro e w' ⟨rfl, hp', hk'⟩
    exact ⟨by unfold endOf; rw [if_neg (by omega)], fin hp' hk', hk'⟩
end Go.Proofs.YtnjaeooblfihbaaFmt
