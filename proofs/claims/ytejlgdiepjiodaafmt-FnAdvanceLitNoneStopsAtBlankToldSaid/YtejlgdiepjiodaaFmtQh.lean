/-
  advanceLitHdoc on plain bytes: the body up to its stop word.
-/
import Derived.Test.YtejlgdiepjiodaaFmtQg
import Derived.Deep.LoopGhost
namespace Go.Proofs.YtejlgdiepjiodaaFmt
open Go.RowKit

/-- The head of a round. -/
def HdI (w0 w : World) (B pb rb hb sb c : Nat) (ea : Addr) (q : Pc) (stop : List UInt8) (F : Int × List UInt8 × Int × Bool) (n ls : Nat) (a : Int) : Prop :=
  Kr B pb rb w0 w ∧ HsAt w B pb rb hb sb c stop ∧ ∃ done line u, HdS w B pb rb ea q (some (done ++ line)) u a ∧ F = hdF stop done line u ∧ hdOk stop line u ∧ n = u.length ∧ ls = done.length

/-- What is left: the parser's token, value, rune; the stop word's entry. -/
def HdPost (w0 w : World) (B pb rb hb sb c : Nat) (q : Pc) (stop : List UInt8) (F : Int × List UInt8 × Int × Bool) : Prop :=
  Hid ((∃ S, Kept S w0 w ∧ ∀ x ∈ S, x = pb ∨ x = rb ∨ x = hb ∨ B ≤ x) ∧ (∃ p, PB w pb p ∧ p.tok = .int .u32 F.1 ∧ p.val = .string ⟨F.2.1.toArray⟩ ∧ p.r = .int .i32 F.2.2.1 ∧ p.hdocStops = q.hdocStops) ∧
    w.cell? ⟨hb, 0, none⟩ = some (if F.2.2.2 then .slice none 0 0 else .slice (some ⟨sb, 0, none⟩) stop.length c))


/-- What a walk asks of the parser in the body. -/
theorem LexS.facts {w : World} {B pb rb : Nat} {ea : Addr} {q : Pc} {r : Int} {u l : List UInt8} {k : Nat} (h : LexS w B pb rb ea q r u (some l) k) (hB : 0 < B) :
    ∃ p g o cc, PB w pb p ∧ w.cell? ⟨pb, 10, none⟩ = some q.tok ∧ w.cell? ⟨pb, 11, none⟩ = some q.val ∧ w.cell? ⟨pb, 17, none⟩ = some q.quote ∧ w.cell? ⟨pb, 20, none⟩ = some q.lang ∧ w.cell? ⟨pb, 27, none⟩ = some q.hdocStops ∧ w.cell? ⟨pb, 28, none⟩ = some q.parsingDoc ∧ w.cell? ⟨pb, 30, none⟩ = some (.int .i64 0) ∧
      w.cell? ⟨pb, 2087, none⟩ = some (.slice (some ⟨g, o, none⟩) l.length cc) ∧ l.length ≤ cc ∧ (∀ j x, l[j]? = some x → w.cell? ⟨g, o + j, none⟩ = some (By x)) ∧ l.length + u.length ≤ 1000000000 ∧ p.tok = q.tok ∧ p.val = q.val ∧ p.hdocStops = q.hdocStops ∧ p.r = .int .i32 r := by
  obtain ⟨p, _, _, _, _, _, hp, hb, hob, hlt, _⟩ := h.mark hB
  obtain ⟨p2, hp2, hr2, _, _, _, _, _, _, hll, _⟩ := h.relit hB
  obtain ⟨g, o, cc, h1, h2, h3⟩ := hlt.cells hp
  have e10 : p.tok = q.tok := by have := congrArg Pc.tok hb; exact this
  have e11 : p.val = q.val := by have := congrArg Pc.val hb; exact this
  have e17 : p.quote = q.quote := by have := congrArg Pc.quote hb; exact this
  have e20 : p.lang = q.lang := by have := congrArg Pc.lang hb; exact this
  have e27 : p.hdocStops = q.hdocStops := by have := congrArg Pc.hdocStops hb; exact this
  have e28 : p.parsingDoc = q.parsingDoc := by have := congrArg Pc.parsingDoc hb; exact this
  refine ⟨p, g, o, cc, hp, by rw [hp.c_tok, e10], by rw [hp.c_val, e11], by rw [hp.c_quote, e17], by rw [hp.c_lang, e20], by rw [hp.c_hdocStops, e27], by rw [hp.c_parsingDoc, e28], by rw [hp.c_openBquotes, hob], by rw [hp.c_litBs, h1], h2, fun j x hj => by rw [← h3 j x hj, addr_add], hll l rfl, e10, e11, e27, ?_⟩
  have := hp2.c_r
  rw [hp.c_r, hr2] at this
  exact Option.some.inj this

theorem LexS.kept0 {w w' : World} {B pb rb : Nat} {ea : Addr} {q : Pc} {r : Int} {u : List UInt8} {lit : Option (List UInt8)} {k : Nat} (h : LexS w B pb rb ea q r u lit k) (hB : 0 < B) (kp : Kept [] w w') : LexS w' B pb rb ea q r u lit k := by
  obtain ⟨p, _, _, _, _, _, hp, hb, _, _, _, hm⟩ := h.mark hB
  have e10 : p.tok = q.tok := by have := congrArg Pc.tok hb; exact this
  have e11 : p.val = q.val := by have := congrArg Pc.val hb; exact this
  have e15 : p.pos1 = q.pos1 := by have := congrArg Pc.pos1 hb; exact this
  have e16 : p.pos2 = q.pos2 := by have := congrArg Pc.pos2 hb; exact this
  have := hm w' p.tok p.val p.pos1 p.pos2 (hp.kept kp (by simp)) (kp.weaken (by simp))
  rw [e10, e11, e15, e16] at this
  exact this
theorem LexS.s_tok {w : World} {B pb rb : Nat} {ea : Addr} {q : Pc} {r : Int} {u : List UInt8} {lit : Option (List UInt8)} {k : Nat} (h : LexS w B pb rb ea q r u lit k) (hB : 0 < B) (v : Value) : LexS (w.setCell ⟨pb, 10, none⟩ v) B pb rb ea { q with tok := v } r u lit k := by
  obtain ⟨p, _, _, _, _, _, hp, hb, _, _, _, hm⟩ := h.mark hB
  have e11 : p.val = q.val := by have := congrArg Pc.val hb; exact this
  have e15 : p.pos1 = q.pos1 := by have := congrArg Pc.pos1 hb; exact this
  have e16 : p.pos2 = q.pos2 := by have := congrArg Pc.pos2 hb; exact this
  have := hm (w.setCell ⟨pb, 10, none⟩ v) v p.val p.pos1 p.pos2 (hp.s_tok v) ((Kept.refl _ _).setCell (by simp) _)
  rw [e11, e15, e16] at this
  exact this
theorem HdS.kept0 {w w' : World} {B pb rb : Nat} {ea : Addr} {q : Pc} {lit : Option (List UInt8)} {u : List UInt8} {a : Int} (h : HdS w B pb rb ea q lit u a) (hB : 0 < B) (kp : Kept [] w w') : HdS w' B pb rb ea q lit u a := by
  rcases h with ⟨h1, h2, h⟩ | ⟨x, t, h1, h2, h3, h, h5⟩
  · exact .inl ⟨h1, h2, h.kept0 hB kp⟩
  · refine .inr ⟨x, t, h1, h2, h3, h.kept0 hB kp, fun e => ?_⟩
    have := h5 e
    exact (kp.cell (p := ⟨pb, 32, none⟩) (block_lt_of_cell this) (by simp)).trans this

theorem endOf_snoc {r : Int} (L : List UInt8) (x : UInt8) (h : r ≠ 1114112) (h2 : r ≠ 1114113) : endOf r (L ++ [x]) = L := by
  unfold endOf
  rw [if_neg (by simp [h, h2])]
  simp

theorem Kr.kh {B pb rb hb : Nat} {w w' : World} (h : Kr B pb rb w w') : ∃ S, Kept S w w' ∧ ∀ x ∈ S, x = pb ∨ x = rb ∨ x = hb ∨ B ≤ x := by
  obtain ⟨S, k, hS⟩ := h
  exact ⟨S, k, fun x hx => by rcases hS x hx with h | h | h <;> simp [h]⟩

theorem HdPost.drewN {w0 w : World} {B pb rb hb sb c : Nat} {q : Pc} {stop : List UInt8} {F : Int × List UInt8 × Int × Bool} (h : HdPost w0 w B pb rb hb sb c q stop F) (n : Nat) : HdPost w0 (w.drewN n) B pb rb hb sb c q stop F := by
  obtain ⟨⟨S, k, hS⟩, ⟨p, hp, h1, h2, h3, h4⟩, h5⟩ := h.out
  exact Lib.hid ⟨⟨S, k.drewN n, hS⟩, ⟨p, hp.drewN n, h1, h2, h3, h4⟩, h5⟩

/-- The stop word was not met: the entry is as it was. -/
theorem hd_open {w0 w : World} {B pb rb hb sb c : Nat} {q : Pc} {stop : List UInt8} {F : Int × List UInt8 × Int × Bool} {p : Pc} (hkr : Kr B pb rb w0 w) (hs : HsAt w B pb rb hb sb c stop) (hp : PB w pb p) (h1 : p.tok = .int .u32 F.1) (h2 : p.val = .string ⟨F.2.1.toArray⟩) (h3 : p.r = .int .i32 F.2.2.1) (h4 : p.hdocStops = q.hdocStops) (h5 : F.2.2.2 = false) : HdPost w0 w B pb rb hb sb c q stop F :=
  Lib.hid ⟨hkr.kh, ⟨p, hp, h1, h2, h3, h4⟩, by rw [h5]; exact hs.cell⟩

/-- The stop word was met: the entry is cleared. -/
theorem hd_found {w0 w W : World} {B pb rb hb sb c : Nat} {q : Pc} {stop : List UInt8} {F : Int × List UInt8 × Int × Bool} (hkr : Kr B pb rb w0 w) (hs : HsAt w B pb rb hb sb c stop) (kW : Kept [pb] w W) {pW : Pc} (hpW : PB W pb pW) (h1 : pW.tok = .int .u32 F.1) (h2 : pW.val = .string ⟨F.2.1.toArray⟩) (h3 : pW.r = .int .i32 F.2.2.1) (h4 : pW.hdocStops = q.hdocStops) (h5 : F.2.2.2 = true) : HdPost w0 (W.setCell ⟨hb, 0, none⟩ (.slice none 0 0)) B pb rb hb sb c q stop F := by
  have hsW := hs.kept (Kr.of kW (by simp))
  have kH : Kept [hb] W (W.setCell ⟨hb, 0, none⟩ (.slice none 0 0)) := (Kept.refl _ _).setCell (p := ⟨hb, 0, none⟩) (by simp) _
  obtain ⟨S, k, hS⟩ := hkr
  refine Lib.hid ⟨⟨S ++ [pb, hb], (k.weaken (fun x hx => .inl (List.mem_append.2 (.inl hx)))).trans ((kW.weaken (S' := S ++ [pb, hb]) (fun x hx => .inl (by simp at hx; simp [hx]))).trans (kH.weaken (fun x hx => .inl (by simp at hx; simp [hx])))), fun x hx => ?_⟩, ⟨pW, hpW.kept kH (by simp; exact fun e => hs.h1.2.1 e.symm), h1, h2, h3, h4⟩, ?_⟩
  · rcases List.mem_append.1 hx with h | h
    · rcases hS x h with h | h | h <;> simp [h]
    · simp at h; rcases h with h | h <;> simp [h]
  · rw [h5]
    have := heap_setCell_same W hb 0 _ _ (.slice none 0 0) hsW.row
    exact row_cell (L := [.slice none 0 0]) (by simpa using this) 0

theorem HdPost.drew {w0 w : World} {B pb rb hb sb c : Nat} {q : Pc} {stop : List UInt8} {F : Int × List UInt8 × Int × Bool} (h : HdPost w0 w B pb rb hb sb c q stop F) : HdPost w0 w.drew B pb rb hb sb c q stop F := h.drewN 1

/-- Behind endLit, the stop word having been met. -/
theorem hd_close {w w4 : World} {B pb rb hb sb c : Nat} {ea : Addr} {q q4 : Pc} {stop done t : List UInt8} {F : Int × List UInt8 × Int × Bool} {r : Int} {k : Nat} {D : ByteArray} (hkr : Kr B pb rb w w4) (hs : HsAt w4 B pb rb hb sb c stop) (hl : LexS w4 B pb rb ea q4 r t none k) (hB : 0 < B) (h27 : q4.hdocStops = q.hdocStops) (h10 : q4.tok = .int .u32 4) (hF : F = (if done = [] then 2 else 4, done, r, true)) (hD : D = ⟨done.toArray⟩) :
    (D.toList.isEmpty = true → HdPost w (((w4.setCell ⟨pb, 11, none⟩ (.string D)).setCell ⟨pb, 10, none⟩ (.int .u32 2)).setCell ⟨hb, 0, none⟩ (.slice none 0 0)) B pb rb hb sb c q stop F) ∧
    (D.toList.isEmpty = false → HdPost w ((w4.setCell ⟨pb, 11, none⟩ (.string D)).setCell ⟨hb, 0, none⟩ (.slice none 0 0)) B pb rb hb sb c q stop F) := by
  obtain ⟨p, _, _, _, _, _, hp, hb0, _⟩ := hl.mark hB
  obtain ⟨p2, hp2, hr2, _⟩ := hl.relit hB
  have hr : p.r = .int .i32 r := by
    have := hp2.c_r
    rw [hp.c_r, hr2] at this
    exact Option.some.inj this
  have e10 : p.tok = .int .u32 4 := by have := congrArg Pc.tok hb0; exact (show p.tok = q4.tok from this).trans h10
  have e27 : p.hdocStops = q.hdocStops := by have := congrArg Pc.hdocStops hb0; exact (show p.hdocStops = q4.hdocStops from this).trans h27
  have hde : D.toList.isEmpty = decide (done = []) := by
    rw [hD, ByteArray.toList_mk]
    cases done <;> simp
  constructor
  · intro h
    rw [hde] at h
    have h0 : done = [] := of_decide_eq_true h
    rw [if_pos h0] at hF
    exact hd_found hkr hs (((Kept.refl [pb] _).setCell (p := ⟨pb, 11, none⟩) (by simp) _).setCell (p := ⟨pb, 10, none⟩) (by simp) _) ((hp.s_val _).s_tok _) (by rw [hF]) (by rw [hF, hD]) (by rw [hF]; exact hr) e27 (by rw [hF])
  · intro h
    rw [hde] at h
    have h0 : ¬ done = [] := of_decide_eq_false h
    rw [if_neg h0] at hF
    exact hd_found hkr hs ((Kept.refl [pb] _).setCell (p := ⟨pb, 11, none⟩) (by simp) _) (hp.s_val _) (by rw [hF]; exact e10) (by rw [hF, hD]) (by rw [hF]; exact hr) e27 (by rw [hF])

/-- A literal ended ahead of the stop word. -/
theorem hd_stop {w w4 : World} {B pb rb hb sb c : Nat} {ea : Addr} {q q4 : Pc} {stop V t : List UInt8} {F : Int × List UInt8 × Int × Bool} {r : Int} {k : Nat} (hkr : Kr B pb rb w w4) (hs : HsAt w4 B pb rb hb sb c stop) (hl : LexS w4 B pb rb ea q4 r t none k) (hB : 0 < B) (h27 : q4.hdocStops = q.hdocStops) (h10 : q4.tok = .int .u32 3) (hF : F = (3, V, r, false)) :
    HdPost w (w4.setCell ⟨pb, 11, none⟩ (.string ⟨V.toArray⟩)) B pb rb hb sb c q stop F := by
  obtain ⟨p, _, _, _, _, _, hp, hb0, _⟩ := hl.mark hB
  obtain ⟨p2, hp2, hr2, _⟩ := hl.relit hB
  have hr : p.r = .int .i32 r := by
    have := hp2.c_r
    rw [hp.c_r, hr2] at this
    exact Option.some.inj this
  have e10 : p.tok = .int .u32 3 := by have := congrArg Pc.tok hb0; exact (show p.tok = q4.tok from this).trans h10
  have e27 : p.hdocStops = q.hdocStops := by have := congrArg Pc.hdocStops hb0; exact (show p.hdocStops = q4.hdocStops from this).trans h27
  have kW : Kr B pb rb w4 (w4.setCell ⟨pb, 11, none⟩ (.string ⟨V.toArray⟩)) := Kr.of ((Kept.refl [pb] _).setCell (p := ⟨pb, 11, none⟩) (by simp) _) (by simp)
  exact hd_open (hkr.trans kW) (hs.kept kW) (hp.s_val _) (by rw [hF]; exact e10) (by rw [hF]) (by rw [hF]; exact hr) e27 (by rw [hF])

/-- The end of the input, the stop word not having been met. -/
theorem hd_lost {w w4 : World} {B pb rb hb sb c : Nat} {ea : Addr} {q q4 : Pc} {stop l : List UInt8} {F : Int × List UInt8 × Int × Bool} {k : Nat} (hkr : Kr B pb rb w w4) (hs : HsAt w4 B pb rb hb sb c stop) (hl : LexS w4 B pb rb ea q4 1114112 [] (some l) k) (hB : 0 < B) (h27 : q4.hdocStops = q.hdocStops) (h10 : q4.tok = .int .u32 3) (h11 : q4.val = .string ⟨#[]⟩) (hF : F = (3, [], 1114112, false)) :
    HdPost w w4 B pb rb hb sb c q stop F := by
  obtain ⟨p, g, o, cc, hp, _, _, _, _, _, _, _, _, _, _, _, r10, r11, r27, rr⟩ := hl.facts hB
  exact hd_open hkr hs hp (by rw [hF, r10, h10]) (by rw [hF, r11, h11]) (by rw [hF]; exact rr) (r27.trans h27) (by rw [hF])

/-- The line against the stop word. -/
theorem hd_equal {w : World} {B pb rb hb sb c : Nat} {stop line : List UInt8} (hs : HsAt w B pb rb hb sb c stop) (b : Bool) (hb : decide (line = stop) = b) (A : Option Addr) (n cc : Nat) (h : SrcB w A n line) :
    Calls Tryf.prog 48 #[.slice A n cc, .slice (some ⟨sb, 0, none⟩) stop.length c] w fun e w' => e = .returned (.bool b) ∧ w = w' := by
  have := equal_any (c := cc) (d := c) h hs.src
  rw [hb] at this
  exact this

theorem ext_take {l : List UInt8} {n : Nat} : (⟨l.toArray⟩ : ByteArray).extract 0 n = ⟨(l.take n).toArray⟩ := by
  apply ByteArray.ext
  apply Array.toList_inj.1
  rw [ext_list]
  simp

/-- Where a line lies. -/
theorem line_src {w : World} {g o ls n : Nat} {L line : List UInt8} {A : Option Addr} (h : ∀ j x, L[j]? = some x → w.cell? ⟨g, o + j, none⟩ = some (By x)) (hL : ∀ j x, line[j]? = some x → L[ls + j]? = some x) (hn : line.length = n) (hA : n = 0 ∨ A = some ⟨g, o + ls, none⟩) : SrcB w A n line := by
  refine ⟨hn, fun h0 => ?_⟩
  rcases hA with hA | hA
  · omega
  · have hl : 0 < line.length := by omega
    refine ⟨g, o + ls, hA, block_lt_of_cell (h (ls + 0) _ (hL 0 line[0] (List.getElem?_eq_getElem hl))), fun j x hj => ?_⟩
    rw [Nat.add_assoc]
    exact h (ls + j) x (hL j x hj)
end Go.Proofs.YtejlgdiepjiodaaFmt
