/-
  n010_110: what fill, and the thin exports beside it, do to a lexer that has read no rune.
-/
import Derived.Test.YtpkgpkklgkpbfaaDoorLxNew
import Derived.Lib.ConvBytes
namespace Go.Proofs.YtpkgpkklgkpbfaaDoor
open Go.RowKit

/-- A lexer before its first rune; 'eof': the reader has reported its end. -/
def Fs (w : World) (B pb rb : Nat) (ea : Addr) (win rest : List UInt8) (bsp : Nat) (offs : Int) (eof : Bool) : Prop :=
  ∃ p, Lx w B pb rb ea p win rest bsp ∧ p.r = .int .i32 0 ∧ p.err = .nilIface ∧ p.offs = .int .i64 offs ∧ ((eof = false ∧ p.readEOF = .bool false ∧ p.readErr = .nilIface) ∨ (eof = true ∧ p.readEOF = .bool true ∧ rest = []))

theorem fs_go {w : World} {B pb rb : Nat} {ea : Addr} {win rest : List UInt8} {bsp : Nat} {offs : Int} (h : Fs w B pb rb ea win rest bsp offs false) (ho1 : 0 ≤ offs) (ho2 : offs < 1000000000) (hb : bsp ≤ win.length) (hl : win.length - bsp < 1024) (hrest : rest ≠ []) :
    Calls Tryd.prog 17 #[.pointer (some ⟨pb, 0, none⟩)] w fun e w' => e = .returned (.int .i64 (min (1024 - (win.length - bsp)) rest.length : Nat)) ∧
      Fs w' B pb rb ea (win.drop bsp ++ rest.take (1024 - (win.length - bsp))) (rest.drop (1024 - (win.length - bsp))) 0 (offs + bsp) false ∧ Kept [rb, pb] w w' := by
  obtain ⟨p, hlx, hr, he, ho, hend⟩ := h
  rcases hend with ⟨_, h1, h2⟩ | ⟨h, _⟩
  · refine (fill_go w B pb rb ea p win rest bsp 0 offs hlx hr (by decide) h1 h2 ho ho1 ho2 hb hl hrest).mono ?_
    rintro e w' ⟨rfl, ⟨b, hlx'⟩, hk⟩
    exact ⟨rfl, ⟨_, hlx', hr, he, rfl, .inl ⟨rfl, h1, rfl⟩⟩, hk⟩
  · cases h
theorem fs_end {w : World} {B pb rb : Nat} {ea : Addr} {win : List UInt8} {bsp : Nat} {offs : Int} (h : Fs w B pb rb ea win [] bsp offs false) (ho1 : 0 ≤ offs) (ho2 : offs < 1000000000) (hb : bsp ≤ win.length) (hl : win.length - bsp < 1024) :
    Calls Tryd.prog 17 #[.pointer (some ⟨pb, 0, none⟩)] w fun e w' => e = .returned (.int .i64 0) ∧ Fs w' B pb rb ea (win.drop bsp) [] 0 (offs + bsp) true ∧ Kept [rb, pb] w w' := by
  obtain ⟨p, hlx, hr, he, ho, hend⟩ := h
  rcases hend with ⟨_, h1, h2⟩ | ⟨h, _⟩
  · have core : Calls Tryd.prog 17 #[.pointer (some ⟨pb, 0, none⟩)] w (EofPost w B pb rb ea p win bsp offs false) := by
      by_cases h0 : win.length ≤ bsp
      · exact fill_eof_none w B pb rb ea p win [] bsp 0 offs hlx hr (by decide) h1 h2 ho ho1 ho2 hb hl rfl h0
      · exact fill_eof_left w B pb rb ea p win [] bsp 0 offs hlx hr (by decide) h1 h2 ho ho1 ho2 hb hl rfl (by omega)
    refine core.mono ?_
    rintro e w' ⟨rfl, ⟨b, hlx'⟩, hk⟩
    exact ⟨rfl, ⟨_, hlx', hr, he, rfl, .inr ⟨rfl, rfl, rfl⟩⟩, hk⟩
  · cases h
theorem fs_off {w : World} {B pb rb : Nat} {ea : Addr} {win rest : List UInt8} {bsp : Nat} {offs : Int} (h : Fs w B pb rb ea win rest bsp offs true) :
    Calls Tryd.prog 17 #[.pointer (some ⟨pb, 0, none⟩)] w fun e w' => e = .returned (.int .i64 0) ∧ w = w' := by
  obtain ⟨p, hlx, hr, he, ho, hend⟩ := h
  rcases hend with ⟨h, _⟩ | ⟨_, h1, _⟩
  · cases h
  · exact fill_off w pb p hlx.hpb h1

/-- The thin export of fill: as fill. -/
theorem zfill {w : World} {pb : Nat} {R : Ending → World → Prop} (h : Calls Tryd.prog 17 #[.pointer (some ⟨pb, 0, none⟩)] w fun e w' => ∃ v : Int, e = .returned (.int .i64 v) ∧ R e w') :
    Calls Tryd.prog 8 #[.pointer (some ⟨pb, 0, none⟩)] w R := by
  have H := Lib.hid h; clear h
  go_enter Tryd.func8, Tryd.ntmps8
  go_wp2_with fail
  refine H.out.mono ?_
  rintro e w1 ⟨v, rfl, hr⟩
  have HR := Lib.hid hr; clear hr
  go_wp2_with fail
  exact HR.out

theorem Fs.bs {w : World} {B pb rb : Nat} {ea : Addr} {win rest : List UInt8} {bsp : Nat} {offs : Int} {eof : Bool} (h : Fs w B pb rb ea win rest bsp offs eof) :
    ∃ A c, w.cell? ⟨pb, 1, none⟩ = some (.slice A win.length c) ∧ SrcB w A win.length win := by
  obtain ⟨p, hlx, _⟩ := h
  rw [hlx.hpb.c_bs]
  have hfit := hlx.hfit
  rcases hlx.hbs with h1 | ⟨h1, h2⟩
  · refine ⟨some ⟨pb, 39, none⟩, 1024, by rw [h1]; rfl, rfl, fun h0 => ⟨pb, 39, rfl, hlx.hpb.lt, fun j c hj => ?_⟩⟩
    have hlt : j < win.length := (List.getElem?_eq_some_iff.1 hj).1
    rw [hlx.hpb.buf j (by omega)]
    have e : p.readBuf[j]? = (p.readBuf.take win.length)[j]? := by rw [List.getElem?_take, if_pos hlt]
    rw [e, hlx.hbuf]
    simp [Bys, hj]
  · exact ⟨none, 0, by rw [h1, h2]; rfl, rfl, fun h0 => by rw [h2] at h0; simp at h0⟩

theorem zbs {w : World} {B pb rb : Nat} {ea : Addr} {win rest : List UInt8} {bsp : Nat} {offs : Int} {eof : Bool} (h : Fs w B pb rb ea win rest bsp offs eof) :
    Calls Tryd.prog 12 #[.pointer (some ⟨pb, 0, none⟩)] w fun e w' => ∃ A c, e = .returned (.slice A win.length c) ∧ SrcB w A win.length win ∧ w = w' := by
  obtain ⟨A, c, hc, hs⟩ := h.bs
  have HS := Lib.hid hs; clear hs h
  go_enter Tryd.func12, Tryd.ntmps12
  go_wp2_with fail
  go_ret
  exact ⟨A, c, rfl, HS.out, rfl⟩

theorem zbsp {w : World} {B pb rb : Nat} {ea : Addr} {win rest : List UInt8} {bsp : Nat} {offs : Int} {eof : Bool} (h : Fs w B pb rb ea win rest bsp offs eof) :
    Calls Tryd.prog 9 #[.pointer (some ⟨pb, 0, none⟩)] w fun e w' => e = .returned (.int .u64 bsp) ∧ w = w' := by
  have hc : w.cell? ⟨pb, 2, none⟩ = some (.int .u64 bsp) := by
    obtain ⟨p, hlx, _⟩ := h
    rw [hlx.hpb.c_bsp, hlx.hbsp]
  clear h
  go_enter Tryd.func9, Tryd.ntmps9
  go_wp2_with fail
  go_ret
  exact ⟨rfl, rfl⟩
theorem zoffs {w : World} {B pb rb : Nat} {ea : Addr} {win rest : List UInt8} {bsp : Nat} {offs : Int} {eof : Bool} (h : Fs w B pb rb ea win rest bsp offs eof) :
    Calls Tryd.prog 10 #[.pointer (some ⟨pb, 0, none⟩)] w fun e w' => e = .returned (.int .i64 offs) ∧ w = w' := by
  have hc : w.cell? ⟨pb, 12, none⟩ = some (.int .i64 offs) := by
    obtain ⟨p, hlx, _, _, ho, _⟩ := h
    rw [hlx.hpb.c_offs, ho]
  clear h
  go_enter Tryd.func10, Tryd.ntmps10
  go_wp2_with fail
  go_ret
  exact ⟨rfl, rfl⟩
theorem zerr {w : World} {B pb rb : Nat} {ea : Addr} {win rest : List UInt8} {bsp : Nat} {offs : Int} {eof : Bool} (h : Fs w B pb rb ea win rest bsp offs eof) :
    Calls Tryd.prog 13 #[.pointer (some ⟨pb, 0, none⟩)] w fun e w' => e = .returned (.bool false) ∧ w = w' := by
  have hc : w.cell? ⟨pb, 7, none⟩ = some .nilIface := by
    obtain ⟨p, hlx, _, he, _⟩ := h
    rw [hlx.hpb.c_err, he]
  clear h
  go_enter Tryd.func13, Tryd.ntmps13
  go_wp2_with fail
  go_ret
  exact ⟨rfl, rfl⟩
theorem zset {w : World} {B pb rb : Nat} {ea : Addr} {win rest : List UInt8} {bsp : Nat} {offs : Int} {eof : Bool} (h : Fs w B pb rb ea win rest bsp offs eof) (k : Nat) :
    Calls Tryd.prog 7 #[.pointer (some ⟨pb, 0, none⟩), .int .u64 k] w fun e w' => e = .returned (.tuple #[]) ∧ Fs w' B pb rb ea win rest k offs eof ∧ Kept [rb, pb] w w' := by
  obtain ⟨p, hlx, hr, he, ho, hend⟩ := h
  have hc := hlx.hpb.c_bsp
  have hf := hlx.hpb.frozen 2
  have HX := Lib.hid hlx
  have H1 := Lib.hid hr
  have H2 := Lib.hid he
  have H3 := Lib.hid ho
  have H4 := Lib.hid hend
  clear hlx hr he ho hend
  go_enter Tryd.func7, Tryd.ntmps7
  go_wp2_with fail
  go_end0
  have hk : Kept [pb] w (w.setCell ⟨pb, 2, none⟩ (.int .u64 k)) := (Kept.refl _ _).setCell (by simp) _
  refine ⟨rfl, ⟨_, { HX.out with hpb := HX.out.hpb.s_bsp _, hbsp := rfl, hrd := HX.out.hrd.kept hk (by simp) HX.out.hne, heof := ?_ }, H1.out, H2.out, H3.out, H4.out⟩, hk.weaken (by simp)⟩
  exact (hk.cell (p := ⟨0, 0, none⟩) (block_lt_of_cell HX.out.heof) (by have := HX.out.hg1; simp; omega)).trans HX.out.heof

/-- zzSameBytes at equal bytes. -/
theorem same_draws (w : World) (A : Option Addr) (n c : Nat) (s : ByteArray) (h : SrcB w A n s.data.toList) (hn : n < 100000000) :
    Calls Tryd.prog 11 #[.slice A n c, .string s] w fun e w' => e = .returned (.bool true) ∧ ∃ m, w' = w.drewN m := by
  have hl : s.size = n := h.1
  have hne : ((n : Int) != (s.size : Int)) = false := by rw [hl]; simp
  have HS := Lib.hid h
  have HL := Lib.hid hl
  clear h hl
  go_enter Tryd.func11, Tryd.ntmps11
  go_wp2
  go_loopw [5] (fun i wr => ∃ k : Nat, k ≤ n ∧ i = .int .i64 k ∧ Hid (∃ m, wr = w.drewN m)) (fun i _ => n - (intOf i).toNat)
  case atStart => exact ⟨0, Nat.zero_le _, rfl, 0, rfl⟩
  case round =>
    obtain ⟨k, hk, rfl, hkp⟩ := hrel
    by_cases hlt : k < n
    · obtain ⟨g, o, rfl, hg, hc⟩ := HS.out.2 (by omega)
      have hks : k < s.size := by rw [HL.out]; exact hlt
      have hcs : wr.cell? ⟨g, o + k, none⟩ = some (.int .u8 s[k].toNat) := by
        obtain ⟨m, rfl⟩ := hkp.out
        exact hc k s[k] (by simp [ByteArray.getElem_eq_getElem_data])
      have HC := Lib.hid hc; clear hc
      go_wp2
      go_quiet (fail)
      go_wp2
      go_roundw
      case rel => exact ⟨k + 1, by omega, by go_num, by obtain ⟨m, e⟩ := hkp.out; rw [e, World.drewN_drewN]; exact ⟨_, rfl⟩⟩
      case measure => simp [intOf]; omega
    · go_wp2
      go_ret
      exact ⟨rfl, hkp.out⟩
theorem same_yes (w : World) (A : Option Addr) (n c : Nat) (s : ByteArray) (h : SrcB w A n s.data.toList) (hn : n < 100000000) :
    Calls Tryd.prog 11 #[.slice A n c, .string s] w fun e w' => e = .returned (.bool true) ∧ Kept [] w w' := by
  refine (same_draws w A n c s h hn).mono ?_
  rintro e w' ⟨rfl, m, rfl⟩
  exact ⟨rfl, (Kept.refl _ _).drewN _⟩
theorem zbs_at {w : World} {pb : Nat} {v : Value} (hc : w.cell? ⟨pb, 1, none⟩ = some v) :
    Calls Tryd.prog 12 #[.pointer (some ⟨pb, 0, none⟩)] w fun e w' => e = .returned v ∧ w' = w := by
  go_enter Tryd.func12, Tryd.ntmps12
  go_wp2_with fail
  go_ret
  exact ⟨rfl, rfl⟩
end Go.Proofs.YtpkgpkklgkpbfaaDoor
