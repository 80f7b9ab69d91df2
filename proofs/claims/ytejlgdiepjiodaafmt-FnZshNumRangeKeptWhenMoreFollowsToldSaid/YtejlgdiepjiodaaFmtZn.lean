/-
  n010_145: a fresh zsh parser over a string that begins with '<': what zshNumRange answers behind the first rune.
-/
import Derived.Test.YtejlgdiepjiodaaFmtRx
import Derived.Test.YtejlgdiepjiodaaFmtZsh
namespace Go.Proofs.YtejlgdiepjiodaaFmt
open Go.RowKit

theorem newreader (w : World) (s : ByteArray) :
    Calls Tryf.prog 27 #[.string s] w fun e w' => e = .returned (.pointer (some ⟨w.heap.size, 0, none⟩)) ∧ w' = w.alloc (.cells #[.string s, .int .i64 0, .int .i64 (-1)] 69) := by
  go_enter Tryf.func27, Tryf.ntmps27
  go_wp2
  go_ret
  exact ⟨rfl, rfl⟩

def Pc.new : Pc := { Pc.zero with lang := .int .i64 1 }
set_option maxRecDepth 100000 in
theorem built_new : Tryf.prog.built 60 [(19, .int .i64 1)] = some Pc.new.list.toArray := by kernel_rfl

theorem wpList_parser_new {w : World} {ops : Array Oper} {rest : List Oper} {o : Oper} {a : Act} {Q : Exit → Act → World → Prop} (hgd : o.guard = none)
    (ho : o.op = .build 60 #[(19, .const (.int .i64 1))]) (h : wpList Tryf.prog ops Q rest (a.put o.dst (.agg Pc.new.list.toArray)) w) : wpList Tryf.prog ops Q (o :: rest) a w := by
  refine wpList_plain hgd fun K hK => ?_
  have e : (Tryf.prog.built 60 ((#[(19, .const (.int .i64 1))] : Array (Nat × Operand)).map fun (i, x) => (i, a.eval x)).toList) = some Pc.new.list.toArray := by
    have e2 : ((#[(19, .const (.int .i64 1))] : Array (Nat × Operand)).map fun (i, x) => (i, a.eval x)).toList = [(19, .int .i64 1)] := by simp; rfl
    rw [e2]
    exact built_new
  refine wp_build _ _ ho (by rw [e]; rfl) (hK _ _ ?_)
  rw [e]
  exact h

set_option maxRecDepth 100000 in
theorem newparser (w : World) :
    Calls Tryf.prog 26 #[.slice none 0 0] w fun e w' => e = .returned (.pointer (some ⟨w.heap.size, 0, none⟩)) ∧ PB w' w.heap.size Pc.new ∧ Kept [] w w' ∧ w'.heap.size = w.heap.size + 1 := by
  go_enter Tryf.func26, Tryf.ntmps26
  go_wp2_with (refine wpList_parser_new rfl rfl ?_)
  refine wp_loop_once ?_
  go_wp2_with fail
  go_ret
  exact ⟨rfl, ⟨heap_alloc_new _ _, by simp [Pc.new, Pc.zero], by simp [Pc.new, Pc.zero]⟩, (Kept.refl _ _).alloc _, by simp⟩

/-- A fresh parser at pb over a reader at pb + 1. -/
def Pc.fresh (pb : Nat) (lang : Int) (quote : Int) : Pc := { Pc.new with src := .iface 38 (.pointer (some ⟨pb + 1, 0, none⟩)), lang := .int .i64 lang, quote := .int .u32 quote }

theorem fresh_md {w w1 w2 : World} {s : ByteArray} {lang quote : Int} {ea : Addr} (hg : w.cell? ⟨0, 0, none⟩ = some (EOFv ea)) (hk1 : Kept [] w w1) (hs : s.size < 10000000)
    (hp : PB w2 w.heap.size (Pc.fresh w.heap.size lang quote)) (hr : w2.heap[w.heap.size + 1]? = some (.cells #[.string s, .int .i64 0, .int .i64 (-1)] 69 (0, 0))) (hk : Kept [w.heap.size] w1 w2) (hz2 : w.heap.size + 2 ≤ w2.heap.size) :
    Md w2 (w.heap.size + 2) w.heap.size (w.heap.size + 1) ea (Pc.fresh w.heap.size lang quote) [] s.data.toList 0 0 s.data.toList := by
  have hgl : 0 < w.heap.size := block_lt_of_cell hg
  have hk3 : Kept [w.heap.size] w w2 := (hk1.weaken (by simp)).trans hk
  have hsz : s.data.toList.length = s.size := rfl
  refine ⟨{ hpb := hp, hsrc := rfl, hbs := .inr ⟨rfl, rfl⟩, hbuf := rfl, hfit := by simp, hbsp := rfl, hrd := ?_, hne := by omega, hlt := by omega, heof := (hk3.cell (p := ⟨0, 0, none⟩) hgl (by simp; omega)).trans hg, hg1 := by omega, hg2 := by omega }, .inl ⟨rfl, rfl⟩, rfl, by omega, by simp; omega, by simp, by simp⟩
  exact ⟨s, 0, -1, hr, by omega, by omega, by simp, by omega, hz2, rfl⟩

theorem zsh_tail {w : World} {B pb rb : Nat} {ea : Addr} {p : Pc} {t : List UInt8} {ln col : Int} {w0 : World}
    (h : ∃ p' win' rest' bsp' offs', Md w B pb rb ea p' win' rest' bsp' offs' t ∧ win'.length - bsp' + 1 = min 1024 (t.length + 1) ∧ p'.core = (p.ran (60 : UInt8).toNat 1 ln col).core ∧ Lt w B pb p' (none.map (· ++ [60])) ∧ Kr B pb rb w0 w) :
    Calls Tryf.prog 29 #[.pointer (some ⟨pb, 0, none⟩)] w fun e w' => e = .returned (.bool (zshM (t.take 1023))) ∧ Kept [rb, pb] w w' := by
  obtain ⟨p', win', rest', bsp', offs', h1, hl, hc, _, _⟩ := h
  have hb := h1.hb
  have hr : p'.r = .int .i32 60 := congrArg Pc.r hc
  by_cases ht : t = []
  · refine (zsh_nil h1 60 hr (by decide) ht).mono ?_
    rintro e w' ⟨rfl, hk⟩
    rw [ht]
    exact ⟨rfl, hk⟩
  · have hpos : 0 < t.length := List.length_pos_iff.2 ht
    refine (zsh_in h1 (by omega)).mono ?_
    rintro e w' ⟨rfl, hk⟩
    have e1 : win'.drop bsp' = t.take 1023 := by
      have hst := h1.hst
      have hln := h1.len
      have e2 : (win'.drop bsp').length = win'.length - bsp' := by simp
      rw [← hst]
      by_cases h2 : t.length ≤ 1023
      · have : rest' = [] := List.eq_nil_of_length_eq_zero (by omega)
        rw [this, List.append_nil, List.take_of_length_le (by omega)]
      · rw [List.take_append_of_le_length (by omega), List.take_of_length_le (by omega)]
    rw [e1]
    exact ⟨rfl, hk.weaken (by simp)⟩

set_option maxRecDepth 100000 in
set_option maxHeartbeats 800000 in
theorem zsh_after (w : World) (s : ByteArray) (ea : Addr) (t : List UInt8) (hst : s.data.toList = 60 :: t) (hs : s.size < 10000000) (hg : w.cell? ⟨0, 0, none⟩ = some (EOFv ea)) :
    Calls Tryf.prog 10 #[.string s] w fun e w' => e = .returned (.bool (zshM (t.take 1023))) ∧ Kept [] w w' := by
  have HG := Lib.hid hg
  have HST := Lib.hid hst
  clear hg hst
  go_enter Tryf.func10, Tryf.ntmps10
  go_wp2_with (go_at_call 26; refine (newparser _).mono ?_; rintro e w1 ⟨rfl, hp1, hk1, hz1⟩; refine Hid.out ?_)
  refine Lib.hid ?_
  have HP1 := Lib.hid hp1
  have HK1 := Lib.hid hk1
  have HZ1 := Lib.hid hz1
  have c0 := hp1.c_src
  have c17 := hp1.c_quote
  have c20 := hp1.c_lang
  have hf := hp1.frozen
  have hlt : w.heap.size < w1.heap.size := by omega
  clear hp1 hk1 hz1
  obtain ⟨W2, hW2⟩ : ∃ W2, W2 = (((w1.setCell ⟨w.heap.size, 0, none⟩ (.iface 38 (.pointer (some ⟨w1.heap.size, 0, none⟩)))).setCell ⟨w.heap.size, 20, none⟩ (.int .i64 16)).setCell ⟨w.heap.size, 17, none⟩ (.int .u32 1)).alloc (.cells #[.string s, .int .i64 0, .int .i64 (-1)] 69) := ⟨_, rfl⟩
  have hka : Kept [w.heap.size] w1 W2 := by rw [hW2]; exact ((((Kept.refl _ _).setCell (by simp) _).setCell (by simp) _).setCell (by simp) _).alloc _
  have hp2 : PB W2 w.heap.size (Pc.fresh w.heap.size 16 1) := by
    rw [hW2]
    have := (((HP1.out.s_src (.iface 38 (.pointer (some ⟨w1.heap.size, 0, none⟩)))).s_lang (.int .i64 16)).s_quote (.int .u32 1)).kept (S := []) ((Kept.refl _ _).alloc (.cells #[.string s, .int .i64 0, .int .i64 (-1)] 69)) (by simp)
    rw [HZ1.out] at this ⊢
    exact this
  have hr2 : W2.heap[w.heap.size + 1]? = some (.cells #[.string s, .int .i64 0, .int .i64 (-1)] 69 (0, 0)) := by
    rw [hW2, ← HZ1.out]
    have := heap_alloc_new (((w1.setCell ⟨w.heap.size, 0, none⟩ (.iface 38 (.pointer (some ⟨w1.heap.size, 0, none⟩)))).setCell ⟨w.heap.size, 20, none⟩ (.int .i64 16)).setCell ⟨w.heap.size, 17, none⟩ (.int .u32 1)) (.cells #[.string s, .int .i64 0, .int .i64 (-1)] 69)
    simpa using this
  have hz2 : w.heap.size + 2 ≤ W2.heap.size := heap_lt hr2
  have md := fresh_md HG.out HK1.out hs hp2 hr2 hka hz2
  have hgl : 0 < w.heap.size := block_lt_of_cell HG.out
  have hx0 : s.data.toList[0]? = some 60 := by rw [HST.out]; rfl
  have hrun := rune_plain_win md (by omega) 0 0 0 0 rfl (by decide) rfl (by omega) (by omega) rfl (by omega) (by omega) rfl (by omega) (by omega) none rfl (fun l hl => by cases hl) (by simp) 60 hx0 (by decide) (by decide) (by decide) (by decide)
  have hlen : s.data.toList.length = t.length + 1 := by rw [HST.out]; rfl
  have hd1 : s.data.toList.drop 1 = t := by rw [HST.out]; rfl
  rw [hd1, hlen] at hrun
  have hkw : Kept [w.heap.size] w W2 := (HK1.out.weaken (by simp)).trans hka
  have HRUN := Lib.hid hrun; have HW2 := Lib.hid hW2; have HKW := Lib.hid hkw
  clear hrun hW2 hka hp2 hr2 md hx0 hlen hd1 hkw
  go_wp2_with (first | (go_at_call 27; refine (newreader _ _).mono ?_; rintro e w2 ⟨rfl, rfl⟩) | (go_at_call 28; rw [← HW2.out]; refine HRUN.out.mono ?_; rintro e W3 ⟨rfl, hpost⟩; dsimp only; have HPOST := Lib.hid hpost; clear hpost) | (go_at_call 29; refine Calls.mono (R := fun e w' => e = .returned (.bool (zshM (t.take 1023))) ∧ Kept [w.heap.size + 1, w.heap.size] W3 w') (zsh_tail HPOST.out) ?_; rintro e W4 ⟨rfl, hk4⟩; have HK4 := Lib.hid hk4; clear hk4))
  go_ret
  obtain ⟨p', win', rest', bsp', offs', _, _, _, _, S, hk, hS⟩ := HPOST.out
  refine ⟨rfl, ((HKW.out.weaken (S' := S ++ [w.heap.size + 1, w.heap.size]) (by simp)).trans ((hk.weaken (S' := S ++ [w.heap.size + 1, w.heap.size]) (fun k hk => .inl (List.mem_append.2 (.inl hk)))).trans (HK4.out.weaken (fun k hk => .inl (List.mem_append.2 (.inr hk)))))).weaken (fun k hk => .inr ?_)⟩
  rcases List.mem_append.1 hk with h | h
  · rcases hS k h with h | h | h <;> omega
  · simp at h; omega
end Go.Proofs.YtejlgdiepjiodaaFmt
