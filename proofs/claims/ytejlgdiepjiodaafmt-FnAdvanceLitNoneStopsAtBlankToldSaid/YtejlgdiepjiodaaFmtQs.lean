/-
  n010_145: a fresh parser over a string reader, as a lexer at its start.
-/
import Derived.Test.YtejlgdiepjiodaaFmtSt
namespace Go.Proofs.YtejlgdiepjiodaaFmt
open Go.RowKit

theorem newreader_z (w : World) (s : ByteArray) (z : Nat) (hz : w.heap.size = z) :
    Calls Tryf.prog 27 #[.string s] w fun e w' => e = .returned (.pointer (some ⟨z, 0, none⟩)) ∧ w' = w.alloc (.cells #[.string s, .int .i64 0, .int .i64 (-1)] 69) := by
  subst hz
  go_enter Tryf.func27, Tryf.ntmps27
  go_wp2
  go_ret
  exact ⟨rfl, rfl⟩

def Pc.new2 : Pc := { Pc.zero with lang := .int .i64 1 }
set_option maxRecDepth 100000 in
theorem built_new2 : Tryf.prog.built 60 [(19, .int .i64 1)] = some Pc.new2.list.toArray := by kernel_rfl

theorem wpList_parser_new2 {w : World} {ops : Array Oper} {rest : List Oper} {o : Oper} {a : Act} {Q : Exit → Act → World → Prop} (hgd : o.guard = none)
    (ho : o.op = .build 60 #[(19, .const (.int .i64 1))]) (h : wpList Tryf.prog ops Q rest (a.put o.dst (.agg Pc.new2.list.toArray)) w) : wpList Tryf.prog ops Q (o :: rest) a w := by
  refine wpList_plain hgd fun K hK => ?_
  have e : (Tryf.prog.built 60 ((#[(19, .const (.int .i64 1))] : Array (Nat × Operand)).map fun (i, x) => (i, a.eval x)).toList) = some Pc.new2.list.toArray := by
    have e2 : ((#[(19, .const (.int .i64 1))] : Array (Nat × Operand)).map fun (i, x) => (i, a.eval x)).toList = [(19, .int .i64 1)] := by simp; rfl
    rw [e2]
    exact built_new2
  refine wp_build _ _ ho (by rw [e]; rfl) (hK _ _ ?_)
  rw [e]
  exact h

set_option maxRecDepth 100000 in
theorem newparser2 (w : World) (z : Nat) (hz : w.heap.size = z) :
    Calls Tryf.prog 26 #[.slice none 0 0] w fun e w' => e = .returned (.pointer (some ⟨z, 0, none⟩)) ∧ PB w' z Pc.new2 ∧ Kept [] w w' ∧ w'.heap.size = z + 1 := by
  subst hz
  go_enter Tryf.func26, Tryf.ntmps26
  go_wp2_with (refine wpList_parser_new2 rfl rfl ?_)
  refine wp_loop_once ?_
  go_wp2_with fail
  go_ret
  exact ⟨rfl, ⟨heap_alloc_new _ _, by simp [Pc.new2, Pc.zero], by simp [Pc.new2, Pc.zero]⟩, (Kept.refl _ _).alloc _, by simp⟩

/-- A fresh parser over a reader at rb. -/
def Pc.start (rb : Nat) (lang quote tok : Int) (hs : Value) : Pc := { Pc.new2 with src := .iface 38 (.pointer (some ⟨rb, 0, none⟩)), lang := .int .i64 lang, quote := .int .u32 quote, tok := .int .u32 tok, hdocStops := hs }

theorem fresh_lex {w w2 : World} {s : ByteArray} {pb rb B : Nat} {lang quote tok : Int} {hs : Value} {ea : Addr} (hg : w.cell? ⟨0, 0, none⟩ = some (EOFv ea)) (hk : Kept [] w w2) (hss : s.size < 10000000)
    (hp : PB w2 pb (Pc.start rb lang quote tok hs)) (hr : w2.heap[rb]? = some (.cells #[.string s, .int .i64 0, .int .i64 (-1)] 69 (0, 0))) (h1 : w.heap.size ≤ pb) (h2 : pb < rb) (h3 : rb < B) (h4 : B ≤ w2.heap.size) :
    LexS w2 B pb rb ea (Pc.start rb lang quote tok hs) 0 s.data.toList none 0 := by
  have hgl : 0 < w.heap.size := block_lt_of_cell hg
  have hsz : s.data.toList.length = s.size := rfl
  have hmd : Md w2 B pb rb ea (Pc.start rb lang quote tok hs) [] s.data.toList 0 0 s.data.toList := by
    refine ⟨{ hpb := hp, hsrc := rfl, hbs := .inr ⟨rfl, rfl⟩, hbuf := rfl, hfit := by simp, hbsp := rfl, hrd := ?_, hne := by omega, hlt := by omega, heof := (hk.cell (p := ⟨0, 0, none⟩) hgl (by simp)).trans hg, hg1 := by omega, hg2 := by omega }, .inl ⟨rfl, rfl⟩, rfl, by omega, by simp; omega, by simp, by simp⟩
    exact ⟨s, 0, -1, hr, by omega, by omega, by simp, by omega, h4, rfl⟩
  exact ⟨_, 0, 0, 0, rfl, rfl, rfl, rfl, rfl, rfl, by omega, by omega, fun h => by omega, by omega, by omega, by omega, by omega, by omega, by omega, h4, rfl, (fun l hl => by cases hl), .inl ⟨by decide, _, _, _, _, hmd⟩⟩
end Go.Proofs.YtejlgdiepjiodaaFmt
