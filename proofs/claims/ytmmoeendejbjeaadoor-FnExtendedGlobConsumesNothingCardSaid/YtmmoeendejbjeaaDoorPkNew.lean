/-
  n010_87's constructor: a parser in the middle of its input.
-/
import Derived.Test.YtmmoeendejbjeaaDoorByt
import Derived.Test.YtmmoeendejbjeaaDoorLexE
namespace Go.Proofs.YtmmoeendejbjeaaDoor
open Go.RowKit

theorem rd_built (A : Option Addr) (n c : Nat) : Tryd.prog.built 62 [(0, .slice A n c), (1, .int .i64 0), (2, .int .i64 (-1))] = some #[.slice A n c, .int .i64 0, .int .i64 (-1)] := by kernel_rfl

theorem newreader (w : World) (A : Option Addr) (n c : Nat) :
    Calls Tryd.prog 23 #[.slice A n c] w fun e w' => e = .returned (.pointer (some ⟨w.heap.size, 0, none⟩)) ∧ w' = w.alloc (.cells #[.slice A n c, .int .i64 0, .int .i64 (-1)] 62) := by
  go_enter Tryd.func23, Tryd.ntmps23
  go_wp2
  go_ret
  exact ⟨rfl, rfl⟩

def Pc.mid (t : TypeId) (v : Value) (b : Int) (c : ByteArray) (d : Int) : Pc := { Pc.zero with src := .iface t v, lang := .int .i64 b, val := .string c, quote := .int .u32 d }

/-- The literal '&Parser{src:, lang:, val:, quote:}'. -/
theorem wpList_parser_at {w : World} {ops : Array Oper} {rest : List Oper} {o : Oper} {a : Act} {Q : Exit → Act → World → Prop} (hgd : o.guard = none) (x0 x1 x2 x3 : Operand)
    (ho : o.op = .build 57 #[(0, x0), (19, x1), (11, x2), (16, x3)]) (t : TypeId) (v : Value) (b : Int) (c : ByteArray) (d : Int)
    (h0 : a.eval x0 = .iface t v) (h1 : a.eval x1 = .int .i64 b) (h2 : a.eval x2 = .string c) (h3 : a.eval x3 = .int .u32 d)
    (h : wpList Tryd.prog ops Q rest (a.put o.dst (.agg (Pc.mid t v b c d).list.toArray)) w) : wpList Tryd.prog ops Q (o :: rest) a w := by
  refine wpList_plain hgd fun K hK => ?_
  have e : (Tryd.prog.built 57 ((#[(0, x0), (19, x1), (11, x2), (16, x3)] : Array (Nat × Operand)).map fun (i, x) => (i, a.eval x)).toList) = some ({ Pc.zero with src := .iface t v, lang := .int .i64 b, val := .string c, quote := .int .u32 d }).list.toArray := by
    rw [← built_at t v b c d]
    simp [h0, h1, h2, h3]
  refine wp_build _ _ ho (by rw [e]; rfl) (hK _ _ ?_)
  rw [e]
  exact h

theorem new_end {w w2 : World} {A A' : Option Addr} {n n' c' bsp : Nat} {l l' : List UInt8} {lang : Int} {val : ByteArray} {ea : Addr} (hs : SrcB w A n l) (hs' : SrcB w A' n' l') (hg : w.cell? ⟨0, 0, none⟩ = some (EOFv ea))
    (hp : PB w2 (w.heap.size + 1) { Pc.mid 37 (.pointer (some ⟨w.heap.size, 0, none⟩)) lang val 1 with readBuf := (Pc.mid 37 (.pointer (some ⟨w.heap.size, 0, none⟩)) lang val 1).readBuf.take 0 ++ Bys l ++ (Pc.mid 37 (.pointer (some ⟨w.heap.size, 0, none⟩)) lang val 1).readBuf.drop (0 + (Bys l).length) })
    (hk : Kept [] w w2) (hr : w2.heap[w.heap.size]? = some (.cells #[.slice A' n' c', .int .i64 0, .int .i64 (-1)] 62)) (hn : n ≤ 1024) (hn' : n' < 10000000) (hc' : n' ≤ c') (hb : bsp ≤ n) :
    MidS ((w2.setCell ⟨w.heap.size + 1, 1, none⟩ (.slice (some ⟨w.heap.size + 1, 39, none⟩) l.length 1024)).setCell ⟨w.heap.size + 1, 2, none⟩ (.int .u64 bsp)) (w.heap.size + 2) (w.heap.size + 1) w.heap.size ea (.int .i64 lang) (.string val) (l.drop bsp ++ l') := by
  have hgl : 0 < w.heap.size := block_lt_of_cell hg
  have hp2 := (hp.s_bs (bsV (w.heap.size + 1) l.length)).s_bsp (.int .u64 bsp)
  have hk2 : Kept [w.heap.size + 1] w2 ((w2.setCell ⟨w.heap.size + 1, 1, none⟩ (bsV (w.heap.size + 1) l.length)).setCell ⟨w.heap.size + 1, 2, none⟩ (.int .u64 bsp)) := (((Kept.refl _ _).setCell (by simp) _).setCell (by simp) _)
  have hk3 := ((hk.weaken (S' := [w.heap.size + 1]) (by simp)).trans hk2).weaken (S' := []) (by simp)
  have hl1 := hs.1
  have hl2 := hs'.1
  refine ⟨_, l, l', bsp, 0, 0, { lx := { hpb := hp2, hsrc := rfl, hbs := .inl rfl, hbuf := ?_, hfit := by omega, hbsp := rfl, hrd := ?_, hne := by omega, hlt := by omega, heof := ?_, hg1 := by omega, hg2 := by omega }, hr := rfl, hr' := by decide, hend := .inl ⟨rfl, rfl⟩, hoffs := rfl, ho1 := by omega, ho2 := by omega, hb := by omega, hst := rfl, hlang := rfl, hval := rfl }⟩
  · show List.take l.length (List.take 0 _ ++ Bys l ++ _) = _
    rw [List.take_zero, List.nil_append, List.take_left' (Bys_length l)]
  · refine ⟨A', n', c', 0, -1, l', ?_, hl2, fun h0 => ?_, by omega, hc', by omega, rfl, by omega, ?_⟩
    · exact (hk2.block w.heap.size (heap_lt hr) (by simp)).trans hr
    · obtain ⟨g, o, rfl, hg1, hcc⟩ := hs'.2 h0
      exact ⟨g, o, rfl, by omega, by omega, by omega, fun j x hj => (hk3.cell (p := ⟨g, o + j, none⟩) hg1 (by simp)).trans (hcc j x hj)⟩
    · exact Nat.le_trans hp.lt hk2.size
  · exact (hk3.cell (p := ⟨0, 0, none⟩) hgl (by simp)).trans hg

theorem new_src {w w' : World} {A : Option Addr} {n : Nat} {l : List UInt8} (h : SrcB w A n l) (hk : Kept [] w w') : 0 < n → ∃ g so, A = some ⟨g, so, none⟩ ∧ ∀ j v, (Bys l)[j]? = some v → w'.cell? ⟨g, so + j, none⟩ = some v := by
  intro h0
  obtain ⟨g, o, rfl, hgl, hcc⟩ := h.2 h0
  refine ⟨g, o, rfl, fun j v hj => ?_⟩
  obtain ⟨x, hx, rfl⟩ : ∃ x, l[j]? = some x ∧ v = By x := by
    simp only [Bys, List.getElem?_map] at hj
    cases hq : l[j]? with
    | none => rw [hq] at hj; cases hj
    | some x => rw [hq] at hj; exact ⟨x, rfl, by simpa using hj.symm⟩
  exact (hk.cell (p := ⟨g, o + j, none⟩) hgl (by simp)).trans (hcc j x hx)

set_option maxRecDepth 100000 in
set_option maxHeartbeats 400000 in
theorem new_at (w : World) (A A' : Option Addr) (n c n' c' bsp : Nat) (l l' : List UInt8) (lang : Int) (val : ByteArray) (ea : Addr) (h : SrcB w A n l) (h' : SrcB w A' n' l') (hn : n ≤ 1024) (hn' : n' < 10000000) (hc' : n' ≤ c') (hb : bsp ≤ n)
    (hg : w.cell? ⟨0, 0, none⟩ = some (EOFv ea)) :
    Calls Tryd.prog 11 #[.slice A n c, .int .u64 bsp, .slice A' n' c', .int .i64 lang, .string val] w fun e w' =>
      e = .returned (.pointer (some ⟨w.heap.size + 1, 0, none⟩)) ∧ MidS w' (w.heap.size + 2) (w.heap.size + 1) w.heap.size ea (.int .i64 lang) (.string val) (l.drop bsp ++ l') ∧ Kept [] w w' := by
  have hs : w.heap.size ≠ 0 := fun e => by have h1 := block_lt_of_cell hg; have h2 : 0 < w.heap.size := h1; omega
  have HS := Lib.hid h
  have HS' := Lib.hid h'
  have HG := Lib.hid hg
  clear h h' hg
  go_enter Tryd.func11, Tryd.ntmps11
  have hk0 : ∀ a b, Kept [] w ((w.alloc a).alloc b) := fun a b => ((Kept.refl _ _).alloc _).alloc _
  have HK0 := Lib.hid hk0; clear hk0
  have hlen : (Bys l).length = n := by rw [Bys_length, HS.out.1]
  have HLEN := Lib.hid hlen; clear hlen
  have hll : l.length ≤ 1024 := by rw [HS.out.1]; exact hn
  have q1 := fun w2 => slice_arr_h (w.heap.size + 1) 39 .i64 l.length hll w2
  go_wp2_with (first | (go_at_call 23; refine (newreader _ _ _ _).mono ?_; rintro e w1 ⟨rfl, rfl⟩) | (refine wpList_parser_at rfl _ _ _ _ rfl _ _ _ _ _ rfl rfl rfl rfl ?_) | (refine wpList_copy_buf rfl (.tmp 23) (.tmp 24) rfl (w.heap.size + 1) 0 1024 1024 n c A rfl rfl (Pc.mid 37 (.pointer (some ⟨w.heap.size, 0, none⟩)) lang val 1) ⟨heap_alloc2_new _ _ _, by simp [Pc.mid, Pc.zero], by simp [Pc.mid, Pc.zero]⟩ (Bys l) (by rw [HLEN.out]; show n = min n 1024; omega) (by rw [HLEN.out]; exact new_src HS.out (HK0.out _ _)) (by rw [HLEN.out]; omega) (Bys_one _) ?_; intro w2 hp2 hk2; have HP2 := Lib.hid hp2; have HK2 := Lib.hid ((((HK0.out _ _).weaken (S' := [w.heap.size + 1]) (by simp)).trans hk2).weaken (S' := []) (by simp)); have HR2 := Lib.hid ((hk2.block w.heap.size (by simp; omega) (by simp)).trans (heap_alloc2_old _ _ _)); clear hp2 hk2; have f1 := HP2.out.frozen 1; have f2 := HP2.out.frozen 2; have d1 := HP2.out.c_bs; have d2 := HP2.out.c_bsp))
  go_ret
  refine ⟨rfl, ?_, ?_⟩
  · exact new_end HS.out HS'.out HG.out HP2.out HK2.out HR2.out hn hn' hc' hb
  · exact ((HK2.out.weaken (S' := [w.heap.size + 1]) (by simp)).setCell (by simp) _).setCell (by simp) _ |>.weaken (by simp)
end Go.Proofs.YtmmoeendejbjeaaDoor
