/-
  The lexer's memory: the parser's block as a record of its cells, and how a load and a store read on it. Plain memory facts, no condition.
-/
import Derived.Test.YtnjaeooblfihbaaFmtProg
import Derived.WalkKit
import Derived.WalkSpells
import Derived.WalkLawsBesides
import Derived.Laws.Tables
import Derived.Laws.CopyOwn
import Derived.Deep.QuietTactic
import Derived.BigQuiet
import Derived.StillTailTactics
import Derived.Lib.Hide
namespace Go.Proofs.YtnjaeooblfihbaaFmt
open Go.RowKit

/-- A byte as a cell. -/
def By (c : UInt8) : Value := .int .u8 c.toNat
def Bys (l : List UInt8) : List Value := l.map By

/-- The cells of a Parser, one by one; the two arrays as lists. -/
structure Pc where
  src : Value
  bs : Value
  bsp : Value
  r : Value
  w : Value
  f : Value
  spaced : Value
  err : Value
  readErr : Value
  readEOF : Value
  tok : Value
  val : Value
  offs : Value
  line : Value
  col : Value
  pos1 : Value
  pos2 : Value
  quote : Value
  eqlOffs : Value
  keepComments : Value
  lang : Value
  stopAt : Value
  recErr : Value
  recMax : Value
  forbidNested : Value
  buriedHdocs : Value
  heredocs : Value
  hdocStops : Value
  parsingDoc : Value
  openNodes : Value
  openBquotes : Value
  openBquoteDbls : Value
  lastBquoteEsc : Value
  rxOpenParens : Value
  rxFirstPart : Value
  accComs : Value
  curComs : Value
  litBatch : Value
  wordBatch : Value
  readBuf : List Value
  litBuf : List Value
  litBs : Value

def Pc.head (p : Pc) : List Value := [p.src, p.bs, p.bsp, p.r, p.w, p.f, p.spaced, p.err, p.readErr, p.readEOF, p.tok, p.val, p.offs, p.line, p.col, p.pos1, p.pos2, p.quote, p.eqlOffs, p.keepComments, p.lang, p.stopAt, p.recErr, p.recMax, p.forbidNested, p.buriedHdocs, p.heredocs, p.hdocStops, p.parsingDoc, p.openNodes, p.openBquotes, p.openBquoteDbls, p.lastBquoteEsc, p.rxOpenParens, p.rxFirstPart, p.accComs, p.curComs, p.litBatch, p.wordBatch]
def Pc.list (p : Pc) : List Value := p.head ++ (p.readBuf ++ (p.litBuf ++ [p.litBs]))

def i0 (k : IntKind) : Value := .int k 0
def nilS : Value := .slice none 0 0
/-- A Parser of zeros. -/
def Pc.zero : Pc := { src := .nilIface, bs := nilS, bsp := i0 .u64, r := i0 .i32, w := i0 .i64, f := .pointer none, spaced := .bool false, err := .nilIface, readErr := .nilIface, readEOF := .bool false, tok := i0 .u32, val := .string ⟨#[]⟩, offs := i0 .i64, line := i0 .i64, col := i0 .i64, pos1 := i0 .u32, pos2 := i0 .u32, quote := i0 .u32, eqlOffs := i0 .i64, keepComments := .bool false, lang := i0 .i64, stopAt := nilS, recErr := i0 .i64, recMax := i0 .i64, forbidNested := .bool false, buriedHdocs := i0 .i64, heredocs := nilS, hdocStops := nilS, parsingDoc := .bool false, openNodes := i0 .i64, openBquotes := i0 .i64, openBquoteDbls := i0 .i64, lastBquoteEsc := i0 .i64, rxOpenParens := i0 .i64, rxFirstPart := .bool false, accComs := nilS, curComs := .pointer none, litBatch := nilS, wordBatch := nilS, readBuf := List.replicate 1024 (i0 .u8), litBuf := List.replicate 1024 (i0 .u8), litBs := nilS }

set_option maxRecDepth 100000 in
theorem built_at (t : TypeId) (a : Value) (b : Int) (c : ByteArray) (d : Int) : Tryf.prog.built 59 [(0, .iface t a), (19, .int .i64 b), (11, .string c), (16, .int .u32 d)] = some ({ Pc.zero with src := .iface t a, lang := .int .i64 b, val := .string c, quote := .int .u32 d }).list.toArray := by kernel_rfl

/-- Block pb is a Parser with the cells p. -/
structure PB (w : World) (pb : Nat) (p : Pc) : Prop where
  heap : w.heap[pb]? = some (.cells p.list.toArray 59 (0, 0))
  rb : p.readBuf.length = 1024
  lb : p.litBuf.length = 1024

theorem heap_lt {w : World} {g : Nat} {o : Obj} (h : w.heap[g]? = some o) : g < w.heap.size := by
  rcases Nat.lt_or_ge g w.heap.size with hlt | hge
  · exact hlt
  · rw [Array.getElem?_eq_none hge] at h; cases h

theorem PB.lt {w : World} {pb : Nat} {p : Pc} (h : PB w pb p) : pb < w.heap.size := heap_lt h.heap
theorem PB.frozen {w : World} {pb : Nat} {p : Pc} (h : PB w pb p) (i : Nat) : w.frozen? ⟨pb, i, none⟩ = false := by
  have := h.heap
  simp [World.frozen?, this]
theorem PB.at_ {w : World} {pb : Nat} {p : Pc} (h : PB w pb p) (i : Nat) : w.cell? ⟨pb, i, none⟩ = p.list[i]? := by
  rw [cell_of_row _ _ _ _ _ _ h.heap]; simp
theorem PB.put {w : World} {pb : Nat} {p q : Pc} {i : Nat} {v : Value} (h : PB w pb p) (e : p.list.set i v = q.list) (e1 : q.readBuf.length = p.readBuf.length) (e2 : q.litBuf.length = p.litBuf.length) : PB (w.setCell ⟨pb, i, none⟩ v) pb q :=
  ⟨by rw [heap_setCell_same w pb i _ _ v h.heap, List.setIfInBounds_toArray, e], by rw [e1, h.rb], by rw [e2, h.lb]⟩
theorem PB.drewN {w : World} {pb : Nat} {p : Pc} (h : PB w pb p) (n : Nat) : PB (w.drewN n) pb p := ⟨h.heap, h.rb, h.lb⟩
theorem PB.drew {w : World} {pb : Nat} {p : Pc} (h : PB w pb p) : PB w.drew pb p := ⟨h.heap, h.rb, h.lb⟩
theorem PB.same {w w' : World} {pb : Nat} {p : Pc} (h : PB w pb p) (e : w'.heap[pb]? = w.heap[pb]?) : PB w' pb p := ⟨e.trans h.heap, h.rb, h.lb⟩
theorem PB.buf {w : World} {pb : Nat} {p : Pc} (h : PB w pb p) (j : Nat) (hj : j < 1024) : w.cell? ⟨pb, 39 + j, none⟩ = p.readBuf[j]? := by
  rw [h.at_]
  have : p.head.length = 39 := rfl
  rw [Pc.list, List.getElem?_append_right (by omega), List.getElem?_append_left (by have := h.rb; omega)]
  congr 1
  omega
theorem PB.lit {w : World} {pb : Nat} {p : Pc} (h : PB w pb p) (j : Nat) (hj : j < 1024) : w.cell? ⟨pb, 1063 + j, none⟩ = p.litBuf[j]? := by
  rw [h.at_]
  have : p.head.length = 39 := rfl
  have h1 := h.rb
  have h2 := h.lb
  rw [Pc.list, List.getElem?_append_right (by omega), List.getElem?_append_right (by omega), List.getElem?_append_left (by omega)]
  congr 1
  omega
theorem PB.c_litBs {w : World} {pb : Nat} {p : Pc} (h : PB w pb p) : w.cell? ⟨pb, 2087, none⟩ = some p.litBs := by
  rw [h.at_]
  have : p.head.length = 39 := rfl
  have h1 := h.rb
  have h2 := h.lb
  rw [Pc.list, List.getElem?_append_right (by omega), List.getElem?_append_right (by omega), List.getElem?_append_right (by omega)]
  rw [show 2087 - p.head.length - p.readBuf.length - p.litBuf.length = 0 by omega]
  rfl
theorem PB.s_litBs {w : World} {pb : Nat} {p : Pc} (h : PB w pb p) (v : Value) : PB (w.setCell ⟨pb, 2087, none⟩ v) pb { p with litBs := v } := by
  refine h.put ?_ rfl rfl
  have h0 : p.head.length = 39 := rfl
  have h1 := h.rb
  have h2 := h.lb
  show (p.head ++ (p.readBuf ++ (p.litBuf ++ [p.litBs]))).set 2087 v = p.head ++ (p.readBuf ++ (p.litBuf ++ [v]))
  rw [List.set_append_right _ _ (by omega), List.set_append_right _ _ (by omega), List.set_append_right _ _ (by omega)]
  rw [show 2087 - p.head.length - p.readBuf.length - p.litBuf.length = 0 by omega]
  rfl
theorem PB.c_src {w : World} {pb : Nat} {p : Pc} (h : PB w pb p) : w.cell? ⟨pb, 0, none⟩ = some p.src := by rw [h.at_]; rfl
theorem PB.s_src {w : World} {pb : Nat} {p : Pc} (h : PB w pb p) (v : Value) : PB (w.setCell ⟨pb, 0, none⟩ v) pb { p with src := v } := h.put rfl rfl rfl
theorem PB.c_bs {w : World} {pb : Nat} {p : Pc} (h : PB w pb p) : w.cell? ⟨pb, 1, none⟩ = some p.bs := by rw [h.at_]; rfl
theorem PB.s_bs {w : World} {pb : Nat} {p : Pc} (h : PB w pb p) (v : Value) : PB (w.setCell ⟨pb, 1, none⟩ v) pb { p with bs := v } := h.put rfl rfl rfl
theorem PB.c_bsp {w : World} {pb : Nat} {p : Pc} (h : PB w pb p) : w.cell? ⟨pb, 2, none⟩ = some p.bsp := by rw [h.at_]; rfl
theorem PB.s_bsp {w : World} {pb : Nat} {p : Pc} (h : PB w pb p) (v : Value) : PB (w.setCell ⟨pb, 2, none⟩ v) pb { p with bsp := v } := h.put rfl rfl rfl
theorem PB.c_r {w : World} {pb : Nat} {p : Pc} (h : PB w pb p) : w.cell? ⟨pb, 3, none⟩ = some p.r := by rw [h.at_]; rfl
theorem PB.s_r {w : World} {pb : Nat} {p : Pc} (h : PB w pb p) (v : Value) : PB (w.setCell ⟨pb, 3, none⟩ v) pb { p with r := v } := h.put rfl rfl rfl
theorem PB.c_w {w : World} {pb : Nat} {p : Pc} (h : PB w pb p) : w.cell? ⟨pb, 4, none⟩ = some p.w := by rw [h.at_]; rfl
theorem PB.s_w {w : World} {pb : Nat} {p : Pc} (h : PB w pb p) (v : Value) : PB (w.setCell ⟨pb, 4, none⟩ v) pb { p with w := v } := h.put rfl rfl rfl
theorem PB.c_f {w : World} {pb : Nat} {p : Pc} (h : PB w pb p) : w.cell? ⟨pb, 5, none⟩ = some p.f := by rw [h.at_]; rfl
theorem PB.s_f {w : World} {pb : Nat} {p : Pc} (h : PB w pb p) (v : Value) : PB (w.setCell ⟨pb, 5, none⟩ v) pb { p with f := v } := h.put rfl rfl rfl
theorem PB.c_spaced {w : World} {pb : Nat} {p : Pc} (h : PB w pb p) : w.cell? ⟨pb, 6, none⟩ = some p.spaced := by rw [h.at_]; rfl
theorem PB.s_spaced {w : World} {pb : Nat} {p : Pc} (h : PB w pb p) (v : Value) : PB (w.setCell ⟨pb, 6, none⟩ v) pb { p with spaced := v } := h.put rfl rfl rfl
theorem PB.c_err {w : World} {pb : Nat} {p : Pc} (h : PB w pb p) : w.cell? ⟨pb, 7, none⟩ = some p.err := by rw [h.at_]; rfl
theorem PB.s_err {w : World} {pb : Nat} {p : Pc} (h : PB w pb p) (v : Value) : PB (w.setCell ⟨pb, 7, none⟩ v) pb { p with err := v } := h.put rfl rfl rfl
theorem PB.c_readErr {w : World} {pb : Nat} {p : Pc} (h : PB w pb p) : w.cell? ⟨pb, 8, none⟩ = some p.readErr := by rw [h.at_]; rfl
theorem PB.s_readErr {w : World} {pb : Nat} {p : Pc} (h : PB w pb p) (v : Value) : PB (w.setCell ⟨pb, 8, none⟩ v) pb { p with readErr := v } := h.put rfl rfl rfl
theorem PB.c_readEOF {w : World} {pb : Nat} {p : Pc} (h : PB w pb p) : w.cell? ⟨pb, 9, none⟩ = some p.readEOF := by rw [h.at_]; rfl
theorem PB.s_readEOF {w : World} {pb : Nat} {p : Pc} (h : PB w pb p) (v : Value) : PB (w.setCell ⟨pb, 9, none⟩ v) pb { p with readEOF := v } := h.put rfl rfl rfl
theorem PB.c_tok {w : World} {pb : Nat} {p : Pc} (h : PB w pb p) : w.cell? ⟨pb, 10, none⟩ = some p.tok := by rw [h.at_]; rfl
theorem PB.s_tok {w : World} {pb : Nat} {p : Pc} (h : PB w pb p) (v : Value) : PB (w.setCell ⟨pb, 10, none⟩ v) pb { p with tok := v } := h.put rfl rfl rfl
theorem PB.c_val {w : World} {pb : Nat} {p : Pc} (h : PB w pb p) : w.cell? ⟨pb, 11, none⟩ = some p.val := by rw [h.at_]; rfl
theorem PB.s_val {w : World} {pb : Nat} {p : Pc} (h : PB w pb p) (v : Value) : PB (w.setCell ⟨pb, 11, none⟩ v) pb { p with val := v } := h.put rfl rfl rfl
theorem PB.c_offs {w : World} {pb : Nat} {p : Pc} (h : PB w pb p) : w.cell? ⟨pb, 12, none⟩ = some p.offs := by rw [h.at_]; rfl
theorem PB.s_offs {w : World} {pb : Nat} {p : Pc} (h : PB w pb p) (v : Value) : PB (w.setCell ⟨pb, 12, none⟩ v) pb { p with offs := v } := h.put rfl rfl rfl
theorem PB.c_line {w : World} {pb : Nat} {p : Pc} (h : PB w pb p) : w.cell? ⟨pb, 13, none⟩ = some p.line := by rw [h.at_]; rfl
theorem PB.s_line {w : World} {pb : Nat} {p : Pc} (h : PB w pb p) (v : Value) : PB (w.setCell ⟨pb, 13, none⟩ v) pb { p with line := v } := h.put rfl rfl rfl
theorem PB.c_col {w : World} {pb : Nat} {p : Pc} (h : PB w pb p) : w.cell? ⟨pb, 14, none⟩ = some p.col := by rw [h.at_]; rfl
theorem PB.s_col {w : World} {pb : Nat} {p : Pc} (h : PB w pb p) (v : Value) : PB (w.setCell ⟨pb, 14, none⟩ v) pb { p with col := v } := h.put rfl rfl rfl
theorem PB.c_pos1 {w : World} {pb : Nat} {p : Pc} (h : PB w pb p) : w.cell? ⟨pb, 15, none⟩ = some p.pos1 := by rw [h.at_]; rfl
theorem PB.s_pos1 {w : World} {pb : Nat} {p : Pc} (h : PB w pb p) (v : Value) : PB (w.setCell ⟨pb, 15, none⟩ v) pb { p with pos1 := v } := h.put rfl rfl rfl
theorem PB.c_pos2 {w : World} {pb : Nat} {p : Pc} (h : PB w pb p) : w.cell? ⟨pb, 16, none⟩ = some p.pos2 := by rw [h.at_]; rfl
theorem PB.s_pos2 {w : World} {pb : Nat} {p : Pc} (h : PB w pb p) (v : Value) : PB (w.setCell ⟨pb, 16, none⟩ v) pb { p with pos2 := v } := h.put rfl rfl rfl
theorem PB.c_quote {w : World} {pb : Nat} {p : Pc} (h : PB w pb p) : w.cell? ⟨pb, 17, none⟩ = some p.quote := by rw [h.at_]; rfl
theorem PB.s_quote {w : World} {pb : Nat} {p : Pc} (h : PB w pb p) (v : Value) : PB (w.setCell ⟨pb, 17, none⟩ v) pb { p with quote := v } := h.put rfl rfl rfl
theorem PB.c_eqlOffs {w : World} {pb : Nat} {p : Pc} (h : PB w pb p) : w.cell? ⟨pb, 18, none⟩ = some p.eqlOffs := by rw [h.at_]; rfl
theorem PB.s_eqlOffs {w : World} {pb : Nat} {p : Pc} (h : PB w pb p) (v : Value) : PB (w.setCell ⟨pb, 18, none⟩ v) pb { p with eqlOffs := v } := h.put rfl rfl rfl
theorem PB.c_keepComments {w : World} {pb : Nat} {p : Pc} (h : PB w pb p) : w.cell? ⟨pb, 19, none⟩ = some p.keepComments := by rw [h.at_]; rfl
theorem PB.s_keepComments {w : World} {pb : Nat} {p : Pc} (h : PB w pb p) (v : Value) : PB (w.setCell ⟨pb, 19, none⟩ v) pb { p with keepComments := v } := h.put rfl rfl rfl
theorem PB.c_lang {w : World} {pb : Nat} {p : Pc} (h : PB w pb p) : w.cell? ⟨pb, 20, none⟩ = some p.lang := by rw [h.at_]; rfl
theorem PB.s_lang {w : World} {pb : Nat} {p : Pc} (h : PB w pb p) (v : Value) : PB (w.setCell ⟨pb, 20, none⟩ v) pb { p with lang := v } := h.put rfl rfl rfl
theorem PB.c_stopAt {w : World} {pb : Nat} {p : Pc} (h : PB w pb p) : w.cell? ⟨pb, 21, none⟩ = some p.stopAt := by rw [h.at_]; rfl
theorem PB.s_stopAt {w : World} {pb : Nat} {p : Pc} (h : PB w pb p) (v : Value) : PB (w.setCell ⟨pb, 21, none⟩ v) pb { p with stopAt := v } := h.put rfl rfl rfl
theorem PB.c_recErr {w : World} {pb : Nat} {p : Pc} (h : PB w pb p) : w.cell? ⟨pb, 22, none⟩ = some p.recErr := by rw [h.at_]; rfl
theorem PB.s_recErr {w : World} {pb : Nat} {p : Pc} (h : PB w pb p) (v : Value) : PB (w.setCell ⟨pb, 22, none⟩ v) pb { p with recErr := v } := h.put rfl rfl rfl
theorem PB.c_recMax {w : World} {pb : Nat} {p : Pc} (h : PB w pb p) : w.cell? ⟨pb, 23, none⟩ = some p.recMax := by rw [h.at_]; rfl
theorem PB.s_recMax {w : World} {pb : Nat} {p : Pc} (h : PB w pb p) (v : Value) : PB (w.setCell ⟨pb, 23, none⟩ v) pb { p with recMax := v } := h.put rfl rfl rfl
theorem PB.c_forbidNested {w : World} {pb : Nat} {p : Pc} (h : PB w pb p) : w.cell? ⟨pb, 24, none⟩ = some p.forbidNested := by rw [h.at_]; rfl
theorem PB.s_forbidNested {w : World} {pb : Nat} {p : Pc} (h : PB w pb p) (v : Value) : PB (w.setCell ⟨pb, 24, none⟩ v) pb { p with forbidNested := v } := h.put rfl rfl rfl
theorem PB.c_buriedHdocs {w : World} {pb : Nat} {p : Pc} (h : PB w pb p) : w.cell? ⟨pb, 25, none⟩ = some p.buriedHdocs := by rw [h.at_]; rfl
theorem PB.s_buriedHdocs {w : World} {pb : Nat} {p : Pc} (h : PB w pb p) (v : Value) : PB (w.setCell ⟨pb, 25, none⟩ v) pb { p with buriedHdocs := v } := h.put rfl rfl rfl
theorem PB.c_heredocs {w : World} {pb : Nat} {p : Pc} (h : PB w pb p) : w.cell? ⟨pb, 26, none⟩ = some p.heredocs := by rw [h.at_]; rfl
theorem PB.s_heredocs {w : World} {pb : Nat} {p : Pc} (h : PB w pb p) (v : Value) : PB (w.setCell ⟨pb, 26, none⟩ v) pb { p with heredocs := v } := h.put rfl rfl rfl
theorem PB.c_hdocStops {w : World} {pb : Nat} {p : Pc} (h : PB w pb p) : w.cell? ⟨pb, 27, none⟩ = some p.hdocStops := by rw [h.at_]; rfl
theorem PB.s_hdocStops {w : World} {pb : Nat} {p : Pc} (h : PB w pb p) (v : Value) : PB (w.setCell ⟨pb, 27, none⟩ v) pb { p with hdocStops := v } := h.put rfl rfl rfl
theorem PB.c_parsingDoc {w : World} {pb : Nat} {p : Pc} (h : PB w pb p) : w.cell? ⟨pb, 28, none⟩ = some p.parsingDoc := by rw [h.at_]; rfl
theorem PB.s_parsingDoc {w : World} {pb : Nat} {p : Pc} (h : PB w pb p) (v : Value) : PB (w.setCell ⟨pb, 28, none⟩ v) pb { p with parsingDoc := v } := h.put rfl rfl rfl
theorem PB.c_openNodes {w : World} {pb : Nat} {p : Pc} (h : PB w pb p) : w.cell? ⟨pb, 29, none⟩ = some p.openNodes := by rw [h.at_]; rfl
theorem PB.s_openNodes {w : World} {pb : Nat} {p : Pc} (h : PB w pb p) (v : Value) : PB (w.setCell ⟨pb, 29, none⟩ v) pb { p with openNodes := v } := h.put rfl rfl rfl
theorem PB.c_openBquotes {w : World} {pb : Nat} {p : Pc} (h : PB w pb p) : w.cell? ⟨pb, 30, none⟩ = some p.openBquotes := by rw [h.at_]; rfl
theorem PB.s_openBquotes {w : World} {pb : Nat} {p : Pc} (h : PB w pb p) (v : Value) : PB (w.setCell ⟨pb, 30, none⟩ v) pb { p with openBquotes := v } := h.put rfl rfl rfl
theorem PB.c_openBquoteDbls {w : World} {pb : Nat} {p : Pc} (h : PB w pb p) : w.cell? ⟨pb, 31, none⟩ = some p.openBquoteDbls := by rw [h.at_]; rfl
theorem PB.s_openBquoteDbls {w : World} {pb : Nat} {p : Pc} (h : PB w pb p) (v : Value) : PB (w.setCell ⟨pb, 31, none⟩ v) pb { p with openBquoteDbls := v } := h.put rfl rfl rfl
theorem PB.c_lastBquoteEsc {w : World} {pb : Nat} {p : Pc} (h : PB w pb p) : w.cell? ⟨pb, 32, none⟩ = some p.lastBquoteEsc := by rw [h.at_]; rfl
theorem PB.s_lastBquoteEsc {w : World} {pb : Nat} {p : Pc} (h : PB w pb p) (v : Value) : PB (w.setCell ⟨pb, 32, none⟩ v) pb { p with lastBquoteEsc := v } := h.put rfl rfl rfl
theorem PB.c_rxOpenParens {w : World} {pb : Nat} {p : Pc} (h : PB w pb p) : w.cell? ⟨pb, 33, none⟩ = some p.rxOpenParens := by rw [h.at_]; rfl
theorem PB.s_rxOpenParens {w : World} {pb : Nat} {p : Pc} (h : PB w pb p) (v : Value) : PB (w.setCell ⟨pb, 33, none⟩ v) pb { p with rxOpenParens := v } := h.put rfl rfl rfl
theorem PB.c_rxFirstPart {w : World} {pb : Nat} {p : Pc} (h : PB w pb p) : w.cell? ⟨pb, 34, none⟩ = some p.rxFirstPart := by rw [h.at_]; rfl
theorem PB.s_rxFirstPart {w : World} {pb : Nat} {p : Pc} (h : PB w pb p) (v : Value) : PB (w.setCell ⟨pb, 34, none⟩ v) pb { p with rxFirstPart := v } := h.put rfl rfl rfl
theorem PB.c_accComs {w : World} {pb : Nat} {p : Pc} (h : PB w pb p) : w.cell? ⟨pb, 35, none⟩ = some p.accComs := by rw [h.at_]; rfl
theorem PB.s_accComs {w : World} {pb : Nat} {p : Pc} (h : PB w pb p) (v : Value) : PB (w.setCell ⟨pb, 35, none⟩ v) pb { p with accComs := v } := h.put rfl rfl rfl
theorem PB.c_curComs {w : World} {pb : Nat} {p : Pc} (h : PB w pb p) : w.cell? ⟨pb, 36, none⟩ = some p.curComs := by rw [h.at_]; rfl
theorem PB.s_curComs {w : World} {pb : Nat} {p : Pc} (h : PB w pb p) (v : Value) : PB (w.setCell ⟨pb, 36, none⟩ v) pb { p with curComs := v } := h.put rfl rfl rfl
theorem PB.c_litBatch {w : World} {pb : Nat} {p : Pc} (h : PB w pb p) : w.cell? ⟨pb, 37, none⟩ = some p.litBatch := by rw [h.at_]; rfl
theorem PB.s_litBatch {w : World} {pb : Nat} {p : Pc} (h : PB w pb p) (v : Value) : PB (w.setCell ⟨pb, 37, none⟩ v) pb { p with litBatch := v } := h.put rfl rfl rfl
theorem PB.c_wordBatch {w : World} {pb : Nat} {p : Pc} (h : PB w pb p) : w.cell? ⟨pb, 38, none⟩ = some p.wordBatch := by rw [h.at_]; rfl
theorem PB.s_wordBatch {w : World} {pb : Nat} {p : Pc} (h : PB w pb p) (v : Value) : PB (w.setCell ⟨pb, 38, none⟩ v) pb { p with wordBatch := v } := h.put rfl rfl rfl

/-- A row of cells spliced into the read buffer. -/
theorem PB.splice {w : World} {pb : Nat} {p : Pc} (h : PB w pb p) (o : Nat) (cs : List Value) (ho : o + cs.length ≤ 1024) :
    PB (w.setRow pb (p.list.take (39 + o) ++ cs ++ p.list.drop (39 + o + cs.length)).toArray) pb { p with readBuf := p.readBuf.take o ++ cs ++ p.readBuf.drop (o + cs.length) } := by
  have h0 : p.head.length = 39 := rfl
  have h1 := h.rb
  refine ⟨?_, by simp; omega, h.lb⟩
  rw [setRow_heap w pb _ _ _ _ h.heap]
  congr 3
  show List.take (39 + o) (p.head ++ (p.readBuf ++ (p.litBuf ++ [p.litBs]))) ++ cs ++ List.drop (39 + o + cs.length) (p.head ++ (p.readBuf ++ (p.litBuf ++ [p.litBs]))) = p.head ++ ((p.readBuf.take o ++ cs ++ p.readBuf.drop (o + cs.length)) ++ (p.litBuf ++ [p.litBs]))
  rw [List.take_append, List.take_append, List.drop_append, List.drop_append, List.take_of_length_le (l := p.head) (by omega), List.drop_of_length_le (i := 39 + o + cs.length) (l := p.head) (by omega)]
  rw [show 39 + o - p.head.length = o by omega, show 39 + o + cs.length - p.head.length = o + cs.length by omega, show o - p.readBuf.length = 0 by omega, show o + cs.length - p.readBuf.length = 0 by omega]
  simp

/-- What was there is as it was, but for the blocks of S. -/
structure Kept (S : List Nat) (w w' : World) : Prop where
  os : w'.os = w.os
  tape : w'.tape = w.tape
  output : w'.output = w.output
  size : w.heap.size ≤ w'.heap.size
  block : ∀ k, k < w.heap.size → k ∉ S → w'.heap[k]? = w.heap[k]?

section
variable {S : List Nat} {a b c w w' : World}
theorem Kept.refl (S : List Nat) (w : World) : Kept S w w := ⟨rfl, rfl, rfl, Nat.le_refl _, fun _ _ _ => rfl⟩
theorem Kept.trans (h : Kept S a b) (k : Kept S b c) : Kept S a c :=
  ⟨k.os.trans h.os, k.tape.trans h.tape, k.output.trans h.output, Nat.le_trans h.size k.size, fun i hi hn => (k.block i (Nat.lt_of_lt_of_le hi h.size) hn).trans (h.block i hi hn)⟩
theorem Kept.weaken {S' : List Nat} (h : Kept S a b) (hs : ∀ k ∈ S, k ∈ S' ∨ a.heap.size ≤ k) : Kept S' a b :=
  ⟨h.os, h.tape, h.output, h.size, fun i hi hn => h.block i hi (fun hm => (hs i hm).elim hn (fun h => by omega))⟩
theorem Kept.drew (h : Kept S a w) : Kept S a w.drew := ⟨h.os, h.tape, h.output, h.size, h.block⟩
theorem Kept.drewN (h : Kept S a w) (n : Nat) : Kept S a (w.drewN n) := ⟨h.os, h.tape, h.output, h.size, h.block⟩
theorem Kept.alloc (h : Kept S a w) (o : Obj) : Kept S a (w.alloc o) :=
  h.trans ⟨rfl, rfl, rfl, by simp, fun k hk _ => Below.heap_alloc _ _ _ hk⟩
theorem Kept.setCell (h : Kept S a w) {p : Addr} (hp : p.block ∈ S) (u : Value) : Kept S a (w.setCell p u) :=
  h.trans ⟨rfl, rfl, rfl, by simp [World.setCell], fun k _ hn => Below.heap_setCell _ _ _ _ (fun e => hn (e ▸ hp))⟩
theorem Kept.setRow (h : Kept S a w) {g : Nat} (hp : g ∈ S) (cs : Array Value) : Kept S a (w.setRow g cs) :=
  h.trans ⟨rfl, rfl, rfl, by simp, fun k _ hn => setRow_other _ _ _ _ (fun e => hn (e ▸ hp))⟩
theorem Kept.below {B : Nat} (h : Kept S a b) (hS : ∀ k ∈ S, B ≤ k) (hB : B ≤ a.heap.size) : Below B a b :=
  ⟨h.os, h.tape, h.output, h.size, fun k hk => h.block k (by omega) (fun hm => by have := hS k hm; omega)⟩
theorem Kept.cell (h : Kept S a b) {p : Addr} (hp : p.block < a.heap.size) (hn : p.block ∉ S) : b.cell? p = a.cell? p := World.cell?_of_block (w := a) (h.block p.block hp hn)
end

/-- The slice value with address A and length n holds the bytes l; it lies below no block of S. -/
def Src (w : World) (S : List Nat) (A : Option Addr) (n : Nat) (l : List UInt8) : Prop :=
  l.length = n ∧ (0 < n → ∃ g o, A = some ⟨g, o, none⟩ ∧ g < w.heap.size ∧ g ∉ S ∧ ∀ j c, l[j]? = some c → w.cell? ⟨g, o + j, none⟩ = some (By c))
theorem Src.kept {S : List Nat} {w w' : World} {A : Option Addr} {n : Nat} {l : List UInt8} (h : Src w S A n l) (k : Kept S w w') : Src w' S A n l :=
  ⟨h.1, fun hn => by
    obtain ⟨g, o, rfl, hg, hS, hc⟩ := h.2 hn
    exact ⟨g, o, rfl, Nat.lt_of_lt_of_le hg k.size, hS, fun j c hj => (k.cell (p := ⟨g, o + j, none⟩) hg hS).trans (hc j c hj)⟩⟩


attribute [local go_sem] World.setCell_drew
@[go_sem] theorem setCell_drewN (w : World) (n : Nat) (a : Addr) (v : Value) : (w.drewN n).setCell a v = (w.setCell a v).drewN n := rfl
@[go_sem] theorem alloc_drewN (w : World) (n : Nat) (o : Obj) : (w.drewN n).alloc o = (w.alloc o).drewN n := rfl

theorem wp_region_tail {P : Program} {id : Nat} {Q : Exit → Act → World → Prop} {a : Act} {w : World} {l : List Oper} (n : Nat) (hm : P.follows .mixedOrders = true) (hB : Region.lexTailB .any l.toArray n = true)
    (h : wpStill P l.toArray w.drew (fun a' => wpList P l.toArray Q (l.drop n) a' w.drew) (l.take n) a) : (Code.region id l.toArray true).wp P Q a w :=
  wp_region_still_tail n hm hB h

theorem PB.kept {S : List Nat} {w w' : World} {pb : Nat} {p : Pc} (h : PB w pb p) (k : Kept S w w') (hn : pb ∉ S) : PB w' pb p := h.same (k.block pb h.lt hn)

theorem By_one (c : UInt8) : (By c).oneCell' = true := rfl
theorem Bys_one (l : List UInt8) : ∀ v ∈ Bys l, v.oneCell' = true := fun v hv => by
  obtain ⟨c, _, rfl⟩ := List.mem_map.1 hv
  rfl
@[simp] theorem Bys_length (l : List UInt8) : (Bys l).length = l.length := by simp [Bys]

theorem addr_add (g o j : Nat) : (⟨g, o, none⟩ : Addr).add j = ⟨g, o + j, none⟩ := by unfold Addr.add; split <;> simp_all

/-- copy into the parser's read buffer. -/
theorem wpList_copy_buf {w : World} {ops : Array Oper} {rest : List Oper} {o : Oper} {a : Act} {Q : Exit → Act → World → Prop} (hgd : o.guard = none) (d s : Operand)
    (ho : o.op = .call { callee := .builtin .copy, args := #[d, s], argTypes := #[22, 22] })
    (pb off dLen dCap sLen sCap : Nat) (sp : Option Addr) (hd : a.eval d = .slice (some ⟨pb, 39 + off, none⟩) dLen dCap) (hs : a.eval s = .slice sp sLen sCap)
    (p : Pc) (hp : PB w pb p) (cs : List Value) (hn : cs.length = Nat.min sLen dLen)
    (hsrc : 0 < cs.length → ∃ g so, sp = some ⟨g, so, none⟩ ∧ ∀ j v, cs[j]? = some v → w.cell? ⟨g, so + j, none⟩ = some v) (hfit : off + cs.length ≤ 1024) (h1 : ∀ v ∈ cs, v.oneCell' = true)
    (h : ∀ w', PB w' pb { p with readBuf := p.readBuf.take off ++ cs ++ p.readBuf.drop (off + cs.length) } → Kept [pb] w w' → wpList Tryf.prog ops Q rest (a.put o.dst (goInt cs.length)) w') :
    wpList Tryf.prog ops Q (o :: rest) a w := by
  have hu : Tryf.prog.underlying 22 = some (.slice 5) := by kernel_rfl
  have hsz : (Tryf.prog.info? 5).map (·.size) = some 1 := by kernel_rfl
  by_cases h0 : cs.length = 0
  · obtain rfl : cs = [] := List.eq_nil_of_length_eq_zero h0
    refine wpList_copy_nothing hgd d s _ _ ho _ hu hsz _ sp dLen dCap sLen sCap hd hs (by simpa using hn.symm) ?_
    refine h w ?_ (Kept.refl _ _)
    simpa using hp
  · obtain ⟨g, so, rfl, hc⟩ := hsrc (by omega)
    have hsize : p.list.toArray.size = 2088 := by
      have h2 := hp.rb
      have h3 := hp.lb
      have h4 : p.head.length = 39 := rfl
      simp [Pc.list]; omega
    refine wpList_copy_own hgd d s _ _ ho _ hu hsz pb (39 + off) dLen dCap ⟨g, so, none⟩ sLen sCap hd hs p.list.toArray _ hp.heap cs hn (fun j v hj => by rw [addr_add]; exact hc j v hj) (by omega) h1 ?_
    refine h _ ?_ ((Kept.refl _ _).setRow (by simp) _)
    have := hp.splice off cs hfit
    simpa using this

theorem arr_len : Tryf.prog.arrayLen 57 = 1024 := by kernel_rfl
theorem arr_und : Tryf.prog.underlying 57 = some (.array (Tryf.prog.arrayLen 57) (Tryf.prog.elem 57)) := by kernel_rfl
theorem arr_size (w : World) : (sizeOf (Tryf.prog.elem 57)).run Tryf.prog w = .ok 1 w := by kernel_rfl
/-- 'p.readBuf[:h]' (and 'p.litBuf[:h]'). -/
theorem slice_arr_h (g o : Nat) (k : IntKind) (h : Nat) (hh : h ≤ 1024) (w : World) :
    (Instr.sliceAt 57 (.pointer (some ⟨g, o, none⟩)) none (some (.int k h)) none).run Tryf.prog w = .ok (.slice (some ⟨g, o, none⟩) h 1024) w := by
  rw [run_sliceAt_array_h w _ _ arr_und k h (by omega) (by rw [arr_len]; omega), arr_size]
  simp [slicedAt, arr_len, addr_add]
/-- 'p.readBuf[l:]'. -/
theorem slice_arr_l (g o : Nat) (k : IntKind) (l : Nat) (hl : l ≤ 1024) (w : World) :
    (Instr.sliceAt 57 (.pointer (some ⟨g, o, none⟩)) (some (.int k l)) none none).run Tryf.prog w = .ok (.slice (some (if 1024 = l then ⟨g, o, none⟩ else ⟨g, o + l, none⟩)) (1024 - l) (1024 - l)) w := by
  rw [run_sliceAt_array_l w _ _ arr_und k l (by omega) (by rw [arr_len]; omega), arr_size]
  simp [slicedAt, arr_len, addr_add]
end Go.Proofs.YtnjaeooblfihbaaFmt
