/-
  bracesSeqRec: what it does with a word, whatever braces (lists) are in it; expand.Braces.
-/
import Derived.Test.YtafgbgdehpcapaaGreatFmtHF
namespace Go.Proofs.YtafgbgdehpcapaaGreatFmt
open Go.RowKit

theorem bsr {w0 : World} {B : Nat} {ps : List Value} {yss : List (List Value)} (h : Exp w0 B ps yss) : BsrOk w0 B ps yss := by
  induction h with
  | done ls h =>
    intro σ G fk cap step J hc hl s F w pw v hG hj hold hword hpw hrow
    rw [runs_one]
    exact bsr_done h hl hc hG.1 hj hold hword hpw hrow
  | br ls hl b n eb hb r ps hw ys hx hlen ho ih => exact bsr_br hl hb hw hlen ho ih rfl

/-- What Braces has gathered: block, parts' slice, parts of each word. -/
def AllAt (w : World) (vall : Value) (items : List (Nat × Value × List Value)) : Prop :=
  OwnV 26 w vall (items.map fun t => .pointer (some ⟨t.1, 0, none⟩)) ∧ ∀ t ∈ items, WordAt w t.1 t.2.1 ∧ OwnV 52 w t.2.1 t.2.2
def JAll (B ab : Nat) (s : List (List Value)) (F : List Nat) (w : World) : Prop :=
  ∃ (vall : Value) (items : List (Nat × Value × List Value)), s = items.map (·.2.2) ∧ w.heap[ab]? = some (.cells #[vall] 28 (0, 0)) ∧ AllAt w vall items ∧ F = ab :: (vall.ownBlock.toList ++ items.flatMap fun t => t.1 :: t.2.1.ownBlock.toList) ∧ ∀ x ∈ F, B ≤ x

theorem OwnV.block {T : TypeId} {w : World} {v : Value} {l : List Value} (h : OwnV T w v l) : ∀ g ∈ v.ownBlock, ∃ cs, w.heap[g]? = some (.cells cs T (0, 0)) := by
  intro g hg
  rcases h.2 with ⟨rfl, _⟩ | ⟨g', cap, cur, rfl, _, hg', _⟩
  · cases hg
  · cases hg
    exact ⟨cur, hg'⟩
theorem AllAt.kept {w w' : World} {vall : Value} {items : List (Nat × Value × List Value)} {S : List Nat} (h : AllAt w vall items) (k : Kept S w w') (h1 : ∀ g ∈ vall.ownBlock, g ∉ S) (h2 : ∀ t ∈ items, t.1 ∉ S ∧ ∀ g ∈ t.2.1.ownBlock, g ∉ S) : AllAt w' vall items :=
  ⟨h.1.kept k h1, fun t ht => ⟨(h.2 t ht).1.kept k (h2 t ht).1, (h.2 t ht).2.kept k (h2 t ht).2⟩⟩
theorem JAll.keep {B ab : Nat} {s : List (List Value)} {F : List Nat} {w w' : World} {S : List Nat} (h : JAll B ab s F w) (k : Kept S w w') (hS : ∀ x ∈ S, x ∉ F) : JAll B ab s F w' := by
  obtain ⟨vall, items, rfl, h1, h2, rfl, h3⟩ := h
  refine ⟨vall, items, rfl, (k.block _ (heap_lt h1) (fun hm => hS _ hm (by simp))).trans h1, h2.kept k (fun g hg hm => hS g hm ?_) (fun t ht => ⟨fun hm => hS _ hm ?_, fun g hg hm => hS g hm ?_⟩), rfl, h3⟩
  · have h' : vall.ownBlock = some g := hg
    simp [h']
  · simp only [List.mem_cons, List.mem_append, List.mem_flatMap]
    exact .inr (.inr ⟨t, ht, .inl rfl⟩)
  · have h' : t.2.1.ownBlock = some g := hg
    simp only [List.mem_cons, List.mem_append, List.mem_flatMap]
    exact .inr (.inr ⟨t, ht, .inr (by simp [h'])⟩)
theorem JAll.lt {B ab : Nat} {s : List (List Value)} {F : List Nat} {w : World} (h : JAll B ab s F w) : ∀ x ∈ F, B ≤ x ∧ x < w.heap.size := by
  obtain ⟨vall, items, rfl, h1, h2, rfl, h3⟩ := h
  intro x hx
  refine ⟨h3 x hx, ?_⟩
  simp only [List.mem_cons, List.mem_append, List.mem_flatMap] at hx
  rcases hx with rfl | h | ⟨t, ht, h | h⟩
  · exact heap_lt h1
  · exact h2.1.lt x (mem_own h)
  · subst h; exact heap_lt (h2.2 t ht).1
  · exact (h2.2 t ht).2.lt x (mem_own h)

/-- One word more. -/
theorem jall_step {B ab : Nat} {w w2 : World} {vall v2 : Value} {items : List (Nat × Value × List Value)} {F : List Nat} {pw : Nat} {v : Value} {ls : List Value} {ob : Obj} (h1 : w.heap[ab]? = some (.cells #[vall] 28 (0, 0))) (h2 : AllAt w vall items) (hF : F = ab :: (vall.ownBlock.toList ++ items.flatMap fun t => t.1 :: t.2.1.ownBlock.toList)) (h3 : ∀ x ∈ F, B ≤ x) (hB : B ≤ pw) (hb : B ≤ w.heap.size) (hword : WordAt w pw v) (hown : OwnV 52 w v ls) (hrow : ∀ g ∈ v.ownBlock, B ≤ g)
    (ho : OwnV 26 w2 v2 (items.map (fun t => .pointer (some ⟨t.1, 0, none⟩)) ++ [.pointer (some ⟨pw, 0, none⟩)])) (hb2 : ∀ g ∈ v2.ownBlock, vall.ownBlock = some g ∨ (w.alloc ob).heap.size ≤ g) (hk : Kept vall.ownBlock.toList (w.alloc ob) w2) :
    CallPost (JAll B ab) (items.map (·.2.2) ++ [ls]) F pw v.ownBlock w (w2.setCell ⟨ab, 0, none⟩ v2) := by
  have k1 : Kept vall.ownBlock.toList w w2 := ((Kept.refl _ _).alloc ob).trans hk
  have ka : Kept (ab :: vall.ownBlock.toList) w (w2.setCell ⟨ab, 0, none⟩ v2) := (k1.weaken (by simp; intro x hx; simp [hx])).setCell (by simp) v2
  have kb : Kept [ab] w2 (w2.setCell ⟨ab, 0, none⟩ v2) := (Kept.refl _ _).setCell (by simp) v2
  have row : ∀ g, vall.ownBlock = some g → ∃ cs, w.heap[g]? = some (.cells cs 26 (0, 0)) := fun g hg => h2.1.block g hg
  have nW : ∀ {t : Nat} {u : Value}, WordAt w t u → t ∉ ab :: vall.ownBlock.toList := fun hw hm => by
    rcases List.mem_cons.1 hm with h | h
    · subst h; unfold WordAt at hw; rw [h1] at hw; simp at hw
    · obtain ⟨cs, hc⟩ := row _ (mem_own h)
      unfold WordAt at hw
      rw [hc] at hw
      simp at hw
  have nP : ∀ {u : Value} {l : List Value}, OwnV 52 w u l → ∀ g ∈ u.ownBlock, g ∉ ab :: vall.ownBlock.toList := fun hu g hg hm => by
    obtain ⟨cs, hc⟩ := hu.block g hg
    rcases List.mem_cons.1 hm with h | h
    · subst h; rw [h1] at hc; simp at hc
    · obtain ⟨cs', hc'⟩ := row _ (mem_own h)
      rw [hc'] at hc
      simp at hc
  have nA : ab ∉ vall.ownBlock.toList := fun h => by
    obtain ⟨cs, hc⟩ := row _ (mem_own h)
    rw [h1] at hc
    simp at hc
  have e2 : w2.heap[ab]? = some (.cells #[vall] 28 (0, 0)) := (k1.block _ (heap_lt h1) nA).trans h1
  have nA2 : ∀ g ∈ v2.ownBlock, g ≠ ab := fun g hg h => by
    obtain ⟨cs, hc⟩ := ho.block g hg
    rw [h, e2] at hc
    simp at hc
  have hzz : (w.alloc ob).heap.size = w.heap.size + 1 := by simp
  refine ⟨ab :: (v2.ownBlock.toList ++ (items ++ [(pw, v, ls)]).flatMap fun t => t.1 :: t.2.1.ownBlock.toList), ⟨v2, items ++ [(pw, v, ls)], by simp, row0s e2, ⟨by simpa using ho.kept kb (fun g hg => by simpa using nA2 g hg), ?_⟩, rfl, ?_⟩, ?_, ?_⟩
  · intro t ht
    rcases List.mem_append.1 ht with h | h
    · exact ⟨(h2.2 t h).1.kept ka (nW (h2.2 t h).1), (h2.2 t h).2.kept ka (nP (h2.2 t h).2)⟩
    · obtain rfl := List.mem_singleton.1 h
      exact ⟨hword.kept ka (nW hword), hown.kept ka (nP hown)⟩
  · intro x hx
    simp only [List.mem_cons, List.mem_append, List.flatMap_append, List.flatMap_cons, List.flatMap_nil, List.append_nil] at hx
    rcases hx with h | h | h | h | h
    · exact h3 x (by rw [hF, h]; simp)
    · rcases hb2 x (mem_own h) with h' | h'
      · exact h3 x (by rw [hF]; simp [h'])
      · omega
    · exact h3 x (by rw [hF]; simp only [List.mem_cons, List.mem_append]; exact .inr (.inr h))
    · omega
    · exact hrow x (mem_own h)
  · intro x hx
    simp only [List.mem_cons, List.mem_append, List.flatMap_append, List.flatMap_cons, List.flatMap_nil, List.append_nil] at hx
    rcases hx with h | h | h | h | h
    · exact .inl (by rw [hF, h]; simp)
    · rcases hb2 x (mem_own h) with h' | h'
      · exact .inl (by rw [hF]; simp [h'])
      · exact .inr (.inr (.inr (by omega)))
    · exact .inl (by rw [hF]; simp only [List.mem_cons, List.mem_append]; exact .inr (.inr h))
    · exact .inr (.inl h)
    · exact .inr (.inr (.inl (mem_own h)))
  · refine ka.weaken (fun x hx => .inl ?_)
    rw [hF]
    rcases List.mem_cons.1 hx with h | h
    · simp [h]
    · simp only [List.mem_cons, List.mem_append]
      exact .inr (.inr (.inl h))

set_option maxRecDepth 100000 in
theorem all_call {B ab : Nat} {w0 : World} {s : List (List Value)} {F : List Nat} {w : World} {pw : Nat} {v : Value} {ls : List Value} (hj : JAll B ab s F w) (hold : Old B w0 w) (hword : WordAt w pw v) (hB : B ≤ pw) (hown : OwnV 52 w v ls) (hrow : ∀ g ∈ v.ownBlock, B ≤ g) (hs : s.length ≤ 1000000000) :
    Calls Tryz.prog 22 #[.pointer (some ⟨pw, 0, none⟩), .pointer (some ⟨ab, 0, none⟩)] w fun e w' => e = .returned (.bool true) ∧ CallPost (JAll B ab) (s ++ [ls]) F pw v.ownBlock w w' := by
  obtain ⟨vall, items, rfl, h1, h2, hF, h3⟩ := hj
  obtain ⟨A, c, hv, _⟩ := h2.1.rd
  rw [List.length_map] at hv hs
  have hrd := h2.1
  subst hv
  have c1 := row0 h1
  have f1 := row0f h1
  have hz := heap_lt h1
  have H1 := Lib.hid h1; have H2 := Lib.hid h2; have HF := Lib.hid hF; have H3 := Lib.hid h3; have HOLD := Lib.hid hold.1; have HW := Lib.hid hword; have HO := Lib.hid hown; have HR := Lib.hid hrow
  obtain ⟨il, hil⟩ : ∃ il, il = items.map fun t => Value.pointer (some ⟨t.1, 0, none⟩) := ⟨_, rfl⟩
  obtain ⟨n, hn⟩ : ∃ n, n = items.length := ⟨_, rfl⟩
  rw [← hn] at c1 hs hrd
  rw [← hil] at hrd
  have hkr := Lib.hid (hrd.kept ((Kept.refl [] w).alloc (.cells #[.pointer (some ⟨pw, 0, none⟩)] 26)) (by simp))
  have hill : il.length = n := by rw [hil, List.length_map, hn]
  have HIL := Lib.hid hil; have HN := Lib.hid hn; have HLL := Lib.hid hill
  clear h1 h2 hF h3 hold hword hown hrow hil hn hrd hill
  go_enter Tryz.func22, Tryz.ntmps22
  go_wp2_with (at_builtin; refine wpList_app word_el rfl _ _ rfl rfl rfl hkr.out (OwnV.lit w [.pointer (some ⟨pw, 0, none⟩)] (by simp)).rd (by simp; rfl) (by rw [HLL.out]; simp; omega) ?_; intro v' w2 ho hb' hk'; obtain ⟨A2, m2, hv2, _⟩ := ho.rd; rw [List.length_append, HLL.out, show [Value.pointer (some ⟨pw, 0, none⟩)].length = 1 from rfl] at hv2; subst hv2; have e0 : w2.heap[ab]? = some (.cells #[.slice A n c] 28 (0, 0)) := (hk'.block _ (by simp; omega) (fun hm => by have h1 := H1.out; obtain ⟨cs, hc⟩ := H2.out.1.block _ (by rw [HN.out] at hm; exact mem_own hm); rw [h1] at hc; simp at hc)).trans ((Below.heap_alloc _ _ _ hz).trans (by rw [HN.out]; exact H1.out)); have e2 := row0 e0; have f2 := row0f e0; have HO2 := Lib.hid ho; have HB2 := Lib.hid hb'; have HK2 := Lib.hid hk'; clear ho hb' hk' e0)
  go_ret
  refine ⟨rfl, ?_⟩
  have ho := HO2.out; have hb := HB2.out; have hk := HK2.out
  rw [HIL.out] at ho
  rw [HN.out] at ho hb hk ⊢
  exact jall_step H1.out H2.out HF.out H3.out hB HOLD.out HW.out HO.out HR.out ho hb hk
end Go.Proofs.YtafgbgdehpcapaaGreatFmt
