/-
  FnBracesNestedListFlattens: the walk.
-/
import Derived.Test.YtcemnjieahpcnaaFmtHO1
namespace Go.Proofs.YtcemnjieahpcnaaFmt
open Go.RowKit

theorem strV_app (xs ys : List ByteArray) : strV xs ++ strV ys = strV (xs ++ ys) := by simp [strV]
theorem strV_one (xs : List ByteArray) : ∀ v ∈ strV xs, v.oneCell' = true := by
  intro v hv
  simp only [strV, List.mem_map] at hv
  obtain ⟨x, _, rfl⟩ := hv
  rfl

theorem lit_row2 (w : World) (o1 o2 : Obj) (T : TypeId) (x : Value) : RdV Any (((w.alloc o1).alloc o2).alloc (.cells #[x] T)) (.slice (some ⟨w.heap.size + 1 + 1, 0, none⟩) 1 1) [x] := by
  have h := (OwnV.lit (T := T) ((w.alloc o1).alloc o2) [x] (by simp)).rd.weaken (Q := Any) (fun _ _ _ => trivial)
  rw [show ((w.alloc o1).alloc o2).heap.size = w.heap.size + 1 + 1 by simp] at h
  exact h
theorem own_all2 (tot : Nat) (ht : tot ≤ 1000000) (w : World) (o1 o2 : Obj) : OwnV 9 (((w.alloc o1).alloc o2).alloc (.cells (List.replicate tot (.string ⟨#[]⟩)).toArray 9)) (.slice (some ⟨w.heap.size + 1 + 1, 0, none⟩) 0 tot) [] := by
  have h := own_all tot ht ((w.alloc o1).alloc o2)
  rw [show ((w.alloc o1).alloc o2).heap.size = w.heap.size + 1 + 1 by simp] at h
  exact h
def w7B (w7 : World) (la b1 lb : Nat) : World := (w7.alloc (.cells #[litV la, brV b1, litV lb] 54)).alloc (.cells #[.slice (some ⟨w7.heap.size, 0, none⟩) 3 3] 38)
theorem w7B_kept (w7 : World) (la b1 lb : Nat) : Kept [] w7 (w7B w7 la b1 lb) := ((Kept.refl [] w7).alloc _).alloc _
theorem w7B_size (w7 : World) (la b1 lb : Nat) : (w7B w7 la b1 lb).heap.size = w7.heap.size + 1 + 1 := by unfold w7B; simp
def w4A (w4 : World) (b2 : Nat) : World := ((w4.alloc (.cells #[brV b2] 54)).alloc (.cells #[.slice (some ⟨w4.heap.size, 0, none⟩) 1 1] 38)).alloc (.cells #[.pointer (some ⟨w4.heap.size + 1, 0, none⟩)] 25)
theorem w4A_kept (w4 : World) (b2 : Nat) : Kept [] w4 (w4A w4 b2) := (((Kept.refl [] w4).alloc _).alloc _).alloc _
theorem w4A_size (w4 : World) (b2 : Nat) : (w4A w4 b2).heap.size = w4.heap.size + 3 := by unfold w4A; simp

set_option maxRecDepth 100000 in
set_option maxHeartbeats 3200000 in
theorem ok_Nest {w : World} {P Q : Nat → Prop} {A1 A2 : Option Addr} {n1 c1 n2 c2 : Nat} {a b : ByteArray} {xs ys : List ByteArray} (h1 : RdV P w (.slice A1 n1 c1) (strV xs)) (h2 : RdV Q w (.slice A2 n2 c2) (strV ys)) (hb1 : ∀ x ∈ xs, x.size ≤ 9223372036854775807) (hb2 : ∀ x ∈ ys, x.size ≤ 9223372036854775807) (s0 : a.size ≤ 9223372036854775807) (s1 : b.size ≤ 9223372036854775807)
    (hz : (acc 0 (a.size :: (b.size :: (n1 :: (szs xs ++ (n2 :: (szs ys ++ []))))))).isSome = true) (hnest : nestF a.size b.size xs ys = true) :
    Calls Tryf.prog 4 #[.string a, .string b, .slice A1 n1 c1, .slice A2 n2 c2] w fun e w' => e = .returned (.bool true) ∧ Kept [] w w' := by
  have HZ := zb_FnBracesNestedListFlattens (w := w) a b s0 s1 h1 hb1 h2 hb2
  rw [hz] at HZ
  obtain ⟨m, hm⟩ := Option.isSome_iff_exists.1 hz
  have hmem := acc_mem hm
  have t0 := hmem a.size (by simp); have t1 := hmem b.size (by simp); have t3 := hmem n1 (by simp); have t4 := hmem n2 (by simp)
  have HC := nest_any h1 h2 hb1 hb2 t0 t1 t3 t4
  rw [hnest] at HC
  obtain ⟨m1, m2, u3⟩ := nest_yes hnest
  have l1 := strs_len h1
  have l2 := strs_len h2
  rw [l1] at m1
  rw [l2] at m2
  have HZ := Lib.hid HZ; have HC := Lib.hid HC
  have HK1 := Lib.hid (clone_any h1 t3)
  have HK2 := Lib.hid (fun (w' : World) (k : Kept [] w w') => clone_any (h2.kept k (by simp)) t4)
  obtain ⟨tot, htot⟩ : ∃ t, t = n1 + n2 := ⟨_, rfl⟩
  have htb : tot ≤ 131072 := by omega
  have e12 : (n1 : Int) + n2 = tot := by rw [htot, Int.natCast_add]
  have hmk := make_all tot (by omega)
  have hlx : (strV xs).length = n1 := by simp [strV, l1]
  have hlz : (strV (xs ++ ys)).length = tot := by simp [strV, l1, l2]; omega
  have HLX := Lib.hid hlx; have HLZ := Lib.hid hlz
  have HTOT := Lib.hid htot
  have HU := Lib.hid u3
  have HL1 := Lib.hid l1; have HL2 := Lib.hid l2
  clear h1 h2 hb1 hb2 hz hnest hm hmem u3 l1 l2 htot hlx hlz
  have K0 : Hid (Kept [] w w) := Lib.hid (Kept.refl _ _)
  go_enter Tryf.func4, Tryf.ntmps4
  go_wp2_with (first
    | (go_at_call_of 11 (Value.pointer (some ⟨w12.heap.size + 1, 0, none⟩)); have hf := HF13.out; obtain ⟨vw, hvw, hrw⟩ := hf.word; have hbr := braces_any hf.exp (by simp) (by rw [oneW_length]; have := HLZ.out; simp [strV] at this; simp; omega) (fun y hy => by rw [oneW_mem y hy]; omega) hvw (hrw.weaken (fun g hg _ => hg)); refine hbr.mono ?_; clear hbr hvw hrw hf; rintro e w14 ⟨BB, dB, items2, rfl, hall, hit, hk14⟩; have hz14 : (xs ++ ys).length = tot := (by have := HLZ.out; simpa [strV] using this); rw [oneW_length, hz14] at hall ⊢; have HALL2 := Lib.hid hall; have HIT2 := Lib.hid hit; have K14 := Lib.hid hk14; clear hall hit hk14 hz14)
    | (go_at_call_of 11 (Value.pointer (some ⟨w7.heap.size + 1, 0, none⟩)); have hf := flat_new (w12b := w7B w12 la2 b3 lb2) HC10.out HLB.out K11.out K12.out HC12.out rfl; have hn := HN.out.kept (((K79.out.trans K10.out).trans (K11.out.trans K12.out)).trans hf.2); obtain ⟨vw, hvw, hrw⟩ := hn.word; have hbr := braces_any hn.exp (by simp) (by rw [oneW_length, HL1.out, HL2.out]; omega) (fun y hy => by rw [oneW_mem y hy]; omega) hvw (hrw.weaken (fun g hg _ => hg)); refine hbr.mono ?_; clear hbr hvw hrw; rintro e w13 ⟨BA, dA, items, rfl, hall, hit, hk13⟩; rw [oneW_length, HL1.out, HL2.out, ← HTOT.out] at hall ⊢; have HALL1 := Lib.hid hall; have HIT1 := Lib.hid hit; have K13 := Lib.hid (hf.2.trans hk13); have HN13 := Lib.hid (hn.kept hk13); have HF13 := Lib.hid (hf.1.kept hk13); clear hall hit hk13 hf hn)
    | (have hq := HOZ; clear hq; go_at_call_of 17 (Value.string a); refine (zlit_e _ _).mono ?_; rintro e w10 ⟨la2, rfl, hc10, hk10⟩; have HC10 := Lib.hid hc10; have K10 := Lib.hid hk10; clear hc10 hk10)
    | (have hq := HLB; clear hq; go_at_call_of 17 (Value.string b); refine (zlit_e _ _).mono ?_; rintro e w12 ⟨lb2, rfl, hc12, hk12⟩; have HC12 := Lib.hid hc12; have K12 := Lib.hid hk12; clear hc12 hk12)
    | (have hq := HOZ; clear hq; go_at_call_of 16 (Value.slice A9 tot c9); refine (listbrace_any (HOZ.out.rd.kept K10.out (by simp)) (by omega)).mono ?_; rintro e w11 ⟨b3, lz, rfl, hl11, hk11⟩; have HLB := Lib.hid hl11; have K11 := Lib.hid hk11; clear hl11 hk11)
    | (have hq := HOX; clear hq; at_builtin; refine wpList_app (l := strV xs) (p := strV ys) (P := Any) str_el rfl _ _ rfl rfl rfl HOX.out ((HR2.out.kept K28.out (by simp)).weaken (fun _ _ _ => trivial)) (strV_one ys) (by have := HLX.out; have := HLZ.out; simp [strV] at *; omega) ?_; intro v' w9 ho hb' hk'; rw [strV_app] at ho; obtain ⟨A9, c9, hv2, _⟩ := ho.rd; rw [HLZ.out] at hv2; subst hv2; have HOZ := Lib.hid ho; have K79 := Lib.hid (K78.out.own hk' (fun x hx => HX8.out x (mem_own hx))); clear ho hb' hk')
    | (have hq := HC7; clear hq; at_builtin; have hn := nest_new (w4a := w4A w4 b2) (w7b := w7B w7 la b1 lb) HO3.out HO4.out HL1.out HL2.out q1 q2 q3 (by omega) p1 p2 p3 rfl HO5.out HB5.out HK5.out rfl HC6.out K6.out HC7.out K7.out rfl; have hk27 : Kept [] w2 (w7B w7 la b1 lb) := (((K3.out.trans K4.out).weaken (S' := [r, b1]) (by simp)).trans hn.2).weaken (fun x hx => .inr (by simp at hx; rcases hx with rfl | rfl <;> omega)); have hkW := (Kept.refl [] (w7B w7 la b1 lb)).alloc (.cells (List.replicate tot (.string ⟨#[]⟩)).toArray 9); refine wpList_app (l := []) (p := strV xs) (P := Any) str_el rfl _ _ rfl rfl rfl (own_all2 tot (by omega) w7 _ _) ((HR1.out.kept (K2.out.trans (hk27.trans hkW)) (by simp)).weaken (fun _ _ _ => trivial)) (strV_one xs) (by rw [HLX.out]; simp; omega) ?_; intro v' w8 ho hb' hk'; rw [List.nil_append] at ho; obtain ⟨A8, c8, hv2, _⟩ := ho.rd; rw [HLX.out] at hv2; subst hv2; have hk8 : Kept [] (w7B w7 la b1 lb) w8 := hkW.own hk' (fun x hx => by rw [w7B_size]; have := mem_own hx; cases this; exact Nat.le_refl _); have HOX := Lib.hid ho; have K78 := Lib.hid hk8; have K27 := Lib.hid hk27; have K28 := Lib.hid (hk27.trans hk8); have HX8 : Hid (∀ g ∈ (Value.slice A8 n1 c8).ownBlock, (w7B w7 la b1 lb).heap.size ≤ g) := Lib.hid (fun g hg => by rcases hb' g hg with h | h; (cases h; rw [w7B_size]; exact Nat.le_refl _); exact Nat.le_trans hkW.size h); have HN := Lib.hid hn.1; clear ho hb' hk' hn hk27 hkW hk8)
    | (go_at_call 14; refine HZ.out.mono ?_; rintro e w' ⟨rfl, rfl⟩)
    | (go_at_call 15; refine HC.out.mono ?_; rintro e w' ⟨rfl, rfl⟩)
    | (go_at_call_of 9 (Value.slice A1 n1 c1); refine HK1.out.mono ?_; rintro e w1 ⟨B1, d1, rfl, hr1, hk1⟩; have HR1 := Lib.hid hr1; have K1 := Lib.hid hk1; clear hr1 hk1)
    | (go_at_call_of 9 (Value.slice A2 n2 c2); refine (HK2.out _ K1.out).mono ?_; rintro e w2 ⟨B2, d2, rfl, hr2, hk2⟩; have HR2 := Lib.hid hr2; have K2 := Lib.hid hk2; clear hr2 hk2)
    | (go_at_call_of 16 (Value.slice B1 n1 d1); refine (listbrace2_any (HR1.out.kept K2.out (by simp)) t3).mono ?_; rintro e w3 ⟨b1, r, m, u, eb, lx, rfl, hO, hk3, q1, q2, q3, q4, q5⟩; have HO := Lib.hid hO; have K3 := Lib.hid hk3; clear hO hk3)
    | (go_at_call_of 16 (Value.slice B2 n2 d2); refine (listbrace2_any (HR2.out.kept K3.out (by simp)) t4).mono ?_; rintro e w4 ⟨b2, r2, mm2, u2, eb2, ly, rfl, hO, hk4, p1, p2, p3, p4, p5⟩; have K4 := Lib.hid hk4; have HO4 := Lib.hid hO; have HO3 := Lib.hid (HO.out.kept hk4); have hc1 : w4.cell? ⟨b1, 1, none⟩ = some (.slice (some ⟨r, 0, none⟩) n1 n1) := row_cell (L := [.bool false, .slice (some ⟨r, 0, none⟩) n1 n1]) HO3.out.br 1; have hf1 : w4.frozen? ⟨b1, 1, none⟩ = false := row_free HO3.out.br 1; have hz4 : b1 < w4.heap.size := (by have := hk4.size; omega); clear hO hk4)
    | (at_builtin; refine wpList_app (l := ptrs eb n1) (p := [.pointer (some ⟨w4.heap.size + 1, 0, none⟩)]) (P := Any) word_el rfl _ _ rfl rfl rfl (HO3.out.own.kept (w4A_kept w4 b2) (by simp)) (lit_row2 w4 _ _ _ _) (by simp; rfl) (by simp [ptrs]; omega) ?_; intro v' w5 ho hb' hk'; replace hk' : Kept [r] (w4A w4 b2) w5 := hk'; obtain ⟨A5, c5, hv2, _⟩ := ho.rd; rw [List.length_append, show (ptrs eb n1).length = n1 by simp [ptrs], show [Value.pointer (some ⟨w4.heap.size + 1, 0, none⟩)].length = 1 from rfl] at hv2; subst hv2; have hb5 : b1 < (w4A w4 b2).heap.size := (by rw [w4A_size]; omega); have hn5 : b1 ∉ [r] := (by simp; omega); have hbr5 := (hk'.block b1 hb5 hn5).trans (((w4A_kept w4 b2).block b1 hz4 (by simp)).trans HO3.out.br); have hc5 : w5.cell? ⟨b1, 1, none⟩ = some (.slice (some ⟨r, 0, none⟩) n1 n1) := row_cell (L := [.bool false, .slice (some ⟨r, 0, none⟩) n1 n1]) hbr5 1; have hf5 : w5.frozen? ⟨b1, 1, none⟩ = false := row_free hbr5 1; have HO5 := Lib.hid ho; have HB5 := Lib.hid hb'; have HK5 := Lib.hid hk'; clear ho hb' hk' hbr5)
    | (go_at_call_of 17 (Value.string a); refine (zlit_e _ _).mono ?_; rintro e w6 ⟨la, rfl, hc6, hk6⟩; have HC6 := Lib.hid hc6; have K6 := Lib.hid hk6; clear hc6 hk6)
    | (go_at_call_of 17 (Value.string b); refine (zlit_e _ _).mono ?_; rintro e w7 ⟨lb, rfl, hc7, hk7⟩; have HC7 := Lib.hid hc7; have K7 := Lib.hid hk7; clear hc7 hk7))
  have hf := flat_new (w12b := w7B w12 la2 b3 lb2) HC10.out HLB.out K11.out K12.out HC12.out rfl
  have hn := HN.out.kept (((K79.out.trans K10.out).trans (K11.out.trans K12.out)).trans hf.2)
  obtain ⟨vw, hvw, hrw⟩ := hn.word
  have hbr := braces_any hn.exp (by simp) (by rw [oneW_length, HL1.out, HL2.out]; omega) (fun y hy => by rw [oneW_mem y hy]; omega) hvw (hrw.weaken (fun g hg _ => hg))
  refine hbr.mono ?_
  clear hbr hvw hrw
  rintro e w13 ⟨BA, dA, items, rfl, hall, hit, hk13⟩
  rw [oneW_length, HL1.out, HL2.out, ← HTOT.out] at hall ⊢
  have HALL1 := Lib.hid hall; have HIT1 := Lib.hid hit; have K13 := Lib.hid (hf.2.trans hk13); have HN13 := Lib.hid (hn.kept hk13); have HF13 := Lib.hid (hf.1.kept hk13)
  clear hall hit hk13 hf hn
  go_wp2_with fail
  have hf := HF13.out
  obtain ⟨vw, hvw, hrw⟩ := hf.word
  have hbr := braces_any hf.exp (by simp) (by rw [oneW_length]; have := HLZ.out; simp [strV] at this; simp; omega) (fun y hy => by rw [oneW_mem y hy]; omega) hvw (hrw.weaken (fun g hg _ => hg))
  refine hbr.mono ?_
  clear hbr hvw hrw hf
  rintro e w14 ⟨BB, dB, items2, rfl, hall, hit, hk14⟩
  have hz14 : (xs ++ ys).length = tot := (by have := HLZ.out; simpa [strV] using this)
  rw [oneW_length, hz14] at hall ⊢
  have HALL2 := Lib.hid hall; have HIT2 := Lib.hid hit; have K14 := Lib.hid hk14
  clear hall hit hk14 hz14
  go_wp2_with fail
  have hdA : dA ≤ 9223372036854775807 ∧ tot ≤ dA := by
    obtain ⟨_, _, e, q1, q2, _⟩ := HALL1.out.1.rd
    cases e
    unfold maxLen at q2
    exact ⟨by omega, q1⟩
  obtain ⟨hdA1, hdA2⟩ := hdA
  have hdB : dB ≤ 9223372036854775807 ∧ tot ≤ dB := by
    obtain ⟨_, _, e, q1, q2, _⟩ := HALL2.out.1.rd
    cases e
    unfold maxLen at q2
    exact ⟨by omega, q1⟩
  obtain ⟨hdB1, hdB2⟩ := hdB
  have HSZ := Lib.hid (fun (i : Nat) (x : ByteArray) (hx : (xs ++ ys)[i]? = some x) => (by have h1 := szs_mem hx; have h2 := HU.out; have h3 : (szs (xs ++ ys)).sum = (szs xs).sum + (szs ys).sum := (by simp [szs]); omega : a.size + x.size + b.size ≤ 1048576))
  have HW1 := Lib.hid (fun (i : Nat) (x : ByteArray) (hx : (xs ++ ys)[i]? = some x) => one_word (zs := xs ++ ys) HN13.out.ca HN13.out.cb HN13.out.cells HALL1.out (by rw [HIT1.out, List.length_append]) hx (by have := HSZ.out i x hx; omega))
  have HW2 := Lib.hid (fun (i : Nat) (x : ByteArray) (hx : (xs ++ ys)[i]? = some x) => one_word (zs := xs ++ ys) (HF13.out.kept K14.out).ca (HF13.out.kept K14.out).cb (HF13.out.kept K14.out).l.cells HALL2.out HIT2.out hx (by have := HSZ.out i x hx; omega))
  have HX := Lib.hid (fun (i : Nat) (x : ByteArray) (hx : (xs ++ ys)[i]? = some x) => (strs_at ((HOZ.out.rd.kept ((K10.out.trans (K11.out.trans K12.out)).trans (K13.out.trans K14.out)) (by simp)))).out i x hx)
  have hcapz := rd_cap HOZ.out.rd
  obtain ⟨q31, q32⟩ := hcapz
  have hzl : Hid ((xs ++ ys).length = tot) := Lib.hid (by have := HLZ.out; simpa [strV] using this)
  go_loopw [8, 18] (fun q i wr => ∃ k : Nat, k ≤ tot ∧ i = .int .i64 k ∧ q = .bool false ∧ Hid (Kept [] w14 wr)) (fun _ i _ => tot - (intOf i).toNat)
  case atStart => exact ⟨0, Nat.zero_le _, rfl, rfl, Lib.hid (Kept.refl _ _)⟩
  case round =>
    obtain ⟨k, hk, rfl, rfl, HK⟩ := hrel
    by_cases hlt : k < tot
    · obtain ⟨x, hx⟩ : ∃ x, (xs ++ ys)[k]? = some x := ⟨_, List.getElem?_eq_getElem (by rw [hzl.out]; exact hlt)⟩
      obtain ⟨g1, pk1, hBA, hcw1, hgw1, hlit1⟩ := HW1.out k x hx
      obtain ⟨g2, pk2, hBB, hcw2, hgw2, hlit2⟩ := HW2.out k x hx
      obtain ⟨g3, o3, hB9, hc3⟩ := HX.out k x hx
      have hg3 := block_lt_of_cell hc3
      have hsz := HSZ.out k x hx
      obtain ⟨S, hS⟩ : ∃ S, S = catB [a, x, b] := ⟨_, rfl⟩
      have HCAT : Hid (S.size ≤ 1000000000) := Lib.hid (by
        have z : ∀ p : ByteArray, p.data.toList.length = p.size := fun _ => rfl
        rw [hS]
        show (List.flatMap _ _).length ≤ _
        simp only [List.flatMap_cons, List.flatMap_nil, List.length_append, List.length_nil, z]
        omega)
      have HS2 : Hid (S = catB [a, x, b, ⟨#[]⟩, ⟨#[]⟩]) := Lib.hid (hS.trans (catB3 a x b))
      rw [← hS] at hlit1 hlit2
      have f0 : ∀ w', Kept [] w14 w' → w'.cell? ⟨g1, k, none⟩ = some (.pointer (some ⟨pk1, 0, none⟩)) := fun w' h => ((K14.out.trans h).cell (p := ⟨g1, k, none⟩) hgw1 (by simp)).trans hcw1
      have f1 : ∀ w', Kept [] w14 w' → w'.cell? ⟨g2, k, none⟩ = some (.pointer (some ⟨pk2, 0, none⟩)) := fun w' h => (h.cell (p := ⟨g2, k, none⟩) hgw2 (by simp)).trans hcw2
      have f2 : ∀ w', Kept [] w14 w' → w'.cell? ⟨g3, o3 + k, none⟩ = some (.string x) := fun w' h => (h.cell (p := ⟨g3, o3 + k, none⟩) hg3 (by simp)).trans hc3
      have d0 := f0 wr HK.out; have d1 := f1 wr HK.out; have d2 := f2 wr HK.out
      have F0 := Lib.hid f0; have F1 := Lib.hid f1; have F2 := Lib.hid f2; have HLIT1 := Lib.hid hlit1; have HLIT2 := Lib.hid hlit2
      clear hx hcw1 hcw2 hgw1 hgw2 hlit1 hlit2 hc3 hg3 f0 f1 f2 hS
      subst hBA hBB hB9
      go_wp2_with (first
        | (go_at_call_of 13 (Value.pointer (some ⟨pk1, 0, none⟩)); refine (HLIT1.out _ (K14.out.trans (by first | exact HK.out | exact HK.out.drew))).mono ?_; rintro e w15 ⟨rfl, hk5⟩; have HK5 : Hid (Kept [] w14 w15) := Lib.hid (by first | exact HK.out.trans hk5 | exact HK.out.drew.trans hk5); have d0 := F0.out w15 HK5.out; have d1 := F1.out w15 HK5.out; have d2 := F2.out w15 HK5.out; clear hk5)
        | (go_at_call_of 13 (Value.pointer (some ⟨pk2, 0, none⟩)); refine (HLIT2.out _ (by first | exact HK5.out | exact HK5.out.drew)).mono ?_; rintro e w16 ⟨rfl, hk6⟩; have HK6 : Hid (Kept [] w14 w16) := Lib.hid (by first | exact HK5.out.trans hk6 | exact HK5.out.drew.trans hk6); have d0 := F0.out w16 HK6.out; have d1 := F1.out w16 HK6.out; have d2 := F2.out w16 HK6.out; clear hk6)
        | (go_at_call 12; refine (iscat_yes _ _ _ _ _ _ HS2.out HCAT.out _).mono ?_; rintro e w' ⟨rfl, rfl⟩))
      go_roundw
      case rel => exact ⟨k + 1, by omega, by go_num, rfl, HK6⟩
      case measure => simp [intOf]; omega
    · obtain rfl : k = tot := by omega
      go_wp2_with fail
      go_ret
      exact ⟨rfl, (((K1.out.trans K2.out).trans (K27.out.trans K79.out)).trans ((K10.out.trans K11.out).trans (K12.out.trans K13.out))).trans (K14.out.trans HK.out)⟩
end Go.Proofs.YtcemnjieahpcnaaFmt
