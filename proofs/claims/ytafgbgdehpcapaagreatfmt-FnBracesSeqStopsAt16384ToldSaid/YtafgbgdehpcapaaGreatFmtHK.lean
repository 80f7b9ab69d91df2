/-
  The statements' own tests: zzIsCat.
-/
import Derived.Test.YtafgbgdehpcapaaGreatFmtHJ
namespace Go.Proofs.YtafgbgdehpcapaaGreatFmt
open Go.RowKit

theorem ext_of {s : ByteArray} {a n : Nat} {l : ByteArray} (h : (s.data.toList.drop a).take n = l.data.toList) : s.extract a (a + n) = l := by
  apply ByteArray.ext
  apply Array.toList_inj.1
  rw [ext_list, show a + n - a = n by omega, h]

theorem ext_mid {s p : ByteArray} {A R : List UInt8} {a : Nat} (h : s.data.toList = A ++ (p.data.toList ++ R)) (ha : A.length = a) : s.extract a (a + p.size) = p := by
  refine ext_of ?_
  have z : p.data.toList.length = p.size := rfl
  rw [h, ← ha, List.drop_left, ← z, List.take_left]

set_option maxRecDepth 100000 in
set_option maxHeartbeats 1600000 in
theorem iscat_yes (s p0 p1 p2 p3 p4 : ByteArray) (hs : s = catB [p0, p1, p2, p3, p4]) (hz : s.size ≤ 1000000000) (w : World) :
    Calls Tryz.prog 16 #[.string s, .string p0, .string p1, .string p2, .string p3, .string p4] w fun e w' => e = .returned (.bool true) ∧ w = w' := by
  have hl : s.data.toList = p0.data.toList ++ (p1.data.toList ++ (p2.data.toList ++ (p3.data.toList ++ p4.data.toList))) := by rw [hs]; simp [catB]
  have z : ∀ p : ByteArray, p.data.toList.length = p.size := fun _ => rfl
  have hsz : s.size = p0.size + p1.size + p2.size + p3.size + p4.size := by
    have := congrArg List.length hl
    simp only [List.length_append, z] at this
    omega
  have e0 : s.extract 0 p0.size = p0 := by
    have := ext_mid (s := s) (p := p0) (A := []) (a := 0) hl rfl
    simpa using this
  have e1 : s.extract p0.size (p0.size + p1.size) = p1 := ext_mid (A := p0.data.toList) hl (z p0)
  have e2 : s.extract (p0.size + p1.size) (p0.size + p1.size + p2.size) = p2 := ext_mid (A := p0.data.toList ++ p1.data.toList) (by rw [hl]; simp [List.append_assoc]; rfl) (by rw [List.length_append, z, z])
  have e3 : s.extract (p0.size + p1.size + p2.size) (p0.size + p1.size + p2.size + p3.size) = p3 := ext_mid (A := p0.data.toList ++ p1.data.toList ++ p2.data.toList) (by rw [hl]; simp [List.append_assoc]; rfl) (by rw [List.length_append, List.length_append, z, z, z])
  have e4 : s.extract (p0.size + p1.size + p2.size + p3.size) s.size = p4 := by
    rw [hsz]
    exact ext_mid (A := p0.data.toList ++ p1.data.toList ++ p2.data.toList ++ p3.data.toList) (R := []) (by rw [hl]; simp [List.append_assoc]) (by rw [List.length_append, List.length_append, List.length_append, z, z, z, z])
  clear hl hs z
  go_enter Tryz.func16, Tryz.ntmps16
  go_wp2_with fail
  go_ret
  rw [hsz] at e4
  exact ⟨by simp [e4], rfl⟩
/-- The running sum of lengths; none: too much. -/
def acc (n : Nat) : List Nat → Option Nat
  | [] => some n
  | s :: r => if 1048576 < s then none else if 1048576 < n + s then none else acc (n + s) r
theorem acc_le {n m : Nat} {l : List Nat} (hn : n ≤ 1048576) (h : acc n l = some m) : m ≤ 1048576 := by
  induction l generalizing n with
  | nil => cases h; exact hn
  | cons s r ih =>
    unfold acc at h
    split at h
    · cases h
    · split at h
      · cases h
      · exact ih (by omega) h
def szs (xs : List ByteArray) : List Nat := xs.map (·.size)
theorem szs_drop {xs : List ByteArray} {k : Nat} {x : ByteArray} (h : xs[k]? = some x) : (szs xs).drop k = x.size :: (szs xs).drop (k + 1) := by
  have hk : k < xs.length := (List.getElem?_eq_some_iff.1 h).1
  have e : xs[k] = x := (List.getElem?_eq_some_iff.1 h).2
  unfold szs
  rw [List.drop_eq_getElem_cons (by simpa using hk)]
  simp [e]
theorem szs_end {xs : List ByteArray} {k : Nat} (h : xs.length ≤ k) : (szs xs).drop k = [] := List.drop_of_length_le (by unfold szs; simpa using h)

/-- What zzListBytes answers. -/
def lbF (xs : List ByteArray) : Int := match acc (8 * xs.length) (szs xs) with
  | some m => m
  | none => 2097152

theorem strs_at {w : World} {P : Nat → Prop} {A : Option Addr} {n c : Nat} {xs : List ByteArray} (h : RdV P w (.slice A n c) (strV xs)) : Hid (∀ (k : Nat) (x : ByteArray), xs[k]? = some x → ∃ g o, A = some ⟨g, o, none⟩ ∧ w.cell? ⟨g, o + k, none⟩ = some (.string x)) := Lib.hid (fun k x hx => by
    have hk : k < xs.length := (List.getElem?_eq_some_iff.1 hx).1
    obtain ⟨g, o, rfl⟩ : ∃ g o, A = some ⟨g, o, none⟩ := by
      obtain ⟨_, c', e, h1, _, h3, h5, h4⟩ := h
      cases e
      obtain ⟨g, o, e, _⟩ := h4 (by simp [strV]; omega)
      exact ⟨g, o, e⟩
    exact ⟨g, o, rfl, (strs_cell h hx).1⟩)
theorem acc_sum {n m : Nat} {l : List Nat} (h : acc n l = some m) : m = n + l.sum := by
  induction l generalizing n with
  | nil => cases h; rfl
  | cons s r ih =>
    unfold acc at h
    split at h
    · cases h
    · split at h
      · cases h
      · rw [ih h, List.sum_cons]; omega
theorem lbF_bd (xs : List ByteArray) (hn : xs.length ≤ 131072) : 0 ≤ lbF xs ∧ lbF xs ≤ 2097152 := by
  unfold lbF
  split
  · rename_i m hm
    have := acc_le (by omega) hm
    omega
  · omega
/-- Where zzListBytes answers little: the very sum. -/
theorem lbF_small {xs : List ByteArray} (h : lbF xs ≤ 1048576) : lbF xs = 8 * xs.length + (szs xs).sum ∧ (szs xs).sum ≤ 1048576 := by
  unfold lbF at h ⊢
  split at h
  · rename_i m hm
    have := acc_sum hm
    omega
  · omega

set_option maxRecDepth 100000 in
set_option maxHeartbeats 1600000 in
theorem listbytes_any {w : World} {P : Nat → Prop} {A : Option Addr} {n c : Nat} {xs : List ByteArray} (h : RdV P w (.slice A n c) (strV xs)) (hn : n ≤ 131072) (hb : ∀ x ∈ xs, x.size ≤ 9223372036854775807) :
    Calls Tryz.prog 28 #[.slice A n c] w fun e w' => e = .returned (.int .i64 (lbF xs)) ∧ w = w' := by
  have hl := strs_len h
  have hcell : Hid (∀ (k : Nat) (x : ByteArray), xs[k]? = some x → ∃ g o, A = some ⟨g, o, none⟩ ∧ w.cell? ⟨g, o + k, none⟩ = some (.string x)) := Lib.hid (fun k x hx => by
    have hk : k < xs.length := (List.getElem?_eq_some_iff.1 hx).1
    obtain ⟨g, o, rfl⟩ : ∃ g o, A = some ⟨g, o, none⟩ := by
      obtain ⟨_, c', e, h1, _, h3, h5, h4⟩ := h
      cases e
      obtain ⟨g, o, e, _⟩ := h4 (by simp [strV]; omega)
      exact ⟨g, o, e⟩
    exact ⟨g, o, rfl, (strs_cell h hx).1⟩)
  have hsz : Hid (∀ (k : Nat) (x : ByteArray), xs[k]? = some x → x.size ≤ 9223372036854775807) := Lib.hid (fun k x hx => hb x (List.mem_of_getElem? hx))
  clear hb
  obtain ⟨rv, hrv⟩ : ∃ r, r = lbF xs := ⟨_, rfl⟩
  have HRV : Hid (rv = (match acc (8 * n) (szs xs) with | some m => (m : Int) | none => 2097152)) := Lib.hid (by rw [hrv, ← hl]; rfl)
  rw [← hrv]
  have HL := Lib.hid hl
  clear h hl hrv
  go_enter Tryz.func28, Tryz.ntmps28
  go_wp2_with fail
  go_loop [2, 3, 4] (fun q m i => ∃ k t : Nat, k ≤ n ∧ i = .int .i64 k ∧ m = .int .i64 t ∧ t ≤ 1048576 ∧ q = .int .i64 0 ∧ Hid (acc (8 * n) (szs xs) = acc t ((szs xs).drop k))) (fun _ _ i => n - (intOf i).toNat)
  case atStart => exact ⟨0, 8 * n, Nat.zero_le _, rfl, by go_num, by omega, rfl, Lib.hid rfl⟩
  case round =>
    obtain ⟨k, t, hk, rfl, rfl, ht, rfl, HA⟩ := hrel
    by_cases hlt : k < n
    · have hlt' : k < xs.length := by rw [HL.out]; exact hlt
      obtain ⟨x, hx⟩ : ∃ x, xs[k]? = some x := ⟨_, List.getElem?_eq_getElem hlt'⟩
      obtain ⟨g, o, hA, d0⟩ := hcell.out k x hx
      have hxs := hsz.out k x hx
      have HD : Hid (acc (8 * n) (szs xs) = if 1048576 < x.size then none else if 1048576 < t + x.size then none else acc (t + x.size) ((szs xs).drop (k + 1))) := Lib.hid (by rw [HA.out, szs_drop hx]; rfl)
      clear hlt' hx
      subst hA
      by_cases h1 : 1048576 < x.size
      · go_wp2_with fail
        go_ret
        rw [HRV.out, HD.out, if_pos h1]
        exact ⟨rfl, rfl⟩
      · by_cases h2 : 1048576 < t + x.size
        · go_wp2_with fail
          go_ret
          rw [HRV.out, HD.out, if_neg h1, if_pos h2]
          exact ⟨rfl, rfl⟩
        · have HD2 := Lib.hid (HD.out.trans ((if_neg h1).trans (if_neg h2)))
          go_wp2_with fail
          go_round
          case rel => exact ⟨k + 1, t + x.size, by omega, by go_num, by go_num, by omega, rfl, HD2⟩
          case measure => simp [intOf]; omega
    · obtain rfl : k = n := by omega
      go_wp2_with fail
      go_ret
      have e := HA.out
      rw [szs_end (by rw [HL.out]; exact Nat.le_refl _)] at e
      rw [HRV.out, e]
      exact ⟨rfl, rfl⟩
/-- What zzStrBytesOK answers. -/
def sobF (a b c : Nat) (xs ys : List ByteArray) (M : Nat) : Bool := decide (xs.length ≤ M) && (decide (ys.length ≤ M) && decide ((a : Int) + b + c + lbF xs + lbF ys ≤ 1048576))

set_option maxRecDepth 100000 in
set_option maxHeartbeats 1600000 in
theorem sob_any {w : World} {P Q : Nat → Prop} {A1 A2 : Option Addr} {n1 c1 n2 c2 M : Nat} {a b c : ByteArray} {xs ys : List ByteArray} (h1 : RdV P w (.slice A1 n1 c1) (strV xs)) (h2 : RdV Q w (.slice A2 n2 c2) (strV ys)) (hb1 : ∀ x ∈ xs, x.size ≤ 9223372036854775807) (hb2 : ∀ x ∈ ys, x.size ≤ 9223372036854775807) (ha : a.size ≤ 1048576) (hb : b.size ≤ 1048576) (hc : c.size ≤ 1048576) (hM : M ≤ 65536) (hn1 : n1 ≤ 1048576) (hn2 : n2 ≤ 1048576) :
    Calls Tryz.prog 17 #[.string a, .string b, .string c, .slice A1 n1 c1, .slice A2 n2 c2, .int .i64 M] w fun e w' => e = .returned (.bool (sobF a.size b.size c.size xs ys M)) ∧ w = w' := by
  have l1 := strs_len h1
  have l2 := strs_len h2
  by_cases m1 : n1 ≤ M
  case neg =>
    have e : sobF a.size b.size c.size xs ys M = false := by unfold sobF; rw [l1]; simp [m1]
    rw [e]
    clear e h1 h2 hb1 hb2 l1 l2
    go_enter Tryz.func17, Tryz.ntmps17
    go_wp2_with fail
    go_ret
    exact ⟨rfl, rfl⟩
  by_cases m2 : n2 ≤ M
  case neg =>
    have e : sobF a.size b.size c.size xs ys M = false := by unfold sobF; rw [l2]; simp [m2]
    rw [e]
    clear e h1 h2 hb1 hb2 l1 l2
    go_enter Tryz.func17, Tryz.ntmps17
    go_wp2_with fail
    go_ret
    exact ⟨rfl, rfl⟩
  have H1 := Lib.hid (listbytes_any h1 (by omega) hb1)
  have H2 := Lib.hid (listbytes_any h2 (by omega) hb2)
  have b1 := lbF_bd xs (by omega)
  have b2 := lbF_bd ys (by omega)
  have e : sobF a.size b.size c.size xs ys M = decide ((a.size : Int) + b.size + c.size + lbF xs + lbF ys ≤ 1048576) := by unfold sobF; rw [l1, l2]; simp [m1, m2]
  rw [e]
  obtain ⟨v1, hv1⟩ : ∃ v, v = lbF xs := ⟨_, rfl⟩
  obtain ⟨v2, hv2⟩ : ∃ v, v = lbF ys := ⟨_, rfl⟩
  rw [← hv1] at H1 b1 ⊢
  rw [← hv2] at H2 b2 ⊢
  obtain ⟨b10, b11⟩ := b1
  obtain ⟨b20, b21⟩ := b2
  clear e h1 h2 hb1 hb2 l1 l2 hv1 hv2
  go_enter Tryz.func17, Tryz.ntmps17
  go_wp2_with (first | (go_at_call_of 28 (Value.slice A1 n1 c1); refine H1.out.mono ?_; rintro e w' ⟨rfl, rfl⟩) | (go_at_call_of 28 (Value.slice A2 n2 c2); refine H2.out.mono ?_; rintro e w' ⟨rfl, rfl⟩))
  go_ret
  exact ⟨by simp, rfl⟩

set_option maxRecDepth 100000 in
set_option maxHeartbeats 1600000 in
theorem sumlen_any {w : World} {P : Nat → Prop} {A : Option Addr} {n c : Nat} {xs : List ByteArray} (h : RdV P w (.slice A n c) (strV xs)) (hs : (szs xs).sum ≤ 1048576) :
    Calls Tryz.prog 18 #[.slice A n c] w fun e w' => e = .returned (.int .u64 (szs xs).sum) ∧ w = w' := by
  have hl := strs_len h
  have hcell := strs_at h
  have hc63 : c ≤ 9223372036854775807 ∧ n ≤ c := by
    obtain ⟨_, c', e, h1, h2, _⟩ := h
    cases e
    unfold maxLen at h2
    exact ⟨by omega, h1⟩
  obtain ⟨h63, hnc⟩ := hc63
  obtain ⟨tot, htot⟩ : ∃ t, t = (szs xs).sum := ⟨_, rfl⟩
  rw [← htot] at hs ⊢
  have HT := Lib.hid htot
  have HL := Lib.hid hl
  have hsum : Hid (∀ (k : Nat), ((szs xs).take k).sum ≤ tot) := Lib.hid (fun k => by
    have := congrArg List.sum (List.take_append_drop k (szs xs))
    rw [List.sum_append] at this
    omega)
  have hnx : Hid (∀ (k : Nat) (x : ByteArray), xs[k]? = some x → ((szs xs).take (k + 1)).sum = ((szs xs).take k).sum + x.size) := Lib.hid (fun k x hx => by
    rw [List.take_add_one, List.sum_append]
    unfold szs
    rw [List.getElem?_map, hx]
    simp)
  clear h hl htot
  go_enter Tryz.func18, Tryz.ntmps18
  go_wp2_with fail
  go_loop [3, 4] (fun m i => ∃ k t : Nat, k ≤ n ∧ i = .int .i64 k ∧ m = .int .u64 t ∧ t ≤ tot ∧ Hid (t = ((szs xs).take k).sum)) (fun _ i => n - (intOf i).toNat)
  case atStart => exact ⟨0, 0, Nat.zero_le _, rfl, rfl, Nat.zero_le _, Lib.hid rfl⟩
  case round =>
    obtain ⟨k, t, hk, rfl, rfl, ht, HA⟩ := hrel
    by_cases hlt : k < n
    · have hlt' : k < xs.length := by rw [HL.out]; exact hlt
      obtain ⟨x, hx⟩ : ∃ x, xs[k]? = some x := ⟨_, List.getElem?_eq_getElem hlt'⟩
      obtain ⟨g, o, hA, d0⟩ := hcell.out k x hx
      have hnew : Hid (t + x.size = ((szs xs).take (k + 1)).sum) := Lib.hid (by rw [hnx.out k x hx, HA.out])
      have hle : t + x.size ≤ tot := by rw [hnew.out]; exact hsum.out _
      clear hlt' hx
      subst hA
      go_wp2_with fail
      go_round
      case rel => exact ⟨k + 1, t + x.size, by omega, by go_num, by go_num, hle, hnew⟩
      case measure => simp [intOf]; omega
    · obtain rfl : k = n := by omega
      have e : Hid (t = tot) := Lib.hid (by rw [HA.out, HT.out, List.take_of_length_le (by unfold szs; rw [List.length_map, HL.out]; exact Nat.le_refl _)])
      go_wp2_with fail
      go_ret
      rw [e.out]
      exact ⟨rfl, rfl⟩
end Go.Proofs.YtafgbgdehpcapaaGreatFmt
