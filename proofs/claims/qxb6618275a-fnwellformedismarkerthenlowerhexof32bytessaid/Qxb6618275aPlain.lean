/-
  PLAIN LAWS FOR 'FnWellFormedIsMarkerThenLowerHexOf32Bytes': lists of bytes and integers; no program in sight.
-/
import Derived.Lib.Strings
namespace Go.Proofs.Qxb6618275a

/-- A lowercase hex digit's byte. -/
def hexB (c : UInt8) : Bool := (decide (48 ≤ c.toNat) && decide (c.toNat ≤ 57)) || (decide (97 ≤ c.toNat) && decide (c.toNat ≤ 102))

/-- The text is 64 lowercase hex digits. -/
def lowB (l : List UInt8) : Bool := decide (l.length = 64) && l.all hexB

/-- What 'Kind(k).WellFormed(t)' answers. -/
def wfB (k t : List UInt8) : Bool := Lib.hasPrefix t k && lowB (t.drop k.length)

/-- What 'zzHexDigitB1' answers at a nibble. -/
def dig (n : Int) : Int := if n < 10 then 48 + n else 97 + (n - 10)

theorem dig_lo (n : Int) (h : n < 10) : dig n = 48 + n := by unfold dig; rw [if_pos h]
theorem dig_hi (n : Int) (h : ¬ n < 10) : dig n = 97 + (n - 10) := by unfold dig; rw [if_neg h]

theorem dig_bd (n : Int) (h0 : 0 ≤ n) (h : n < 16) : 48 ≤ dig n ∧ dig n ≤ 102 := by unfold dig; split <;> omega

theorem hexB_iff (c : UInt8) : hexB c = true ↔ (48 ≤ c.toNat ∧ c.toNat ≤ 57) ∨ (97 ≤ c.toNat ∧ c.toNat ≤ 102) := by
  simp [hexB]

theorem hexB_of_dig (c : UInt8) (n : Int) (h0 : 0 ≤ n) (h : n < 16) (e : (c.toNat : Int) = dig n) : hexB c = true := by
  rw [hexB_iff]
  unfold dig at e
  split at e <;> omega

theorem dig_of_hexB (c : UInt8) (h : hexB c = true) : ∃ n : Nat, n < 16 ∧ (c.toNat : Int) = dig n := by
  rw [hexB_iff] at h
  rcases h with h | h
  · exact ⟨c.toNat - 48, by omega, by unfold dig; rw [if_pos (by omega)]; omega⟩
  · exact ⟨c.toNat - 87, by omega, by unfold dig; rw [if_neg (by omega)]; omega⟩

/-- Whatever pair of bytes is no byte's hex text holds a byte that is no digit. -/
theorem pair_none (a b : UInt8) (h : ∀ v : Nat, v < 256 → ¬ ((a.toNat : Int) = dig (v / 16 : Nat) ∧ (b.toNat : Int) = dig (v % 16 : Nat))) : (hexB a && hexB b) = false := by
  cases ha : hexB a
  · rfl
  · cases hb : hexB b
    · rfl
    · exfalso
      obtain ⟨n, hn, en⟩ := dig_of_hexB a ha
      obtain ⟨m, hm, em⟩ := dig_of_hexB b hb
      refine h (16 * n + m) (by omega) ⟨?_, ?_⟩
      · rw [en, show (16 * n + m) / 16 = n by omega]
      · rw [em, show (16 * n + m) % 16 = m by omega]

theorem pair_some (a b : UInt8) (v : Nat) (hv : v < 256) (e1 : (a.toNat : Int) = dig (v / 16 : Nat)) (e2 : (b.toNat : Int) = dig (v % 16 : Nat)) : hexB a = true ∧ hexB b = true :=
  ⟨hexB_of_dig a _ (by omega) (by omega) e1, hexB_of_dig b _ (by omega) (by omega) e2⟩

theorem all_take_two (l : List UInt8) (k : Nat) (h : 2 * k + 1 < l.length) (hall : (l.take (2 * k)).all hexB = true) (ha : hexB (l[2 * k]'(by omega)) = true) (hb : hexB l[2 * k + 1] = true) :
    (l.take (2 * (k + 1))).all hexB = true := by
  rw [show 2 * (k + 1) = 2 * k + 1 + 1 by omega, List.take_succ_eq_append_getElem h, List.take_succ_eq_append_getElem (by omega : 2 * k < l.length)]
  simp only [List.all_append, hall, List.all_cons, List.all_nil, ha, hb, Bool.and_true]

theorem all_false_of_get (l : List UInt8) (k : Nat) (h : k < l.length) (hb : hexB l[k] = false) : l.all hexB = false := by
  rw [List.all_eq_false]
  exact ⟨l[k], List.getElem_mem _, by simp [hb]⟩

theorem all_take_one (l : List UInt8) (k : Nat) (h : k < l.length) (hall : (l.take k).all hexB = true) (ha : hexB l[k] = true) : (l.take (k + 1)).all hexB = true := by
  rw [List.take_succ_eq_append_getElem h]
  simp only [List.all_append, hall, List.all_cons, List.all_nil, ha, Bool.and_true]

theorem lowB_len (l : List UInt8) (h : l.length ≠ 64) : lowB l = false := by simp [lowB, h]
theorem lowB_all (l : List UInt8) (h : l.length = 64) : lowB l = l.all hexB := by simp [lowB, h]

theorem wfB_miss (k t : List UInt8) (h : Lib.hasPrefix t k = false) : wfB k t = false := by simp [wfB, h]
theorem wfB_hit (k t : List UInt8) (h : Lib.hasPrefix t k = true) : wfB k t = lowB (t.drop k.length) := by simp [wfB, h]
theorem wfB_nil (t : List UInt8) : wfB [] t = lowB t := by simp [wfB, Lib.hasPrefix]
theorem wfB_app (j r : List UInt8) : wfB j (j ++ r) = lowB r := by
  have : Lib.hasPrefix (j ++ r) j = true := by simp [Lib.hasPrefix]
  rw [wfB_hit _ _ this]
  simp

theorem wfB_one (k j t : List UInt8) (h1 : wfB k t = true) (h2 : wfB j t = true) : k = j := by
  simp only [wfB, lowB, Lib.hasPrefix, Bool.and_eq_true, decide_eq_true_eq, List.length_drop, List.isPrefixOf_iff_prefix] at h1 h2
  obtain ⟨p1, l1, _⟩ := h1
  obtain ⟨p2, l2, _⟩ := h2
  have e : k.length = j.length := by omega
  rw [List.prefix_iff_eq_take] at p1 p2
  rw [p1, p2, e]

/-! ### zzHasPrefixB1's loop -/
theorem len_list (s : ByteArray) : s.data.toList.length = s.size := (Lib.size_eq s).symm
theorem get_list (s : ByteArray) (k : Nat) (h : k < s.size) : s.data.toList[k]'(by rw [len_list]; exact h) = s[k] := rfl

theorem has_short (s p : ByteArray) (h : s.size < p.size) : Lib.hasPrefix s.data.toList p.data.toList = false := by
  rw [← Lib.hasPrefix_of_take, len_list, len_list]
  simp; omega

theorem has_step (s p : ByteArray) (k : Nat) (h1 : k < s.size) (h2 : k < p.size) (h : s.data.toList.take k = p.data.toList.take k) (e : s[k] = p[k]) :
    s.data.toList.take (k + 1) = p.data.toList.take (k + 1) := by
  rw [List.take_succ_eq_append_getElem (by rw [len_list]; exact h1), List.take_succ_eq_append_getElem (by rw [len_list]; exact h2), h, get_list s k h1, get_list p k h2, e]

theorem has_no (s p : ByteArray) (k : Nat) (h1 : k < s.size) (h2 : k < p.size) (e : s[k] ≠ p[k]) : Lib.hasPrefix s.data.toList p.data.toList = false := by
  cases hc : Lib.hasPrefix s.data.toList p.data.toList
  · rfl
  · exfalso
    rw [Lib.hasPrefix, List.isPrefixOf_iff_prefix] at hc
    obtain ⟨r, hr⟩ := hc
    apply e
    rw [← get_list s k h1, ← get_list p k h2]
    have : s.data.toList[k]? = p.data.toList[k]? := by
      rw [← hr, List.getElem?_append_left (by rw [len_list]; exact h2)]
    rw [List.getElem?_eq_getElem (by rw [len_list]; exact h1), List.getElem?_eq_getElem (by rw [len_list]; exact h2)] at this
    exact Option.some.inj this

theorem has_yes (s p : ByteArray) (k : Nat) (hk : ¬ k < p.size) (hk' : k ≤ p.size) (hl : ¬ s.size < p.size) (h : s.data.toList.take k = p.data.toList.take k) : Lib.hasPrefix s.data.toList p.data.toList = true := by
  have : k = p.size := by omega
  subst this
  rw [← Lib.hasPrefix_of_take, len_list, len_list, h]
  have : p.data.toList.take p.size = p.data.toList := List.take_of_length_le (by rw [len_list]; exact Nat.le_refl _)
  rw [this]
  simp; omega

theorem wfB_two (k j t : List UInt8) (h : k ≠ j) : (wfB k t && wfB j t) = false := by
  cases h1 : wfB k t
  · rfl
  · cases h2 : wfB j t
    · rfl
    · exact absurd (wfB_one k j t h1 h2) h

/-! ### zzIsLowerHexOf32B1's two loops -/
theorem hex_hit (d : ByteArray) (k j j1 v q r : Nat) (bj : j < d.size) (bj1 : j1 < d.size) (hj : j = 2 * k) (hj1 : j1 = j + 1) (hv : v < 256) (hq : q = v / 16) (hr : r = v % 16)
    (hall : (d.data.toList.take (2 * k)).all hexB = true) (ha : (d[j].toNat : Int) = dig q) (hb : (d[j1].toNat : Int) = dig r) : (d.data.toList.take (2 * (k + 1))).all hexB = true := by
  subst hq hr hj1 hj
  obtain ⟨pa, pb⟩ := pair_some d[2 * k] d[2 * k + 1] v hv ha hb
  exact all_take_two d.data.toList k (by rw [len_list]; exact bj1) hall pa pb

theorem hex_next (A B : Int) (v q r : Nat) (hq : q = v / 16) (hr : r = v % 16) (hn : ∀ u : Nat, u < v → ¬ (A = dig (u / 16 : Nat) ∧ B = dig (u % 16 : Nat))) (hno : ¬ (A = dig q ∧ B = dig r)) :
    ∀ u : Nat, u < v + 1 → ¬ (A = dig (u / 16 : Nat) ∧ B = dig (u % 16 : Nat)) := by
  subst hq hr
  intro u hu
  by_cases h : u = v
  · subst h
    exact hno
  · exact hn u (by omega)

theorem hex_out (d : ByteArray) (j j1 v : Nat) (bj : j < d.size) (bj1 : j1 < d.size) (hl : d.size = 64) (hv : ¬ v < 256)
    (hn : ∀ u : Nat, u < v → ¬ ((d[j].toNat : Int) = dig (u / 16 : Nat) ∧ (d[j1].toNat : Int) = dig (u % 16 : Nat))) : lowB d.data.toList = false := by
  rw [lowB_all _ (by rw [len_list]; exact hl)]
  have h := pair_none d[j] d[j1] fun u hu => hn u (by omega)
  rcases Bool.and_eq_false_iff.1 h with h | h
  · exact all_false_of_get _ j (by rw [len_list]; exact bj) h
  · exact all_false_of_get _ j1 (by rw [len_list]; exact bj1) h

theorem hex_end (d : ByteArray) (k : Nat) (hl : d.size = 64) (hk : ¬ k < 32) (hall : (d.data.toList.take (2 * k)).all hexB = true) : lowB d.data.toList = true := by
  have hs : d.data.toList.length = 64 := by rw [len_list]; exact hl
  rw [lowB_all _ hs]
  rw [List.take_of_length_le (by omega)] at hall
  exact hall

theorem hex_len (d : ByteArray) (hl : ¬ d.size = 64) : lowB d.data.toList = false := lowB_len _ (by rw [len_list]; exact hl)

end Go.Proofs.Qxb6618275a
