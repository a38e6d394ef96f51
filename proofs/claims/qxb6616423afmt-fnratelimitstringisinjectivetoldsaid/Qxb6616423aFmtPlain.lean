/-
  PLAIN LAWS ON DECIMAL NUMERALS: no slash among their bytes; a numeral tells its number; two numerals with a slash between them tell both.
-/
import Derived.Lib.ItoaNum
namespace Go.Proofs.Qxb6616423aFmt

theorem dig_toNat (d : Nat) (h : d < 10) : (UInt8.ofNat (48 + d)).toNat = 48 + d := by
  rw [UInt8.toNat_ofNat']
  omega

theorem dec_range : ∀ (n u : Nat), u ≤ n → ∀ c ∈ Lib.decDigits u, 48 ≤ c.toNat ∧ c.toNat ≤ 57
  | n, u, h, c, hc => by
    rw [Lib.decDigits] at hc
    by_cases k : u < 10
    · rw [dif_pos k] at hc
      simp only [List.mem_singleton] at hc
      subst hc
      rw [dig_toNat u k]
      omega
    · rw [dif_neg k] at hc
      rcases List.mem_append.1 hc with hc | hc
      · match n, h with
        | 0, h => omega
        | n + 1, h => exact dec_range n (u / 10) (by omega) c hc
      · simp only [List.mem_singleton] at hc
        subst hc
        rw [dig_toNat (u % 10) (by omega)]
        omega

theorem dec_ne (u : Nat) : Lib.decDigits u ≠ [] := by
  intro h
  have := Lib.decDigits_length u
  rw [h] at this
  have := Lib.nDigits_pos u
  simp at *
  omega

theorem no_slash (x : Int) : ∀ c ∈ Lib.itoa x, c ≠ 47 := by
  intro c hc e
  subst e
  have e47 : (47 : UInt8).toNat = 47 := rfl
  unfold Lib.itoa at hc
  split at hc
  · rcases List.mem_cons.1 hc with hc | hc
    · have := congrArg UInt8.toNat hc
      have e45 : (45 : UInt8).toNat = 45 := rfl
      omega
    · have := dec_range _ _ (Nat.le_refl _) _ hc
      omega
  · have := dec_range _ _ (Nat.le_refl _) _ hc
    omega

/-- What a row of digits is worth. -/
def worth (l : List UInt8) : Nat := l.foldl (fun a c => 10 * a + (c.toNat - 48)) 0

theorem worth_snoc (l : List UInt8) (c : UInt8) : worth (l ++ [c]) = 10 * worth l + (c.toNat - 48) := by
  unfold worth
  rw [List.foldl_append]
  rfl

theorem worth_dec : ∀ (n u : Nat), u ≤ n → worth (Lib.decDigits u) = u
  | n, u, h => by
    rw [Lib.decDigits]
    by_cases k : u < 10
    · rw [dif_pos k]
      show 10 * 0 + ((UInt8.ofNat (48 + u)).toNat - 48) = u
      rw [dig_toNat u k]
      omega
    · rw [dif_neg k, worth_snoc, dig_toNat (u % 10) (by omega)]
      match n, h with
      | 0, h => omega
      | n + 1, h =>
        rw [worth_dec n (u / 10) (by omega)]
        omega

theorem dec_inj (u v : Nat) (h : Lib.decDigits u = Lib.decDigits v) : u = v := by
  have := congrArg worth h
  rwa [worth_dec u u (Nat.le_refl _), worth_dec v v (Nat.le_refl _)] at this

theorem dec_head (u v : Nat) (h : Lib.decDigits u = 45 :: Lib.decDigits v) : False := by
  have := dec_range u u (Nat.le_refl _) 45 (by rw [h]; exact List.mem_cons_self)
  have e45 : (45 : UInt8).toNat = 45 := rfl
  omega

theorem itoa_inj (x y : Int) (h : Lib.itoa x = Lib.itoa y) : x = y := by
  unfold Lib.itoa at h
  by_cases a : x < 0
  · rw [if_pos a] at h
    by_cases b : y < 0
    · rw [if_pos b] at h
      have := dec_inj _ _ (List.cons.inj h).2
      omega
    · rw [if_neg b] at h
      exact (dec_head _ _ h.symm).elim
  · rw [if_neg a] at h
    by_cases b : y < 0
    · rw [if_pos b] at h
      exact (dec_head _ _ h).elim
    · rw [if_neg b] at h
      have := dec_inj _ _ h
      omega

theorem slash_inj : ∀ (p p' q q' : List UInt8), (∀ c ∈ p, c ≠ 47) → (∀ c ∈ p', c ≠ 47) → p ++ 47 :: q = p' ++ 47 :: q' → p = p' ∧ q = q'
  | [], [], q, q', _, _, h => ⟨rfl, (List.cons.inj h).2⟩
  | [], c :: p', q, q', _, h2, h => absurd (List.cons.inj h).1.symm (h2 c List.mem_cons_self)
  | c :: p, [], q, q', h1, _, h => absurd (List.cons.inj h).1 (h1 c List.mem_cons_self)
  | c :: p, c' :: p', q, q', h1, h2, h => by
    obtain ⟨e, h'⟩ := List.cons.inj h
    obtain ⟨a, b⟩ := slash_inj p p' q q' (fun d hd => h1 d (List.mem_cons_of_mem _ hd)) (fun d hd => h2 d (List.mem_cons_of_mem _ hd)) h'
    exact ⟨by rw [e, a], b⟩

/-- The numbers with a slash between them tell both. -/
theorem rate_inj (a s a' s' : Int) : (Lib.itoa a ++ 47 :: Lib.itoa s = Lib.itoa a' ++ 47 :: Lib.itoa s') ↔ (a = a' ∧ s = s') := by
  constructor
  · intro h
    obtain ⟨h1, h2⟩ := slash_inj _ _ _ _ (no_slash a) (no_slash a') h
    exact ⟨itoa_inj _ _ h1, itoa_inj _ _ h2⟩
  · rintro ⟨rfl, rfl⟩
    rfl

end Go.Proofs.Qxb6616423aFmt
