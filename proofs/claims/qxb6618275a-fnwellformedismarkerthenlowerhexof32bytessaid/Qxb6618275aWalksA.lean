/-
  WALKS FOR 'FnWellFormedIsMarkerThenLowerHexOf32Bytes': the byte bound, CutPrefix, zzHasPrefixB1, zzHexDigitB1.
-/
import Derived.Test.Qxb6618275aRows
import Derived.Test.Qxb6618275aPlain
import Derived.WalkKit
import Derived.ProofKit
import Derived.BigQuiet
import Derived.Deep.QuietTactic
namespace Go.Proofs.Qxb6618275a
open Go.RowKit
set_option linter.unusedVariables false

theorem ret_bool {a b : Bool} (h : a = b) : Ending.returned (.bool a) = .returned (.bool b) := by rw [h]

set_option maxHeartbeats 400000 in
theorem bytes_any (a b c : ByteArray) (w : World) (h0 : a.size ≤ maxLen) (h1 : b.size ≤ maxLen) (h2 : c.size ≤ maxLen) :
    Calls Try.prog 4 #[.string a, .string b, .string c] w fun e w' => (∃ r, e = .returned (.bool r)) ∧ w' = w := by
  unfold maxLen at h0 h1 h2
  go_enter Try.func4, Try.ntmps4
  go_wp2
  all_goals
    go_ret
    exact ⟨⟨_, rfl⟩, rfl⟩

set_option maxHeartbeats 1000000 in
theorem cut_any (s p : ByteArray) (w : World) :
    Calls Try.prog 8 #[.string s, .string p] w fun e w' => e = .returned (.tuple #[.string ⟨(Lib.trimPrefix s.data.toList p.data.toList).toArray⟩, .bool (Lib.hasPrefix s.data.toList p.data.toList)]) ∧ w' = w := by
  go_enter Try.func8, Try.ntmps8
  go_wp2
  · have h2 : (!((s.extract 0 p.size).toList == p.toList)) = true := by assumption
    have h3 : (decide (p.size ≤ s.size) && ((s.extract 0 p.size).toList == p.toList)) = false := by
      have : ((s.extract 0 p.size).toList == p.toList) = false := by simpa using h2
      rw [this]
      simp
    go_ret2
    refine ⟨?_, rfl⟩
    rw [Lib.trimPrefix_miss s p h3, ← Lib.hasPrefix_raw, h3]
    rfl
  · have h1 : p.size ≤ s.size := by assumption
    have h2 : (!((s.extract 0 p.size).toList == p.toList)) = false := by assumption
    have h2' : ((s.extract 0 p.size).toList == p.toList) = true := by simpa using h2
    go_ret2
    refine ⟨?_, rfl⟩
    rw [Lib.trimPrefix_hit s p h1 h2', ← Lib.hasPrefix_raw, h2', decide_eq_true h1]
    rfl
  · have h1 : ¬ p.size ≤ s.size := by assumption
    have h3 : (decide (p.size ≤ s.size) && ((s.extract 0 p.size).toList == p.toList)) = false := by simp [h1]
    go_ret2
    refine ⟨?_, rfl⟩
    rw [Lib.trimPrefix_miss s p h3, ← Lib.hasPrefix_raw, h3]
    rfl

set_option maxHeartbeats 400000 in
theorem digit_any (n : Int) (w : World) (h0 : 0 ≤ n) (h : n < 16) :
    Calls Try.prog 9 #[.int .i64 n] w fun e w' => e = .returned (.int .u8 (dig n)) ∧ w' = w := by
  by_cases c : n < 10
  · have e := dig_lo n c
    generalize dig n = d at e
    subst e
    go_enter Try.func9, Try.ntmps9
    go_wp2
    go_ret
    exact ⟨rfl, rfl⟩
  · have e := dig_hi n c
    generalize dig n = d at e
    subst e
    go_enter Try.func9, Try.ntmps9
    go_wp2
    go_ret
    exact ⟨rfl, rfl⟩

set_option maxHeartbeats 400000 in
theorem has_any (s p : ByteArray) (w : World) (h0 : s.size ≤ maxLen) (h1 : p.size ≤ maxLen) :
    Calls Try.prog 6 #[.string s, .string p] w fun e w' => e = .returned (.bool (Lib.hasPrefix s.data.toList p.data.toList)) ∧ ∃ n, w' = w.drewN n := by
  unfold maxLen at h0 h1
  by_cases hl : s.size < p.size
  · have hf := has_short s p hl
    generalize Lib.hasPrefix s.data.toList p.data.toList = r at hf
    subst hf
    go_enter Try.func6, Try.ntmps6
    go_wp2
    go_ret
    exact ⟨rfl, 0, rfl⟩
  · go_enter Try.func6, Try.ntmps6
    go_wp2
    go_loopw [5] (fun i wx => ∃ k N : Nat, k ≤ p.size ∧ i = .int .i64 k ∧ wx = w.drewN N ∧ Hid (s.data.toList.take k = p.data.toList.take k)) (fun i _ => p.size - (intOf i).toNat)
    case atStart => exact ⟨0, 0, Nat.zero_le _, rfl, rfl, rfl⟩
    case round =>
      obtain ⟨k, N, hk, rfl, rfl, hr⟩ := hrel
      by_cases hlt : k < p.size
      · have hls : k < s.size := by omega
        by_cases hb : s[k] = p[k]
        · have hb2 : ((s[k].toNat : Int) != (p[k].toNat : Int)) = false := by simp [hb]
          have HB : Hid (s[k] = p[k]) := hb
          clear hb
          go_wp2
          go_quiet (fail)
          go_wp2
          go_roundw
          case rel => exact ⟨k + 1, _, by omega, by go_num, rfl, has_step s p k hls hlt hr.out HB.out⟩
          case measure => simp [intOf]; omega
        · have hb2 : ((s[k].toNat : Int) != (p[k].toNat : Int)) = true := by
            rw [bne_iff_ne]
            intro h
            apply hb
            apply UInt8.toNat_inj.1
            omega
          have HF : Hid (Lib.hasPrefix s.data.toList p.data.toList = false) := has_no s p k hls hlt hb
          clear hb
          go_wp2
          go_quiet (fail)
          go_wp2
          go_ret
          exact ⟨ret_bool HF.out.symm, _, World.drewN_drewN _ _ _⟩
      · have HT : Hid (Lib.hasPrefix s.data.toList p.data.toList = true) := has_yes s p k hlt hk hl hr.out
        clear hr
        go_wp2
        go_ret
        exact ⟨ret_bool HT.out.symm, _, rfl⟩
end Go.Proofs.Qxb6618275a
