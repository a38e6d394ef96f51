/-
  WALKS FOR 'FnWellFormedIsMarkerThenLowerHexOf32Bytes': zzIsLowerHexOf32B1.
-/
import Derived.Test.Qxb6618275aWalksA
namespace Go.Proofs.Qxb6618275a
open Go.RowKit
set_option linter.unusedVariables false

theorem i64_and15 (n : Int) : bits .and .i64 n 15 = n % 16 := by
  have h15 : (BitVec.ofInt 64 15).toNat = 2 ^ 4 - 1 := by decide
  have key : (BitVec.ofInt 64 n &&& BitVec.ofInt 64 15).toNat = (n % ((2 ^ 64 : Nat) : Int)).toNat % 2 ^ 4 := by
    rw [BitVec.toNat_and, BitVec.toNat_ofInt, h15, Nat.and_two_pow_sub_one_eq_mod]
  show IntKind.i64.wrap ((BitVec.ofInt 64 n &&& BitVec.ofInt 64 15).toNat : Nat) = n % 16
  rw [key, IntKind.wrap_i64]
  omega

theorem wrap_two (k j : Nat) (hk : k < 32) (hj : j = 2 * k) : IntKind.i64.wrap (2 * (k : Int)) = (j : Int) := by
  rw [IntKind.wrap_i64]; omega
theorem wrap_one (j j1 : Nat) (hj : j < 64) (hj1 : j1 = j + 1) : IntKind.i64.wrap ((j : Int) + 1) = (j1 : Int) := by
  rw [IntKind.wrap_i64]; omega

set_option maxHeartbeats 1000000 in
set_option maxRecDepth 100000 in
theorem hex_any (d : ByteArray) (w : World) (h0 : d.size ≤ maxLen) :
    Calls Try.prog 7 #[.string d] w fun e w' => e = .returned (.bool (lowB d.data.toList)) ∧ ∃ n, w' = w.drewN n := by
  unfold maxLen at h0
  by_cases hl : d.size = 64
  · have h1 : ((d.size : Int) != 64) = false := by rw [hl]; rfl
    have h2 : 64 ≤ d.size := by omega
    clear h0
    have HL : Hid (d.size = 64) := hl
    clear hl
    go_enter Try.func7, Try.ntmps7
    go_wp2
    go_loopw [3] (fun i wx => ∃ k N : Nat, k ≤ 32 ∧ i = .int .i64 k ∧ wx = w.drewN N ∧ Hid ((d.data.toList.take (2 * k)).all hexB = true)) (fun i _ => 32 - (intOf i).toNat)
    case atStart => exact ⟨0, 0, Nat.zero_le _, rfl, rfl, rfl⟩
    case round =>
      obtain ⟨k, N, hk, rfl, rfl, hr⟩ := hrel
      by_cases hlt : k < 32
      · obtain ⟨j, hj⟩ : ∃ j, j = 2 * k := ⟨_, rfl⟩
        obtain ⟨j1, hj1⟩ : ∃ j1, j1 = j + 1 := ⟨_, rfl⟩
        have bj : j < d.size := by omega
        have bj1 : j1 < d.size := by omega
        have m1 := wrap_two k j hlt hj
        have m2 := wrap_one j j1 (by omega) hj1
        have HJ : Hid (j = 2 * k) := hj
        have HJ1 : Hid (j1 = j + 1) := hj1
        clear hj hj1
        go_wp2
        go_loopw [4, 5] (fun f i wx => ∃ v N : Nat, v ≤ 256 ∧ i = .int .i64 v ∧ f = .bool false ∧ wx = w.drewN N ∧ Hid (∀ u : Nat, u < v → ¬ ((d[j].toNat : Int) = dig (u / 16 : Nat) ∧ (d[j1].toNat : Int) = dig (u % 16 : Nat)))) (fun _ i _ => 256 - (intOf i).toNat)
        case atStart => exact ⟨0, N, Nat.zero_le _, rfl, rfl, rfl, fun u hu => absurd hu (Nat.not_lt_zero _)⟩
        case round =>
          obtain ⟨v, M, hv, rfl, rfl, rfl, hn⟩ := hrel
          by_cases hvt : v < 256
          · obtain ⟨q, hq⟩ : ∃ q, q = v / 16 := ⟨_, rfl⟩
            obtain ⟨r, hr15⟩ : ∃ r, r = v % 16 := ⟨_, rfl⟩
            have n1 : (v : Int) / 16 = (q : Int) := by omega
            have n2 : bits .and .i64 (v : Int) 15 = (r : Int) := by rw [i64_and15]; omega
            have bq : q < 16 := by omega
            have br : r < 16 := by omega
            have HQ : Hid (q = v / 16) := hq
            have HR : Hid (r = v % 16) := hr15
            clear hq hr15
            by_cases hA : (d[j].toNat : Int) = dig q
            · have hA2 : ((d[j].toNat : Int) == dig q) = true := by rw [beq_iff_eq]; exact hA
              have HA : Hid ((d[j].toNat : Int) = dig q) := hA
              clear hA
              go_wp2
              go_quiet ((go_at_call 9; exact (digit_any _ _ (by omega) (by omega)).mono fun _ _ ⟨he, hm⟩ => ⟨he, _, hm⟩))
              go_wp2
              · have hB : ((d[j1].toNat : Int) == dig r) = true := by assumption
                go_roundw
                case rel => exact ⟨k + 1, _, by omega, by go_num, rfl, hex_hit d k j j1 v q r bj bj1 HJ.out HJ1.out hvt HQ.out HR.out hr.out HA.out (beq_iff_eq.1 hB)⟩
                case measure => simp [intOf]; omega
              · have hB : ((d[j1].toNat : Int) == dig r) = false := by assumption
                go_roundw
                case rel => exact ⟨v + 1, _, by omega, by go_num, rfl, rfl, hex_next _ _ v q r HQ.out HR.out hn.out (fun h => by rw [h.2] at hB; simp at hB)⟩
                case measure => simp [intOf]; omega
            · have hA2 : ((d[j].toNat : Int) == dig q) = false := by rw [beq_eq_false_iff_ne]; exact hA
              have HA : Hid (¬ (d[j].toNat : Int) = dig q) := hA
              clear hA
              go_wp2
              go_quiet ((go_at_call 9; exact (digit_any _ _ (by omega) (by omega)).mono fun _ _ ⟨he, hm⟩ => ⟨he, _, hm⟩))
              go_wp2
              go_roundw
              case rel => exact ⟨v + 1, _, by omega, by go_num, rfl, rfl, hex_next _ _ v q r HQ.out HR.out hn.out (fun h => HA.out h.1)⟩
              case measure => simp [intOf]; omega
          · have HF : Hid (lowB d.data.toList = false) := hex_out d j j1 v bj bj1 HL.out hvt hn.out
            go_wp2
            go_ret
            exact ⟨ret_bool HF.out.symm, _, rfl⟩
      · have HT : Hid (lowB d.data.toList = true) := hex_end d k HL.out hlt hr.out
        go_wp2
        go_ret
        exact ⟨ret_bool HT.out.symm, _, rfl⟩
  · have h1 : ((d.size : Int) != 64) = true := by rw [bne_iff_ne]; omega
    have HF : Hid (lowB d.data.toList = false) := hex_len d hl
    clear hl
    go_enter Try.func7, Try.ntmps7
    go_wp2
    go_ret
    exact ⟨ret_bool HF.out.symm, 0, rfl⟩
end Go.Proofs.Qxb6618275a
