/-
  WALKS: zzMaxInt, ZZisGreater, and the two laws.
-/
import Derived.Test.Qxb6616785aRows
import Derived.WalkKit
import Derived.ProofKit
namespace Go.Proofs.Qxb6616785a
open Go.RowKit
set_option linter.unusedVariables false

set_option maxHeartbeats 400000 in
theorem max_any (w : World) : Calls Try.prog 7 #[] w fun e w' => e = .returned (.int .i64 9223372036854775807) ∧ w = w' := by
  go_enter Try.func7, Try.ntmps7
  go_wp2
  go_ret
  exact ⟨rfl, rfl⟩

set_option maxHeartbeats 400000 in
theorem gr_any (c : Int) (w : World) : Calls Try.prog 8 #[.int .i64 c] w fun e w' => e = .returned (.bool (decide (0 < c))) ∧ w = w' := by
  go_enter Try.func8, Try.ntmps8
  go_wp2
  go_ret
  exact ⟨rfl, rfl⟩

theorem max_as (M : Int) (w : World) (h : Hid (M = 9223372036854775807)) : Calls Try.prog 7 #[] w fun e w' => e = .returned (.int .i64 M) ∧ w = w' := by
  have := max_any w
  rw [← h.out] at this
  exact this
theorem gr_as (c : Int) (r : Bool) (w : World) (h : Hid (decide (0 < c) = r)) : Calls Try.prog 8 #[.int .i64 c] w fun e w' => e = .returned (.bool r) ∧ w = w' := by
  have := gr_any c w
  rw [h.out] at this
  exact this

set_option maxHeartbeats 1000000 in
theorem law3_out (a b M H : Int) (w : World) (hM : Hid (M = 9223372036854775807)) (m0 : 0 ≤ M) (m1 : M ≤ 9223372036854775807) (hH : M / 2 = H) (b0 : 0 ≤ H) (b1 : H ≤ 4611686018427387903)
    (h : Hid (H < a ∨ a < -H ∨ H < b ∨ b < -H)) :
    Calls Try.prog 3 #[.int .i64 a, .int .i64 b] w fun e w' => e = .returned (.bool true) ∧ w = w' := by
  go_enter Try.func3, Try.ntmps3
  go_wp2_with (go_at_call 7; refine (max_as M _ hM).mono ?_; rintro e w' ⟨rfl, rfl⟩)
  all_goals first
    | (go_ret; exact ⟨rfl, rfl⟩)
    | (exfalso; have h' := h.out; omega)

set_option maxHeartbeats 1000000 in
theorem law3_in (a b M H : Int) (w : World) (hM : Hid (M = 9223372036854775807)) (m0 : 0 ≤ M) (m1 : M ≤ 9223372036854775807) (hH : M / 2 = H) (b0 : 0 ≤ H) (b1 : H ≤ 4611686018427387903)
    (h1 : a ≤ H) (h2 : -H ≤ a) (h3 : b ≤ H) (h4 : -H ≤ b) (r1 r2 : Bool) (e1 : Hid (decide (0 < a - b) = r1)) (e2 : Hid (decide (0 < b - a) = r2)) (d1 : decide (b < a) = r1) (d2 : decide (a < b) = r2) :
    Calls Try.prog 3 #[.int .i64 a, .int .i64 b] w fun e w' => e = .returned (.bool true) ∧ w = w' := by
  go_enter Try.func3, Try.ntmps3
  go_wp2_with (go_at_call 7; refine (max_as M _ hM).mono ?_; rintro e w' ⟨rfl, rfl⟩)
  refine (gr_as _ r1 _ e1).mono ?_
  rintro e w' ⟨rfl, rfl⟩
  go_wp2_with fail
  refine (gr_as _ r2 _ e2).mono ?_
  rintro e w' ⟨rfl, rfl⟩
  go_wp2_with fail
  go_ret
  exact ⟨rfl, rfl⟩

theorem law3 (a b : Int) (w : World) : Calls Try.prog 3 #[.int .i64 a, .int .i64 b] w fun e w' => e = .returned (.bool true) ∧ w = w' := by
  by_cases h : (4611686018427387903 < a ∨ a < -4611686018427387903 ∨ 4611686018427387903 < b ∨ b < -4611686018427387903)
  · exact law3_out a b 9223372036854775807 4611686018427387903 w rfl (by omega) (by omega) (by omega) (by omega) (by omega) h
  · refine law3_in a b 9223372036854775807 4611686018427387903 w rfl (by omega) (by omega) (by omega) (by omega) (by omega) (by omega) (by omega) (by omega) (by omega) (decide (b < a)) (decide (a < b)) ?_ ?_ rfl rfl
    · show _ = _
      rw [decide_eq_decide]
      omega
    · show _ = _
      rw [decide_eq_decide]
      omega

set_option maxHeartbeats 1000000 in
theorem law4_min (c d M : Int) (w : World) (hM : Hid (M = 9223372036854775807)) (m0 : 0 ≤ M) (m1 : M ≤ 9223372036854775807) (rd s : Bool) (hc : Hid (decide (0 < c) = false)) (hd : Hid (decide (0 < d) = rd)) (hs : decide (c ≤ d) = s) (hm : (c == -M - 1) = true) :
    Calls Try.prog 4 #[.int .i64 c, .int .i64 d] w fun e w' => e = .returned (.bool true) ∧ w = w' := by
  cases s
  all_goals
    go_enter Try.func4, Try.ntmps4
    go_wp2_with (first
      | (go_at_call 7; refine (max_as M _ hM).mono ?_; rintro e w' ⟨rfl, rfl⟩)
      | (go_at_call 8; refine (gr_as _ false _ hc).mono ?_; rintro e w' ⟨rfl, rfl⟩))
    go_ret
    exact ⟨rfl, rfl⟩

set_option maxHeartbeats 1000000 in
theorem law4_pos (c d M : Int) (w : World) (hM : Hid (M = 9223372036854775807)) (m0 : 0 ≤ M) (m1 : M ≤ 9223372036854775807) (rd s : Bool) (hc : Hid (decide (0 < c) = true)) (hd : Hid (decide (0 < d) = rd)) (hs : decide (c ≤ d) = s) (hm : (c == -M - 1) = false)
    (c1 : -M ≤ c) (c2 : c ≤ M) (hn : Hid (decide (0 < -c) = false)) (hz : (c == 0) = false) (hsd : s = true → rd = true) :
    Calls Try.prog 4 #[.int .i64 c, .int .i64 d] w fun e w' => e = .returned (.bool true) ∧ w = w' := by
  cases s
  · go_enter Try.func4, Try.ntmps4
    go_wp2_with (go_at_call 7; refine (max_as M _ hM).mono ?_; rintro e w' ⟨rfl, rfl⟩)
    refine (gr_as _ true _ hc).mono ?_
    rintro e w' ⟨rfl, rfl⟩
    go_wp2_with fail
    refine (gr_as _ false _ hn).mono ?_
    rintro e w' ⟨rfl, rfl⟩
    go_wp2_with fail
    go_ret
    exact ⟨rfl, rfl⟩
  · obtain rfl : rd = true := hsd rfl
    clear hsd
    go_enter Try.func4, Try.ntmps4
    go_wp2_with (go_at_call 7; refine (max_as M _ hM).mono ?_; rintro e w' ⟨rfl, rfl⟩)
    refine (gr_as _ true _ hc).mono ?_
    rintro e w' ⟨rfl, rfl⟩
    go_wp2_with fail
    refine (gr_as _ true _ hd).mono ?_
    rintro e w' ⟨rfl, rfl⟩
    go_wp2_with fail
    refine (gr_as _ true _ hc).mono ?_
    rintro e w' ⟨rfl, rfl⟩
    go_wp2_with fail
    refine (gr_as _ false _ hn).mono ?_
    rintro e w' ⟨rfl, rfl⟩
    go_wp2_with fail
    go_ret
    exact ⟨rfl, rfl⟩

set_option maxHeartbeats 1000000 in
theorem law4_rest (c d M : Int) (w : World) (hM : Hid (M = 9223372036854775807)) (m0 : 0 ≤ M) (m1 : M ≤ 9223372036854775807) (s rn rz : Bool) (hc : Hid (decide (0 < c) = false)) (hs : decide (c ≤ d) = s) (hm : (c == -M - 1) = false)
    (c1 : -M ≤ c) (c2 : c ≤ M) (hn : Hid (decide (0 < -c) = rn)) (hz : (c == 0) = rz) (hx : rn = !rz) :
    Calls Try.prog 4 #[.int .i64 c, .int .i64 d] w fun e w' => e = .returned (.bool true) ∧ w = w' := by
  subst hx
  cases s <;> cases rz
  · go_enter Try.func4, Try.ntmps4
    go_wp2_with (go_at_call 7; refine (max_as M _ hM).mono ?_; rintro e w' ⟨rfl, rfl⟩)
    refine (gr_as _ false _ hc).mono ?_
    rintro e w' ⟨rfl, rfl⟩
    go_wp2_with fail
    refine (gr_as _ true _ hn).mono ?_
    rintro e w' ⟨rfl, rfl⟩
    go_wp2_with fail
    go_ret
    exact ⟨rfl, rfl⟩
  · go_enter Try.func4, Try.ntmps4
    go_wp2_with (go_at_call 7; refine (max_as M _ hM).mono ?_; rintro e w' ⟨rfl, rfl⟩)
    refine (gr_as _ false _ hc).mono ?_
    rintro e w' ⟨rfl, rfl⟩
    go_wp2_with fail
    refine (gr_as _ false _ hn).mono ?_
    rintro e w' ⟨rfl, rfl⟩
    go_wp2_with fail
    go_ret
    exact ⟨rfl, rfl⟩
  · go_enter Try.func4, Try.ntmps4
    go_wp2_with (go_at_call 7; refine (max_as M _ hM).mono ?_; rintro e w' ⟨rfl, rfl⟩)
    refine (gr_as _ false _ hc).mono ?_
    rintro e w' ⟨rfl, rfl⟩
    go_wp2_with fail
    refine (gr_as _ false _ hc).mono ?_
    rintro e w' ⟨rfl, rfl⟩
    go_wp2_with fail
    refine (gr_as _ true _ hn).mono ?_
    rintro e w' ⟨rfl, rfl⟩
    go_wp2_with fail
    go_ret
    exact ⟨rfl, rfl⟩
  · go_enter Try.func4, Try.ntmps4
    go_wp2_with (go_at_call 7; refine (max_as M _ hM).mono ?_; rintro e w' ⟨rfl, rfl⟩)
    refine (gr_as _ false _ hc).mono ?_
    rintro e w' ⟨rfl, rfl⟩
    go_wp2_with fail
    refine (gr_as _ false _ hc).mono ?_
    rintro e w' ⟨rfl, rfl⟩
    go_wp2_with fail
    refine (gr_as _ false _ hn).mono ?_
    rintro e w' ⟨rfl, rfl⟩
    go_wp2_with fail
    go_ret
    exact ⟨rfl, rfl⟩

theorem law4 (c d : Int) (w : World) (h1 : -9223372036854775808 ≤ c) (h2 : c ≤ 9223372036854775807) : Calls Try.prog 4 #[.int .i64 c, .int .i64 d] w fun e w' => e = .returned (.bool true) ∧ w = w' := by
  by_cases hm : c = -9223372036854775807 - 1
  · refine law4_min c d 9223372036854775807 w rfl (by omega) (by omega) _ _ ?_ rfl rfl (by rw [beq_iff_eq]; exact hm)
    show _ = _
    rw [decide_eq_false_iff_not]
    omega
  · have hm' : (c == -9223372036854775807 - 1) = false := by rw [beq_eq_false_iff_ne]; exact hm
    by_cases hp : 0 < c
    · refine law4_pos c d 9223372036854775807 w rfl (by omega) (by omega) _ _ ?_ rfl rfl hm' (by omega) (by omega) ?_ ?_ ?_
      · show _ = _
        rw [decide_eq_true_iff]
        exact hp
      · show _ = _
        rw [decide_eq_false_iff_not]
        omega
      · rw [beq_eq_false_iff_ne]
        omega
      · intro h
        rw [decide_eq_true_iff] at *
        omega
    · refine law4_rest c d 9223372036854775807 w rfl (by omega) (by omega) _ _ _ ?_ rfl hm' (by omega) (by omega) rfl rfl ?_
      · show _ = _
        rw [decide_eq_false_iff_not]
        omega
      · by_cases hz : c = 0
        · subst hz
          rfl
        · have e1 : (c == 0) = false := by rw [beq_eq_false_iff_ne]; exact hz
          rw [e1]
          show decide (0 < -c) = true
          rw [decide_eq_true_iff]
          omega
end Go.Proofs.Qxb6616785a
