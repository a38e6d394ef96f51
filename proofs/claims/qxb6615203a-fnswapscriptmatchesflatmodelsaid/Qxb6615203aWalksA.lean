/-
  WALKS OVER THE WAIT LIST: (*waitList).at, ZZsetWait, ZZwaitAt, (*waitList).Swap, ZZswap.
-/
import Derived.Test.Qxb6615203aHeap
import Derived.RegionTactic
namespace Go.Proofs.Qxb6615203a
open Go.RowKit Go.Deep
set_option linter.unusedVariables false

set_option maxHeartbeats 400000 in
theorem at_any (w : World) (hb sb nb q r bq o i : Nat) (hi : i < 65536) (hq : q < nb) (hnb : nb ≤ 64) (hqd : Hid (q = i / 1024)) (hrd : Hid (r = i % 1024)) (ho : r * 2 = o)
    (chd : w.cell? ⟨hb, 0, none⟩ = some (.slice (some ⟨sb, 0, none⟩) nb nb)) (ctab : w.cell? ⟨sb, q, none⟩ = some (.pointer (some ⟨bq, 0, none⟩))) :
    Calls Try.prog 11 #[.pointer (some ⟨hb, 0, none⟩), .int .i64 i] w fun e w' => e = .returned (.pointer (some ⟨bq, o, none⟩)) ∧ w' = w := by
  have e1 : (i : Int) / 1024 = (q : Int) := by have := hqd.out; omega
  have e2 : (i : Int) % 1024 = (r : Int) := by have := hrd.out; omega
  have hr : r < 1024 := by have := hrd.out; omega
  go_enter Try.func11, Try.ntmps11
  go_wp2
  go_ret
  exact ⟨rfl, rfl⟩

set_option maxHeartbeats 400000 in
theorem set_core (w : World) (hb sb nb q r bq o i : Nat) (x y x0 y0 : Int) (hi : i < 65536) (hq : q < nb) (hnb : nb ≤ 64) (hqd : Hid (q = i / 1024)) (hrd : Hid (r = i % 1024)) (ho : Hid (r * 2 = o))
    (chd : w.cell? ⟨hb, 0, none⟩ = some (.slice (some ⟨sb, 0, none⟩) nb nb)) (ctab : w.cell? ⟨sb, q, none⟩ = some (.pointer (some ⟨bq, 0, none⟩)))
    (cx : w.cell? ⟨bq, o, none⟩ = some (.int .i64 x0)) (cy : w.cell? ⟨bq, o + 1, none⟩ = some (.int .i64 y0)) (fx : w.frozen? ⟨bq, o, none⟩ = false) (fy : w.frozen? ⟨bq, o + 1, none⟩ = false) :
    Calls Try.prog 7 #[.pointer (some ⟨hb, 0, none⟩), .int .i64 i, .int .i64 x, .int .i64 y] w fun e w' => e = .returned (.tuple #[]) ∧
      w' = (w.setCell ⟨bq, o, none⟩ (.int .i64 x)).setCell ⟨bq, o + 1, none⟩ (.int .i64 y) := by
  go_enter Try.func7, Try.ntmps7
  go_wp2_with (go_at_call 11; refine (at_any _ hb sb nb q r bq o i hi hq hnb hqd hrd ho.out chd ctab).mono ?_; rintro e w' ⟨rfl, rfl⟩)
  go_end0
  exact ⟨rfl, rfl⟩

set_option maxHeartbeats 400000 in
theorem get_core (w : World) (hb sb nb q r bq o i : Nat) (x y : Int) (hi : i < 65536) (hq : q < nb) (hnb : nb ≤ 64) (hqd : Hid (q = i / 1024)) (hrd : Hid (r = i % 1024)) (ho : Hid (r * 2 = o))
    (chd : w.cell? ⟨hb, 0, none⟩ = some (.slice (some ⟨sb, 0, none⟩) nb nb)) (ctab : w.cell? ⟨sb, q, none⟩ = some (.pointer (some ⟨bq, 0, none⟩)))
    (cx : w.cell? ⟨bq, o, none⟩ = some (.int .i64 x)) (cy : w.cell? ⟨bq, o + 1, none⟩ = some (.int .i64 y)) :
    Calls Try.prog 9 #[.pointer (some ⟨hb, 0, none⟩), .int .i64 i] w fun e w' => e = .returned (.tuple #[.int .i64 x, .int .i64 y]) ∧ ∃ n, w' = w.drewN n := by
  go_enter Try.func9, Try.ntmps9
  go_wp2_with (go_at_call 11; refine (at_any _ hb sb nb q r bq o i hi hq hnb hqd hrd ho.out chd ctab).mono ?_; rintro e w' ⟨rfl, rfl⟩)
  go_quiet (fail)
  go_wp2
  go_ret2
  exact ⟨rfl, _, rfl⟩

set_option maxHeartbeats 1000000 in
theorem swap_core (w : World) (hb sb nb q r bq o i q' r' bq' o' j : Nat) (x y x' y' : Int) (hi : i < 65536) (hj : j < 65536) (hq : q < nb) (hq' : q' < nb) (hnb : nb ≤ 64)
    (hqd : Hid (q = i / 1024)) (hrd : Hid (r = i % 1024)) (ho : Hid (r * 2 = o)) (hqd' : Hid (q' = j / 1024)) (hrd' : Hid (r' = j % 1024)) (ho' : Hid (r' * 2 = o'))
    (chd : w.cell? ⟨hb, 0, none⟩ = some (.slice (some ⟨sb, 0, none⟩) nb nb)) (ctab : w.cell? ⟨sb, q, none⟩ = some (.pointer (some ⟨bq, 0, none⟩))) (ctab' : w.cell? ⟨sb, q', none⟩ = some (.pointer (some ⟨bq', 0, none⟩)))
    (cx : w.cell? ⟨bq, o, none⟩ = some (.int .i64 x)) (cy : w.cell? ⟨bq, o + 1, none⟩ = some (.int .i64 y)) (fx : w.frozen? ⟨bq, o, none⟩ = false) (fy : w.frozen? ⟨bq, o + 1, none⟩ = false)
    (cx' : w.cell? ⟨bq', o', none⟩ = some (.int .i64 x')) (cy' : w.cell? ⟨bq', o' + 1, none⟩ = some (.int .i64 y')) (fx' : w.frozen? ⟨bq', o', none⟩ = false) (fy' : w.frozen? ⟨bq', o' + 1, none⟩ = false) :
    Calls Try.prog 12 #[.pointer (some ⟨hb, 0, none⟩), .int .i64 i, .int .i64 j] w fun e w' => e = .returned (.tuple #[]) ∧
      Like w' ((((w.setCell ⟨bq, o, none⟩ (.int .i64 x')).setCell ⟨bq, o + 1, none⟩ (.int .i64 y')).setCell ⟨bq', o', none⟩ (.int .i64 x)).setCell ⟨bq', o' + 1, none⟩ (.int .i64 y)) := by
  obtain ⟨v1, e1⟩ := cell?_setCell_some (w := w) (p := ⟨bq, o, none⟩) (x := .int .i64 x') (q := ⟨bq', o', none⟩) cx'
  obtain ⟨v2, e2⟩ := cell?_setCell_some (w := w.setCell ⟨bq, o, none⟩ (.int .i64 x')) (p := ⟨bq, o + 1, none⟩) (x := .int .i64 y') (q := ⟨bq', o', none⟩) e1
  obtain ⟨v3, e3⟩ := cell?_setCell_some (w := w) (p := ⟨bq, o, none⟩) (x := .int .i64 x') (q := ⟨bq', o' + 1, none⟩) cy'
  obtain ⟨v4, e4⟩ := cell?_setCell_some (w := w.setCell ⟨bq, o, none⟩ (.int .i64 x')) (p := ⟨bq, o + 1, none⟩) (x := .int .i64 y') (q := ⟨bq', o' + 1, none⟩) e3
  clear e1 e3
  go_enter Try.func12, Try.ntmps12
  go_wp2_with fail
  refine (at_any _ hb sb nb q r bq o i hi hq hnb hqd hrd ho.out chd ctab).mono ?_
  rintro e w' ⟨rfl, rfl⟩
  go_wp2_with fail
  refine (at_any _ hb sb nb q' r' bq' o' j hj hq' hnb hqd' hrd' ho'.out chd ctab').mono ?_
  rintro e w' ⟨rfl, rfl⟩
  go_wp2
  go_region
  all_goals
    go_end0
    exact ⟨rfl, rfl, rfl, rfl, rfl⟩

set_option maxHeartbeats 400000 in
theorem zzswap_core (w : World) (hb : Nat) (i j : Int) (Q : Ending → World → Prop) (h : Calls Try.prog 12 #[.pointer (some ⟨hb, 0, none⟩), .int .i64 i, .int .i64 j] w fun e w' => e = .returned (.tuple #[]) ∧ Q e w') :
    Calls Try.prog 8 #[.pointer (some ⟨hb, 0, none⟩), .int .i64 i, .int .i64 j] w fun e w' => e = .returned (.tuple #[]) ∧ Q e w' := by
  have H : Hid (Calls Try.prog 12 #[.pointer (some ⟨hb, 0, none⟩), .int .i64 i, .int .i64 j] w fun e w' => e = .returned (.tuple #[]) ∧ Q e w') := h
  clear h
  go_enter Try.func8, Try.ntmps8
  go_wp2_with fail
  refine H.out.mono ?_
  rintro e w' ⟨rfl, hq⟩
  have HQ : Hid (Q (.returned (.tuple #[])) w') := hq
  clear hq H
  go_wp2
  go_end0
  exact ⟨rfl, HQ.out⟩

/-! ### The contracts over the list as a whole -/
variable {base hb sb nb : Nat} {w : World} {B : Nat → Nat} {A D : Nat → Int} {m : Int}

theorem set_any (h : WL base w hb sb nb B A D m) (hnb : nb ≤ 64) (i : Nat) (hi : i < 1024 * nb) (x y : Int) :
    Calls Try.prog 7 #[.pointer (some ⟨hb, 0, none⟩), .int .i64 i, .int .i64 x, .int .i64 y] w fun e w' => e = .returned (.tuple #[]) ∧ WL base w' hb sb nb B (upd A i x) (upd D i y) m ∧ Kept nb B w w' := by
  have hq : i / 1024 < nb := by omega
  have hr : i % 1024 < 1024 := by omega
  have hi2 : i = 1024 * (i / 1024) + i % 1024 := by omega
  have e : i % 1024 * 2 = 2 * (i % 1024) := by omega
  refine (set_core w hb sb nb (i / 1024) (i % 1024) (B (i / 1024)) (2 * (i % 1024)) i x y (A i) (D i) (by omega) hq hnb rfl rfl e h.cellHd (h.cellTab _ hq)
    (h.cellAt _ _ i hq hr hi2) (h.cellDue _ _ i hq hr hi2) (h.frz _ _ hq) (h.frz _ _ hq)).mono ?_
  rintro e w' ⟨rfl, rfl⟩
  exact ⟨rfl, h.put _ _ i hq hr hi2 x y, (Kept.refl _ _ _).put hq x y _⟩

theorem get_any (h : WL base w hb sb nb B A D m) (hnb : nb ≤ 64) (i : Nat) (hi : i < 1024 * nb) :
    Calls Try.prog 9 #[.pointer (some ⟨hb, 0, none⟩), .int .i64 i] w fun e w' => e = .returned (.tuple #[.int .i64 (A i), .int .i64 (D i)]) ∧ ∃ n, w' = w.drewN n := by
  have hq : i / 1024 < nb := by omega
  have hr : i % 1024 < 1024 := by omega
  have hi2 : i = 1024 * (i / 1024) + i % 1024 := by omega
  have e : i % 1024 * 2 = 2 * (i % 1024) := by omega
  exact get_core w hb sb nb (i / 1024) (i % 1024) (B (i / 1024)) (2 * (i % 1024)) i (A i) (D i) (by omega) hq hnb rfl rfl e h.cellHd (h.cellTab _ hq)
    (h.cellAt _ _ i hq hr hi2) (h.cellDue _ _ i hq hr hi2)

theorem swap_any (h : WL base w hb sb nb B A D m) (hnb : nb ≤ 64) (i j : Nat) (hi : i < 1024 * nb) (hj : j < 1024 * nb) :
    Calls Try.prog 8 #[.pointer (some ⟨hb, 0, none⟩), .int .i64 i, .int .i64 j] w fun e w' => e = .returned (.tuple #[]) ∧ WL base w' hb sb nb B (swapF A i j) (swapF D i j) m ∧ Kept nb B w w' := by
  have hq : i / 1024 < nb := by omega
  have hr : i % 1024 < 1024 := by omega
  have hi2 : i = 1024 * (i / 1024) + i % 1024 := by omega
  have e : i % 1024 * 2 = 2 * (i % 1024) := by omega
  have hq' : j / 1024 < nb := by omega
  have hr' : j % 1024 < 1024 := by omega
  have hj2 : j = 1024 * (j / 1024) + j % 1024 := by omega
  have e' : j % 1024 * 2 = 2 * (j % 1024) := by omega
  refine zzswap_core w hb i j _ ?_
  refine (swap_core w hb sb nb (i / 1024) (i % 1024) (B (i / 1024)) (2 * (i % 1024)) i (j / 1024) (j % 1024) (B (j / 1024)) (2 * (j % 1024)) j (A i) (D i) (A j) (D j) (by omega) (by omega) hq hq' hnb rfl rfl e rfl rfl e'
    h.cellHd (h.cellTab _ hq) (h.cellTab _ hq') (h.cellAt _ _ i hq hr hi2) (h.cellDue _ _ i hq hr hi2) (h.frz _ _ hq) (h.frz _ _ hq)
    (h.cellAt _ _ j hq' hr' hj2) (h.cellDue _ _ j hq' hr' hj2) (h.frz _ _ hq') (h.frz _ _ hq')).mono ?_
  rintro e w' ⟨rfl, hl⟩
  exact ⟨rfl, ((h.put _ _ i hq hr hi2 (A j) (D j)).put _ _ j hq' hr' hj2 (A i) (D i)).like hl, (((Kept.refl _ _ _).put hq _ _ _).put hq' _ _ _).like hl⟩
end Go.Proofs.Qxb6615203a
