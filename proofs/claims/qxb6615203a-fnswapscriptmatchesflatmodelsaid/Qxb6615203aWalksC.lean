/-
  THE STATE THAT BOTH LAWS CARRY; the first law's byte bound and early ways out.
-/
import Derived.Test.Qxb6615203aWalksB
namespace Go.Proofs.Qxb6615203a
open Go.RowKit Go.Deep
set_option linter.unusedVariables false

/-- The list that 'ZZnewWaitList(n)' made in world w, as it stands in world wx. -/
def St (w wx : World) (n nb : Nat) (A D : Nat → Int) : Prop :=
  WL w.heap.size wx (w.heap.size + 1 + nb) w.heap.size nb (fun q => w.heap.size + 1 + q) A D n ∧ Below w.heap.size w wx

theorem St.congr {w wx : World} {n nb : Nat} {A D A' D' : Nat → Int} (h : St w wx n nb A D) (ha : A = A') (hd : D = D') : St w wx n nb A' D' := by
  subst ha hd
  exact h
theorem bel_drewN {B : Nat} {a w : World} (h : Below B a w) (n : Nat) : Below B a (w.drewN n) := h.trans ⟨rfl, rfl, rfl, Nat.le_refl _, fun _ _ => rfl⟩
theorem St.drewN {w wx : World} {n nb : Nat} {A D : Nat → Int} (h : St w wx n nb A D) (N : Nat) : St w (wx.drewN N) n nb A D := ⟨h.1.drewN N, bel_drewN h.2 N⟩

theorem St.drew {w wx : World} {n nb : Nat} {A D : Nat → Int} (h : St w wx n nb A D) : St w wx.drew n nb A D := h.drewN 1
theorem St.cell {w wx : World} {n nb b o : Nat} {A D : Nat → Int} {v : Value} (h : St w wx n nb A D) (hb : b < w.heap.size) (hc : w.cell? ⟨b, o, none⟩ = some v) : wx.cell? ⟨b, o, none⟩ = some v := by
  rw [h.2.cell (p := ⟨b, o, none⟩) hb]
  exact hc

/-- What is laid behind k rounds. -/
def fill (Z : Nat → Int) (k : Nat) : Nat → Int := fun q => if q < k then Z q else 0
theorem fill_zero (Z : Nat → Int) : fill Z 0 = fun _ => 0 := by funext q; simp [fill]
theorem fill_step (Z : Nat → Int) (k : Nat) : upd (fill Z k) k (Z k) = fill Z (k + 1) := by
  funext q
  unfold upd fill
  by_cases e : q = k
  · subst e
    rw [if_pos rfl, if_pos (by omega)]
  · rw [if_neg e]
    by_cases c : q < k
    · rw [if_pos c, if_pos (by omega)]
    · rw [if_neg c, if_neg (by omega)]
theorem fill_at (Z : Nat → Int) (n k : Nat) (h : k < n) : fill Z n k = Z k := by unfold fill; rw [if_pos h]

theorem swapF_i (A : Nat → Int) (i j : Nat) : swapF A i j i = A j := by
  unfold swapF upd
  by_cases e : i = j
  · subst e; simp
  · simp [e]
theorem swapF_j (A : Nat → Int) (i j : Nat) : swapF A i j j = A i := by unfold swapF upd; simp
theorem swapF_other (A : Nat → Int) (i j k : Nat) (hi : k ≠ i) (hj : k ≠ j) : swapF A i j k = A k := by unfold swapF upd; simp [hi, hj]
theorem swapF_twice (A : Nat → Int) (i j : Nat) : swapF (swapF A i j) j i = A := by
  funext k
  by_cases e : k = i
  · subst e
    rw [swapF_j, swapF_j]
  · by_cases f : k = j
    · subst f
      rw [swapF_i, swapF_i]
    · rw [swapF_other _ _ _ _ f e, swapF_other _ _ _ _ e f]

section
variable {w wx : World} {n nb : Nat} {A D : Nat → Int}
theorem St.set (h : St w wx n nb A D) (hnb : nb ≤ 64) (i : Nat) (hi : i < 1024 * nb) (x y : Int) :
    Calls Try.prog 7 #[.pointer (some ⟨w.heap.size + 1 + nb, 0, none⟩), .int .i64 i, .int .i64 x, .int .i64 y] wx fun e w' => e = .returned (.tuple #[]) ∧ St w w' n nb (upd A i x) (upd D i y) ∧ Kept nb (fun q => w.heap.size + 1 + q) wx w' := by
  refine (set_any h.1 hnb i hi x y).mono ?_
  rintro e w' ⟨rfl, h1, h2⟩
  exact ⟨rfl, ⟨h1, h.2.trans (h2.below h.1)⟩, h2⟩
theorem St.swap (h : St w wx n nb A D) (hnb : nb ≤ 64) (i j : Nat) (hi : i < 1024 * nb) (hj : j < 1024 * nb) :
    Calls Try.prog 8 #[.pointer (some ⟨w.heap.size + 1 + nb, 0, none⟩), .int .i64 i, .int .i64 j] wx fun e w' => e = .returned (.tuple #[]) ∧ St w w' n nb (swapF A i j) (swapF D i j) ∧ Kept nb (fun q => w.heap.size + 1 + q) wx w' := by
  refine (swap_any h.1 hnb i j hi hj).mono ?_
  rintro e w' ⟨rfl, h1, h2⟩
  exact ⟨rfl, ⟨h1, h.2.trans (h2.below h.1)⟩, h2⟩
theorem St.get (h : St w wx n nb A D) (hnb : nb ≤ 64) (i : Nat) (hi : i < 1024 * nb) (x y : Int) (hx : Hid (A i = x)) (hy : Hid (D i = y)) :
    Calls Try.prog 9 #[.pointer (some ⟨w.heap.size + 1 + nb, 0, none⟩), .int .i64 i] wx fun e w' => e = .returned (.tuple #[.int .i64 x, .int .i64 y]) ∧ ∃ N, w' = wx.drewN N := by
  have := get_any h.1 hnb i hi
  rw [hx.out, hy.out] at this
  exact this
end

theorem block_lt {w : World} {b o : Nat} {v : Value} (h : w.cell? ⟨b, o, none⟩ = some v) : b < w.heap.size := by
  unfold World.cell? at h
  rcases Nat.lt_or_ge b w.heap.size with h' | h'
  · exact h'
  · simp [Array.getElem?_eq_none h'] at h

set_option maxHeartbeats 400000 in
theorem bytes3 (a0 a1 : Option Addr) (l0 c0 l1 c1 : Nat) (i j : Int) (w : World) :
    Calls Try.prog 5 #[.slice a0 l0 c0, .slice a1 l1 c1, .int .i64 i, .int .i64 j] w fun e w' => (∃ r, e = .returned (.bool r)) ∧ w' = w := by
  go_enter Try.func5, Try.ntmps5
  go_wp2
  all_goals
    go_ret
    exact ⟨⟨_, rfl⟩, rfl⟩

set_option maxHeartbeats 400000 in
theorem bytes3_yes (a0 a1 : Option Addr) (l0 c0 l1 c1 : Nat) (i j : Int) (w : World) (h0 : l0 ≤ 65536) (h1 : l1 ≤ 65536) :
    Calls Try.prog 5 #[.slice a0 l0 c0, .slice a1 l1 c1, .int .i64 i, .int .i64 j] w fun e w' => e = .returned (.bool true) ∧ w = w' := by
  go_enter Try.func5, Try.ntmps5
  go_wp2
  go_ret
  exact ⟨rfl, rfl⟩

set_option maxHeartbeats 1000000 in
theorem exits3 (a0 a1 : Option Addr) (l0 c0 l1 c1 : Nat) (i j : Int) (w : World) (hno : Hid (¬ (l0 ≤ 65536 ∧ l1 = l0 ∧ 0 ≤ i ∧ i < l0 ∧ 0 ≤ j ∧ j < l0))) :
    Calls Try.prog 3 #[.slice a0 l0 c0, .slice a1 l1 c1, .int .i64 i, .int .i64 j] w fun e w' => e = .returned (.bool true) ∧ Below w.heap.size w w' := by
  go_enter Try.func3, Try.ntmps3
  go_wp2_with (go_at_call 5; refine (bytes3 _ _ _ _ _ _ _ _ _).mono ?_; rintro e w ⟨⟨r, rfl⟩, rfl⟩)
  all_goals first
    | (go_ret; exact ⟨rfl, Below.refl _ _⟩)
    | (exfalso
       have hb : ((l1 : Int) != (l0 : Int)) = false := by assumption
       have hb2 : (l1 : Int) = (l0 : Int) := by simpa using hb
       have h := hno.out
       omega)
end Go.Proofs.Qxb6615203a
