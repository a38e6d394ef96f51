/-
  WALK: ZZnewWaitList: a table of blocks, each new, then the head.
-/
import Derived.Test.Qxb6615203aWalksA
namespace Go.Proofs.Qxb6615203a
open Go.RowKit Go.Deep
set_option linter.unusedVariables false

theorem info33 : (Try.prog.info? 33).map (fun i => (i.zero, i.size, i.bytes)) = some (some (.pointer none), 1, 8) := by kernel_rfl

/-- The list in the making: k of its nb blocks are laid. -/
structure Mk (w wx : World) (nb k : Nat) : Prop where
  below : Below w.heap.size w wx
  size : wx.heap.size = w.heap.size + 1 + k
  tab : wx.rowIs w.heap.size 33 nb (fun q => if q < k then .pointer (some ⟨w.heap.size + 1 + q, 0, none⟩) else .pointer none)
  blk : ∀ q, q < k → wx.rowIs (w.heap.size + 1 + q) 36 2048 (fun _ => .int .i64 0)

/-- A block more. -/
structure More (w2 wx : World) : Prop where
  size : w2.heap.size = wx.heap.size + 1
  below : Below wx.heap.size wx w2
  row : w2.rowIs wx.heap.size 36 2048 (fun _ => .int .i64 0)

variable {w wx w2 : World} {nb k : Nat}

theorem Mk.facts (h : Mk w wx nb k) (hk : k < nb) (m : More w2 wx) : w2.cell? ⟨w.heap.size, k, none⟩ = some (.pointer none) ∧ w2.frozen? ⟨w.heap.size, k, none⟩ = false := by
  have hs := h.size
  have ht : w2.rowIs w.heap.size 33 nb _ := h.tab.of_block (m.below.block _ (by omega))
  refine ⟨?_, ht.frozen k⟩
  rw [ht.cell hk, if_neg (by omega)]

theorem Mk.step (h : Mk w wx nb k) (hk : k < nb) (m : More w2 wx) : Mk w (w2.setCell ⟨w.heap.size, k, none⟩ (.pointer (some ⟨wx.heap.size, 0, none⟩))) nb (k + 1) where
  below := by
    have hs := h.size
    exact (h.below.trans (m.below.mono (by omega))).setCell (Nat.le_refl _) _
  size := by rw [size_setCell, m.size, h.size]; omega
  tab := by
    have hs := h.size
    have ht : w2.rowIs w.heap.size 33 nb _ := h.tab.of_block (m.below.block _ (by omega))
    refine (ht.set k _).congr fun q hq => ?_
    by_cases e : q = k
    · subst e
      rw [if_pos rfl, if_pos (by omega), hs]
    · rw [if_neg e]
      by_cases c : q < k
      · rw [if_pos c, if_pos (by omega)]
      · rw [if_neg c, if_neg (by omega)]
  blk := by
    intro q hq
    have hs := h.size
    by_cases e : q = k
    · subst e
      rw [← hs]
      exact m.row.setOther (by show wx.heap.size ≠ w.heap.size; omega) _
    · have hb : w2.rowIs (w.heap.size + 1 + q) 36 2048 _ := (h.blk q (by omega)).of_block (m.below.block _ (by omega))
      exact hb.setOther (by show w.heap.size + 1 + q ≠ w.heap.size; omega) _

theorem Mk.start (w : World) (nb : Nat) : Mk w (w.alloc (.cells (madeCells #[.pointer none] nb) 33)) nb 0 where
  below := (Below.refl _ _).alloc (Nat.le_refl _) _
  size := by simp
  tab := (World.rowIs_made w (.pointer none) nb 33).congr fun q hq => by rw [if_neg (by omega)]
  blk := fun q hq => absurd hq (Nat.not_lt_zero _)

theorem Mk.done (h : Mk w wx nb nb) (n : Int) : Below w.heap.size w (wx.alloc (.cells #[.slice (some ⟨w.heap.size, 0, none⟩) nb nb, .int .i64 n] 38)) ∧
    WL w.heap.size (wx.alloc (.cells #[.slice (some ⟨w.heap.size, 0, none⟩) nb nb, .int .i64 n] 38)) (w.heap.size + 1 + nb) w.heap.size nb (fun q => w.heap.size + 1 + q) (fun _ => 0) (fun _ => 0) n := by
  have hs := h.size
  refine ⟨h.below.alloc (by omega) _, ?_, ?_, ?_, ?_, ?_, ?_, ?_⟩
  · have := World.rowIs_alloc wx #[.slice (some ⟨w.heap.size, 0, none⟩) nb nb, .int .i64 n] 38 (fun i => if i = 0 then .slice (some ⟨w.heap.size, 0, none⟩) nb nb else .int .i64 n) (fun i hi => by
      match i, hi with
      | 0, _ => rfl
      | 1, _ => rfl)
    rw [hs] at this
    exact this
  · exact (h.tab.congr fun q hq => by rw [if_pos hq]).alloc _
  · intro q hq
    exact ((h.blk q hq).congr fun o _ => by simp [cellOf]).alloc _
  · intro q r _ _ e
    exact Nat.add_left_cancel e
  · intro q hq e
    have : w.heap.size + 1 + q = w.heap.size + 1 + nb := e
    omega
  · intro q hq e
    have : w.heap.size + 1 + q = w.heap.size := e
    omega
  · intro q hq
    show w.heap.size ≤ w.heap.size + 1 + q
    omega

theorem More.mk' (w2 wx : World) (a : w2.heap.size = wx.heap.size + 1) (b : Below wx.heap.size wx w2) (c : w2.rowIs wx.heap.size 36 2048 (fun _ => .int .i64 0)) : Hid (More w2 wx) := ⟨a, b, c⟩

theorem ret_ptr {a b : Nat} (h : a = b) : Ending.returned (.pointer (some ⟨a, 0, none⟩)) = .returned (.pointer (some ⟨b, 0, none⟩)) := by rw [h]

set_option maxHeartbeats 1000000 in
theorem new_any (w : World) (n nb : Nat) (hn : n ≤ 65536) (hnb : Hid (nb = (n + 1023) / 1024)) :
    Calls Try.prog 6 #[.int .i64 n] w fun e w' => e = .returned (.pointer (some ⟨w.heap.size + 1 + nb, 0, none⟩)) ∧ Below w.heap.size w w' ∧
      WL w.heap.size w' (w.heap.size + 1 + nb) w.heap.size nb (fun q => w.heap.size + 1 + q) (fun _ => 0) (fun _ => 0) n := by
  have e1 : ((n : Int) + 1024 - 1) / 1024 = (nb : Int) := by have := hnb.out; omega
  have b1 : nb ≤ 64 := by have := hnb.out; omega
  have hmk := run_make_row' (P := Try.prog) 32 33 (.pointer none) 8 Try.underlying32 info33 rfl .i64 .i64 nb (by omega) (by omega)
  go_enter Try.func6, Try.ntmps6
  go_wp2
  have HS : Hid (Mk w (w.alloc (.cells (madeCells #[.pointer none] nb) 33)) nb 0) := Mk.start w nb
  clear e1
  go_loopw [4] (fun i wx => ∃ k : Nat, k ≤ nb ∧ i = .int .i64 k ∧ Hid (Mk w wx nb k)) (fun i _ => nb - (intOf i).toNat)
  case atStart => exact ⟨0, Nat.zero_le _, rfl, HS.out⟩
  case round =>
    obtain ⟨k, hk, rfl, hM⟩ := hrel
    clear hmk HS
    by_cases hlt : k < nb
    · go_wp2_with (refine wpList_new _ rfl rfl ?_; intro w2 m1 m2 m3; have HM := More.mk' _ _ m1 m2 m3; clear m1 m2 m3; obtain ⟨c1, f1⟩ := hM.out.facts hlt HM.out)
      go_roundw
      case rel => exact ⟨k + 1, by omega, by go_num, hM.out.step hlt HM.out⟩
      case measure => simp [intOf]; omega
    · have hk2 : k = nb := by omega
      subst hk2
      have HD : Hid (Below w.heap.size w (wr.alloc (.cells #[.slice (some ⟨w.heap.size, 0, none⟩) k k, .int .i64 n] 38)) ∧
        WL w.heap.size (wr.alloc (.cells #[.slice (some ⟨w.heap.size, 0, none⟩) k k, .int .i64 n] 38)) (w.heap.size + 1 + k) w.heap.size k (fun q => w.heap.size + 1 + q) (fun _ => 0) (fun _ => 0) n) := hM.out.done n
      have HZ : Hid (wr.heap.size = w.heap.size + 1 + k) := hM.out.size
      go_wp2
      go_ret
      exact ⟨ret_ptr HZ.out, HD.out.1, HD.out.2⟩
end Go.Proofs.Qxb6615203a
