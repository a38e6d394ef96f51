/-
  THE WAIT LIST IN MEMORY: what its blocks hold, told by two plain functions; what stores, draws and new blocks do to it. And the law for 'new([1024]delayed)'.
-/
import Derived.Test.Qxb6615203aRows
import Derived.WalkKit
import Derived.ProofKit
import Derived.Deep.OwnRows
import Derived.BigQuiet
import Derived.Deep.QuietTactic
namespace Go.Proofs.Qxb6615203a
open Go.RowKit Go.Deep
set_option linter.unusedVariables false

def upd (A : Nat → Int) (i : Nat) (x : Int) : Nat → Int := fun j => if j = i then x else A j
theorem upd_same (A : Nat → Int) (i : Nat) (x : Int) : upd A i x i = x := by simp [upd]
theorem upd_other (A : Nat → Int) (i j : Nat) (x : Int) (h : j ≠ i) : upd A i x j = A j := by simp [upd, h]

/-- Cell o of block q: an 'at' in the even places, a 'due' in the odd ones. -/
def cellOf (A D : Nat → Int) (q o : Nat) : Value := .int .i64 (if o % 2 = 0 then A (1024 * q + o / 2) else D (1024 * q + o / 2))

theorem cellOf_at (A D : Nat → Int) (q r i : Nat) (hi : i = 1024 * q + r) : cellOf A D q (2 * r) = .int .i64 (A i) := by
  subst hi
  unfold cellOf
  rw [if_pos (by omega), show 2 * r / 2 = r by omega]
theorem cellOf_due (A D : Nat → Int) (q r i : Nat) (hi : i = 1024 * q + r) : cellOf A D q (2 * r + 1) = .int .i64 (D i) := by
  subst hi
  unfold cellOf
  rw [if_neg (by omega), show (2 * r + 1) / 2 = r by omega]

/-- THE WAIT LIST: its head (two cells), the table of its nb blocks, the blocks. -/
structure WL (base : Nat) (w : World) (hb sb nb : Nat) (B : Nat → Nat) (A D : Nat → Int) (m : Int) : Prop where
  hd : w.rowIs hb 38 2 (fun i => if i = 0 then .slice (some ⟨sb, 0, none⟩) nb nb else .int .i64 m)
  tab : w.rowIs sb 33 nb (fun q => .pointer (some ⟨B q, 0, none⟩))
  blk : ∀ q, q < nb → w.rowIs (B q) 36 2048 (cellOf A D q)
  inj : ∀ q r, q < nb → r < nb → B q = B r → q = r
  nhd : ∀ q, q < nb → B q ≠ hb
  ntab : ∀ q, q < nb → B q ≠ sb
  low : ∀ q, q < nb → base ≤ B q

variable {base hb sb nb : Nat} {w : World} {B : Nat → Nat} {A D : Nat → Int} {m : Int}

theorem WL.drewN (h : WL base w hb sb nb B A D m) (n : Nat) : WL base (w.drewN n) hb sb nb B A D m :=
  ⟨h.hd, h.tab, h.blk, h.inj, h.nhd, h.ntab, h.low⟩

theorem WL.cellHd (h : WL base w hb sb nb B A D m) : w.cell? ⟨hb, 0, none⟩ = some (.slice (some ⟨sb, 0, none⟩) nb nb) := h.hd.cell (by omega : 0 < 2)
theorem WL.cellTab (h : WL base w hb sb nb B A D m) (q : Nat) (hq : q < nb) : w.cell? ⟨sb, q, none⟩ = some (.pointer (some ⟨B q, 0, none⟩)) := h.tab.cell hq
theorem WL.cellAt (h : WL base w hb sb nb B A D m) (q r i : Nat) (hq : q < nb) (hr : r < 1024) (hi : i = 1024 * q + r) : w.cell? ⟨B q, 2 * r, none⟩ = some (.int .i64 (A i)) := by
  rw [(h.blk q hq).cell (by omega : 2 * r < 2048), cellOf_at A D q r i hi]
theorem WL.cellDue (h : WL base w hb sb nb B A D m) (q r i : Nat) (hq : q < nb) (hr : r < 1024) (hi : i = 1024 * q + r) : w.cell? ⟨B q, 2 * r + 1, none⟩ = some (.int .i64 (D i)) := by
  rw [(h.blk q hq).cell (by omega : 2 * r + 1 < 2048), cellOf_due A D q r i hi]
theorem WL.frz (h : WL base w hb sb nb B A D m) (q o : Nat) (hq : q < nb) : w.frozen? ⟨B q, o, none⟩ = false := (h.blk q hq).frozen o

/-- One pair stored. -/
theorem WL.put (h : WL base w hb sb nb B A D m) (q r i : Nat) (hq : q < nb) (hr : r < 1024) (hi : i = 1024 * q + r) (x y : Int) :
    WL base ((w.setCell ⟨B q, 2 * r, none⟩ (.int .i64 x)).setCell ⟨B q, 2 * r + 1, none⟩ (.int .i64 y)) hb sb nb B (upd A i x) (upd D i y) m where
  hd := (h.hd.setOther (fun e => h.nhd q hq e.symm) _).setOther (fun e => h.nhd q hq e.symm) _
  tab := (h.tab.setOther (fun e => h.ntab q hq e.symm) _).setOther (fun e => h.ntab q hq e.symm) _
  blk := by
    intro q' hq'
    by_cases e : q' = q
    · subst e
      refine (((h.blk q' hq').set (2 * r) _).set (2 * r + 1) _).congr fun o ho => ?_
      by_cases e1 : o = 2 * r + 1
      · subst e1
        rw [if_pos rfl, cellOf_due _ _ q' r i hi, upd_same]
      · rw [if_neg e1]
        by_cases e2 : o = 2 * r
        · subst e2
          rw [if_pos rfl, cellOf_at _ _ q' r i hi, upd_same]
        · rw [if_neg e2]
          unfold cellOf
          rw [upd_other _ _ _ _ (by omega), upd_other _ _ _ _ (by omega)]
    · have hne : B q' ≠ B q := fun e' => e (h.inj q' q hq' hq e')
      refine (((h.blk q' hq').setOther hne _).setOther hne _).congr fun o ho => ?_
      unfold cellOf
      rw [upd_other _ _ _ _ (by omega), upd_other _ _ _ _ (by omega)]
  inj := h.inj
  nhd := h.nhd
  ntab := h.ntab
  low := h.low

/-- The world below the list's own blocks does not see the store. -/
theorem WL.putBelow (h : WL base w hb sb nb B A D m) (q r : Nat) (hq : q < nb) (x y : Value) :
    Below base w ((w.setCell ⟨B q, 2 * r, none⟩ x).setCell ⟨B q, 2 * r + 1, none⟩ y) :=
  ((Below.refl base w).setCell (h.low q hq) _).setCell (h.low q hq) _

theorem WL.congr (h : WL base w hb sb nb B A D m) {A' D' : Nat → Int} (ha : A = A') (hd : D = D') : WL base w hb sb nb B A' D' m := by
  subst ha hd
  exact h

/-- The two places exchanged. -/
def swapF (A : Nat → Int) (i j : Nat) : Nat → Int := upd (upd A i (A j)) j (A i)

/-- One world as another, but for the draws. -/
def Like (w' w : World) : Prop := w'.heap = w.heap ∧ w'.os = w.os ∧ w'.tape = w.tape ∧ w'.output = w.output

theorem WL.like {w' : World} (h : WL base w hb sb nb B A D m) (hl : Like w' w) : WL base w' hb sb nb B A D m where
  hd := h.hd.of_block (by rw [hl.1])
  tab := h.tab.of_block (by rw [hl.1])
  blk := fun q hq => (h.blk q hq).of_block (by rw [hl.1])
  inj := h.inj
  nhd := h.nhd
  ntab := h.ntab
  low := h.low

/-- Nothing has turned but cells of the list's blocks. -/
structure Kept (nb : Nat) (B : Nat → Nat) (w w' : World) : Prop where
  os : w'.os = w.os
  tape : w'.tape = w.tape
  output : w'.output = w.output
  size : w'.heap.size = w.heap.size
  block : ∀ b, (∀ q, q < nb → b ≠ B q) → w'.heap[b]? = w.heap[b]?

theorem Kept.refl (nb : Nat) (B : Nat → Nat) (w : World) : Kept nb B w w := ⟨rfl, rfl, rfl, rfl, fun _ _ => rfl⟩
theorem Kept.trans {a b c : World} (h : Kept nb B a b) (k : Kept nb B b c) : Kept nb B a c :=
  ⟨k.os.trans h.os, k.tape.trans h.tape, k.output.trans h.output, k.size.trans h.size, fun i hi => (k.block i hi).trans (h.block i hi)⟩
theorem Kept.like {a b c : World} (h : Kept nb B a b) (k : Like c b) : Kept nb B a c :=
  ⟨k.2.1.trans h.os, k.2.2.1.trans h.tape, k.2.2.2.trans h.output, by rw [k.1]; exact h.size, fun i hi => by rw [k.1]; exact h.block i hi⟩
theorem Kept.drewN {a b : World} (h : Kept nb B a b) (n : Nat) : Kept nb B a (b.drewN n) := ⟨h.os, h.tape, h.output, h.size, h.block⟩
theorem size_setCell (w : World) (a : Addr) (v : Value) : (w.setCell a v).heap.size = w.heap.size := by simp [World.setCell]
theorem Kept.put {a b : World} (h : Kept nb B a b) {q : Nat} (hq : q < nb) (x y : Int) (r : Nat) : Kept nb B a ((b.setCell ⟨B q, 2 * r, none⟩ (.int .i64 x)).setCell ⟨B q, 2 * r + 1, none⟩ (.int .i64 y)) :=
  ⟨h.os, h.tape, h.output, by rw [size_setCell, size_setCell]; exact h.size, fun i hi => by
    rw [blk_setCell_other _ _ _ _ (hi q hq), blk_setCell_other _ _ _ _ (hi q hq)]
    exact h.block i hi⟩
theorem Kept.below {w' : World} (h : Kept nb B w w') (k : WL base w hb sb nb B A D m) : Below base w w' :=
  ⟨h.os, h.tape, h.output, Nat.le_of_eq h.size.symm, fun i hi => h.block i fun q hq e => by have := k.low q hq; omega⟩

/-! ### 'new([1024]delayed)' -/
def zeds : Array Value := Array.replicate 2048 (.int .i64 0)
theorem info36 : (Try.prog.info? 36).map (fun i => (i.zero.map Value.cells)) = some (some zeds) := by kernel_rfl

theorem zeds_get (i : Nat) (h : i < 2048) : zeds[i]? = some (.int .i64 0) := by
  unfold zeds
  rw [Array.getElem?_replicate, if_pos h]
theorem zeds_size : zeds.size = 2048 := by
  unfold zeds
  rw [Array.size_replicate]

theorem run_new : ∃ Z : Array Value, Z.size = 2048 ∧ (∀ i, i < 2048 → Z[i]? = some (.int .i64 0)) ∧
    ∀ w : World, (Instr.alloc 36 true (.tuple #[])).run Try.prog w = .ok (.pointer (some ⟨w.heap.size, 0, none⟩)) (w.alloc (.cells Z 36)) := by
  obtain ⟨i, hi, hz⟩ := Option.map_eq_some_iff.1 info36
  obtain ⟨z, hz1, hz2⟩ := Option.map_eq_some_iff.1 hz
  refine ⟨zeds, zeds_size, zeds_get, fun w => ?_⟩
  rw [← hz2]
  simp [Instr.alloc, zeroValue, typeInfo, hi, hz1, newVar, newRow]

/-- A new block, as the walk is told it: nothing of its cells is written out. -/
theorem wpList_new (w : World) {ops : Array Oper} {rest : List Oper} {o : Oper} {a : Act} {Q : Exit → Act → World → Prop} (hg : o.guard = none) (hop : o.op = Op.alloc 36)
    (hK : ∀ w2 : World, w2.heap.size = w.heap.size + 1 → Below w.heap.size w w2 → w2.rowIs w.heap.size 36 2048 (fun _ => .int .i64 0) →
      wpList Try.prog ops Q rest (a.put o.dst (.pointer (some ⟨w.heap.size, 0, none⟩))) w2) :
    wpList Try.prog ops Q (o :: rest) a w := by
  refine wpList_plain hg fun K hK' => ?_
  obtain ⟨Z, hZ, hget, hrun⟩ := run_new
  have h := World.rowIs_alloc w Z 36 (fun _ => .int .i64 0) (fun i hi => hget i (by rw [← hZ]; exact hi))
  rw [hZ] at h
  have hk := hK (w.alloc (.cells Z 36)) (by simp) ((Below.refl _ _).alloc (Nat.le_refl _) _) h
  have hr := hrun w
  unfold Oper.wp
  simp [execOp, hop, hr, Result.andThen]
  exact hK' _ _ hk

end Go.Proofs.Qxb6615203a
