/-
  THE SECOND LAW's STATE: the wait list beside two flat rows; its byte bound and early ways out.
-/
import Derived.Test.Qxb6615203aWalksC
namespace Go.Proofs.Qxb6615203a
open Go.RowKit Go.Deep
set_option linter.unusedVariables false

theorem info2 : (Try.prog.info? 2).map (fun i => (i.zero, i.size, i.bytes)) = some (some (.int .i64 0), 1, 8) := by kernel_rfl

theorem WL.setElse {base hb sb nb : Nat} {w : World} {B : Nat → Nat} {A D : Nat → Int} {m : Int} (h : WL base w hb sb nb B A D m) (a : Addr) (v : Value) (h1 : hb ≠ a.block) (h2 : sb ≠ a.block) (h3 : ∀ q, q < nb → B q ≠ a.block) :
    WL base (w.setCell a v) hb sb nb B A D m where
  hd := h.hd.setOther h1 _
  tab := h.tab.setOther h2 _
  blk := fun q hq => (h.blk q hq).setOther (h3 q hq) _
  inj := h.inj
  nhd := h.nhd
  ntab := h.ntab
  low := h.low

theorem WL.alloc {base hb sb nb : Nat} {w : World} {B : Nat → Nat} {A D : Nat → Int} {m : Int} (h : WL base w hb sb nb B A D m) (o : Obj) : WL base (w.alloc o) hb sb nb B A D m where
  hd := h.hd.alloc _
  tab := h.tab.alloc _
  blk := fun q hq => (h.blk q hq).alloc _
  inj := h.inj
  nhd := h.nhd
  ntab := h.ntab
  low := h.low

/-- A block apart from the list. -/
structure Apart (w : World) (nb b : Nat) : Prop where
  low : w.heap.size ≤ b
  hd : w.heap.size + 1 + nb ≠ b
  tab : w.heap.size ≠ b
  blk : ∀ q, q < nb → w.heap.size + 1 + q ≠ b

/-- The list beside two flat rows. -/
structure St2 (w wx : World) (n nb ma md : Nat) (A D M E : Nat → Int) : Prop where
  st : St w wx n nb A D
  rowA : wx.rowIs ma 2 n (fun q => .int .i64 (M q))
  rowD : wx.rowIs md 2 n (fun q => .int .i64 (E q))
  pa : Apart w nb ma
  pd : Apart w nb md
  ne : ma ≠ md

section
variable {w wx w2 : World} {n nb ma md : Nat} {A D M E : Nat → Int}

theorem St2.drewN (h : St2 w wx n nb ma md A D M E) (N : Nat) : St2 w (wx.drewN N) n nb ma md A D M E := ⟨h.st.drewN N, h.rowA, h.rowD, h.pa, h.pd, h.ne⟩
theorem St2.drew (h : St2 w wx n nb ma md A D M E) : St2 w wx.drew n nb ma md A D M E := h.drewN 1

theorem St2.kept (h : St2 w wx n nb ma md A D M E) {A' D' : Nat → Int} (hs : St w w2 n nb A' D') (hk : Kept nb (fun q => w.heap.size + 1 + q) wx w2) : St2 w w2 n nb ma md A' D' M E :=
  ⟨hs, h.rowA.of_block (hk.block _ fun q hq e => h.pa.blk q hq e.symm), h.rowD.of_block (hk.block _ fun q hq e => h.pd.blk q hq e.symm), h.pa, h.pd, h.ne⟩

theorem row_upd {wy : World} {b : Nat} {M : Nat → Int} (h : wy.rowIs b 2 n (fun q => .int .i64 (M q))) (i : Nat) (x : Int) :
    (wy.setCell ⟨b, i, none⟩ (.int .i64 x)).rowIs b 2 n (fun q => .int .i64 (upd M i x q)) :=
  (h.set i _).congr fun q hq => by
    unfold upd
    by_cases e : q = i
    · rw [if_pos e, if_pos e]
    · rw [if_neg e, if_neg e]

theorem St.setElse (h : St w wx n nb A D) {b : Nat} (p : Apart w nb b) (i : Nat) (v : Value) : St w (wx.setCell ⟨b, i, none⟩ v) n nb A D :=
  ⟨h.1.setElse _ _ p.hd p.tab p.blk, h.2.setCell p.low _⟩

theorem St2.putA (h : St2 w wx n nb ma md A D M E) (i : Nat) (x : Int) : St2 w (wx.setCell ⟨ma, i, none⟩ (.int .i64 x)) n nb ma md A D (upd M i x) E :=
  ⟨h.st.setElse h.pa i _, row_upd h.rowA i x, h.rowD.setOther (fun e => h.ne e.symm) _, h.pa, h.pd, h.ne⟩
theorem St2.putD (h : St2 w wx n nb ma md A D M E) (i : Nat) (x : Int) : St2 w (wx.setCell ⟨md, i, none⟩ (.int .i64 x)) n nb ma md A D M (upd E i x) :=
  ⟨h.st.setElse h.pd i _, h.rowA.setOther h.ne _, row_upd h.rowD i x, h.pa, h.pd, h.ne⟩

theorem St2.swapped (h : St2 w wx n nb ma md A D M E) (i j : Nat) :
    St2 w ((((wx.setCell ⟨ma, i, none⟩ (.int .i64 (M j))).setCell ⟨ma, j, none⟩ (.int .i64 (M i))).setCell ⟨md, i, none⟩ (.int .i64 (E j))).setCell ⟨md, j, none⟩ (.int .i64 (E i))) n nb ma md A D (swapF M i j) (swapF E i j) :=
  (((h.putA i _).putA j _).putD i _).putD j _

theorem St2.cellA (h : St2 w wx n nb ma md A D M E) (i : Nat) (hi : i < n) : wx.cell? ⟨ma, i, none⟩ = some (.int .i64 (M i)) := h.rowA.cell hi
theorem St2.cellD (h : St2 w wx n nb ma md A D M E) (i : Nat) (hi : i < n) : wx.cell? ⟨md, i, none⟩ = some (.int .i64 (E i)) := h.rowD.cell hi

theorem St2.frzA (h : St2 w wx n nb ma md A D M E) (i : Nat) : wx.frozen? ⟨ma, i, none⟩ = false := h.rowA.frozen i
theorem St2.frzD (h : St2 w wx n nb ma md A D M E) (i : Nat) : wx.frozen? ⟨md, i, none⟩ = false := h.rowD.frozen i
theorem St2.congr (h : St2 w wx n nb ma md A D M E) {A' D' M' E' : Nat → Int} (ha : A = A') (hd : D = D') (hm : M = M') (he : E = E') : St2 w wx n nb ma md A' D' M' E' := by
  subst ha hd hm he
  exact h

/-- The two rows that 'make' lays behind the list. -/
theorem St.rows (h : St w wx n nb A D) : St2 w ((wx.alloc (.cells (madeCells #[.int .i64 0] n) 2)).alloc (.cells (madeCells #[.int .i64 0] n) 2)) n nb wx.heap.size (wx.heap.size + 1) A D (fun _ => 0) (fun _ => 0) := by
  have e1 : w.heap.size + 1 + nb < wx.heap.size := h.1.hd.lt
  have hd : ((wx.alloc (.cells (madeCells #[.int .i64 0] n) 2)).alloc (.cells (madeCells #[.int .i64 0] n) 2)).rowIs (wx.heap.size + 1) 2 n (fun q => .int .i64 0) := by
    have := World.rowIs_made (wx.alloc (.cells (madeCells #[.int .i64 0] n) 2)) (.int .i64 0) n 2
    rw [World.size_alloc] at this
    exact this
  refine ⟨⟨(h.1.alloc _).alloc _, (h.2.alloc (by omega) _).alloc (by rw [World.size_alloc]; omega) _⟩, (World.rowIs_made wx (.int .i64 0) n 2).alloc _, hd, ?_, ?_, by omega⟩
  · exact ⟨by omega, by omega, by omega, fun q hq => by omega⟩
  · exact ⟨by omega, by omega, by omega, fun q hq => by omega⟩
end

set_option maxHeartbeats 400000 in
theorem bytes4 (a0 a1 a2 a3 : Option Addr) (l0 c0 l1 c1 l2 c2 l3 c3 : Nat) (w : World) :
    Calls Try.prog 10 #[.slice a0 l0 c0, .slice a1 l1 c1, .slice a2 l2 c2, .slice a3 l3 c3] w fun e w' => (∃ r, e = .returned (.bool r)) ∧ w' = w := by
  go_enter Try.func10, Try.ntmps10
  go_wp2
  all_goals
    go_ret
    exact ⟨⟨_, rfl⟩, rfl⟩

set_option maxHeartbeats 400000 in
theorem bytes4_yes (a0 a1 a2 a3 : Option Addr) (l0 c0 l1 c1 l2 c2 l3 c3 : Nat) (w : World) (h0 : l0 ≤ 65536) (h1 : l1 ≤ 65536) (h2 : l2 ≤ 65536) (h3 : l3 ≤ 65536) :
    Calls Try.prog 10 #[.slice a0 l0 c0, .slice a1 l1 c1, .slice a2 l2 c2, .slice a3 l3 c3] w fun e w' => e = .returned (.bool true) ∧ w = w' := by
  go_enter Try.func10, Try.ntmps10
  go_wp2
  go_ret
  exact ⟨rfl, rfl⟩

set_option maxHeartbeats 2000000 in
set_option maxRecDepth 100000 in
theorem exits4 (a0 a1 a2 a3 : Option Addr) (l0 c0 l1 c1 l2 c2 l3 c3 : Nat) (w : World) (hno : Hid (¬ (l0 ≤ 65536 ∧ l2 ≤ 65536 ∧ l1 = l0 ∧ l3 = l2 ∧ l0 + l0 + l2 + l2 ≤ 131072))) :
    Calls Try.prog 4 #[.slice a0 l0 c0, .slice a1 l1 c1, .slice a2 l2 c2, .slice a3 l3 c3] w fun e w' => e = .returned (.bool true) ∧ Below w.heap.size w w' := by
  go_enter Try.func4, Try.ntmps4
  go_wp2_with (go_at_call 10; refine (bytes4 _ _ _ _ _ _ _ _ _ _ _ _ _).mono ?_; rintro e w ⟨⟨r, rfl⟩, rfl⟩)
  all_goals first
    | (go_ret; exact ⟨rfl, Below.refl _ _⟩)
    | (exfalso
       have hb : ((l3 : Int) != (l2 : Int)) = false := by assumption
       have hb2 : (l3 : Int) = (l2 : Int) := by simpa using hb
       have h := hno.out
       omega)
end Go.Proofs.Qxb6615203a
