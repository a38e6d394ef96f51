/-
  THE PROOF OF 'Rows.FnSwapTwiceRestoresSaid', off the shell that the kit's program wrote; the walk is typed by hand.
-/
import Derived.Test.Qxb6615203aRows
import Derived.WalkKit
import Derived.ProofKit
import Derived.OpenShut
import Derived.ShutString
import Derived.ChangeOld
import Derived.Below
import Derived.Test.Qxb6615203aWalksC
import Derived.Deep.RegionWith
namespace Go.Proofs.Qxb6615203a.fnSwapTwiceRestores
open Go.ChangeShapes Go.WideShapes Go.ChangeAt Go.RowKit
open Go.ChangeMaps (open_string shut_string)
open Go.Deep
set_option linter.unusedVariables false

theorem own : ownKnob Try.prog.godebug = none := by kernel_rfl
theorem laidOut : laidOutB Try.prog = true := by kernel_rfl

/-- WHAT THE WALK IS TOLD OF A SLICE OF INTEGERS THAT CAME IN: it is nil; or it leads to a row of 'cap' cells, the numbers 'zs' (the first 'len' are its elements, the rest its spare room), each fitting its kind. -/
def IsRow (k : IntKind) (w : World) (a : Option Addr) (len cap : Nat) (zs : List Int) : Prop :=
  (a = none ∧ len = 0 ∧ cap = 0 ∧ zs = []) ∨
  ∃ x, a = some x ∧ len ≤ cap ∧ cap ≤ maxLen ∧ zs.length = cap ∧ (∀ i, i < zs.length → w.cell? (x.add i) = some (.int k (zs.getD i 0))) ∧ ∀ n ∈ zs, (Lit.int k n).wf = true


theorem at_i (Z : Nat → Int) (n i j : Nat) (hi : i < n) (hj : j < n) : Hid (swapF (fill Z n) i j i = Z j) := by
  show _ = _
  rw [swapF_i, fill_at Z n j hj]
theorem at_j (Z : Nat → Int) (n i j : Nat) (hi : i < n) (hj : j < n) : Hid (swapF (fill Z n) i j j = Z i) := by
  show _ = _
  rw [swapF_j, fill_at Z n i hi]
theorem at_o (Z : Nat → Int) (n i j q : Nat) (hq : q < n) (hi : q ≠ i) (hj : q ≠ j) : Hid (swapF (fill Z n) i j q = Z q) := by
  show _ = _
  rw [swapF_other _ _ _ _ hi hj, fill_at Z n q hq]

set_option maxHeartbeats 2000000 in
set_option maxRecDepth 100000 in
theorem core (w : World) (b0 o0 b1 o1 n c0 c1 nb i j : Nat) (Z0 Z1 : Nat → Int) (hn : n ≤ 65536) (hi : i < n) (hj : j < n) (hnb : Hid (nb = (n + 1023) / 1024))
    (h0 : Hid (∀ k, k < n → w.cell? ⟨b0, o0 + k, none⟩ = some (.int .i64 (Z0 k)))) (h1 : Hid (∀ k, k < n → w.cell? ⟨b1, o1 + k, none⟩ = some (.int .i64 (Z1 k)))) :
    Calls Try.prog 3 #[.slice (some ⟨b0, o0, none⟩) n c0, .slice (some ⟨b1, o1, none⟩) n c1, .int .i64 i, .int .i64 j] w fun e w' => e = .returned (.bool true) ∧ Below w.heap.size w w' := by
  have b64 : nb ≤ 64 := by have := hnb.out; omega
  have bn : n ≤ 1024 * nb := by have := hnb.out; omega
  have g0 : b0 < w.heap.size := block_lt (h0.out i hi)
  have g1 : b1 < w.heap.size := block_lt (h1.out i hi)
  have t1 : decide ((i : Int) < 0) = false := by rw [decide_eq_false_iff_not]; omega
  have t2 : decide ((n : Int) ≤ (i : Int)) = false := by rw [decide_eq_false_iff_not]; omega
  have t3 : decide ((j : Int) < 0) = false := by rw [decide_eq_false_iff_not]; omega
  have t4 : decide ((n : Int) ≤ (j : Int)) = false := by rw [decide_eq_false_iff_not]; omega
  have t5 : decide ((65536 : Int) < (n : Int)) = false := by rw [decide_eq_false_iff_not]; omega
  have t6 : decide (n ≤ i) = false := by rw [decide_eq_false_iff_not]; omega
  have t7 : decide (n ≤ j) = false := by rw [decide_eq_false_iff_not]; omega
  go_enter Try.func3, Try.ntmps3
  go_wp2_with (go_at_call 5; refine (bytes3_yes _ _ _ _ _ _ _ _ _ hn hn).mono ?_; rintro e w' ⟨rfl, rfl⟩)
  refine (new_any _ n nb hn hnb).mono ?_
  rintro e w1 ⟨rfl, hbel, hwl⟩
  have HS : Hid (St w w1 n nb (fill Z0 0) (fill Z1 0)) := by rw [fill_zero, fill_zero]; exact ⟨hwl, hbel⟩
  clear hbel hwl
  go_wp2_with fail
  clear t1 t2 t3 t4 t5 t6 t7
  go_loopw [11] (fun v wx => ∃ k : Nat, k ≤ n ∧ v = .int .i64 k ∧ Hid (St w wx n nb (fill Z0 k) (fill Z1 k))) (fun v _ => n - (intOf v).toNat)
  case atStart => exact ⟨0, Nat.zero_le _, rfl, HS.out⟩
  case round =>
    obtain ⟨k, hk, rfl, hS⟩ := hrel
    clear HS
    by_cases hlt : k < n
    · have d0 := hS.out.cell g0 (h0.out k hlt)
      have d1 := hS.out.cell g1 (h1.out k hlt)
      go_wp2_with fail
      go_region_with (go_at_call 7; refine (hS.out.drew.set b64 k (by omega) _ _).mono ?_; rintro e w2 ⟨rfl, hs2, _⟩)
      all_goals
        have HS2 : Hid (St w w2 n nb (fill Z0 (k + 1)) (fill Z1 (k + 1))) := hs2.congr (fill_step Z0 k) (fill_step Z1 k)
        clear hs2 d0 d1
        go_wp2
        go_roundw
        case rel => exact ⟨k + 1, by omega, by go_num, HS2⟩
        case measure => simp [intOf]; omega
    · obtain rfl : k = n := by omega
      go_wp2_with fail
      refine (hS.out.swap b64 i j (by omega) (by omega)).mono ?_
      rintro e w2 ⟨rfl, hs2, _⟩
      have HS2 : Hid (St w w2 k nb (swapF (fill Z0 k) i j) (swapF (fill Z1 k) i j)) := hs2
      clear hs2 hS
      go_wp2_with fail
      go_loopw [12] (fun v wx => ∃ q : Nat, q ≤ k ∧ v = .int .i64 q ∧ Hid (St w wx k nb (swapF (fill Z0 k) i j) (swapF (fill Z1 k) i j))) (fun v _ => k - (intOf v).toNat)
      case atStart => exact ⟨0, Nat.zero_le _, rfl, HS2⟩
      case round =>
        obtain ⟨q, hq, rfl, hT⟩ := hrel
        clear HS2
        by_cases hqt : q < k
        · by_cases c1 : q = i
          · subst c1
            have e0 := hT.out.cell g0 (h0.out j (by omega))
            have e1 := hT.out.cell g1 (h1.out j (by omega))
            go_wp2_with fail
            refine (hT.out.get b64 q (by omega) (Z0 j) (Z1 j) (at_i Z0 k q j hi hj) (at_i Z1 k q j hi hj)).mono ?_
            rintro e w3 ⟨rfl, N3, rfl⟩
            go_wp2
            go_roundw
            case rel => exact ⟨q + 1, by omega, by go_num, hT.out.drewN _⟩
            case measure => simp [intOf]; omega
          · have c1' : ((q : Int) == (i : Int)) = false := by rw [beq_eq_false_iff_ne]; omega
            by_cases c2 : q = j
            · subst c2
              have e0 := hT.out.cell g0 (h0.out i (by omega))
              have e1 := hT.out.cell g1 (h1.out i (by omega))
              go_wp2_with fail
              refine (hT.out.get b64 q (by omega) (Z0 i) (Z1 i) (at_j Z0 k i q hi hj) (at_j Z1 k i q hi hj)).mono ?_
              rintro e w3 ⟨rfl, N3, rfl⟩
              go_wp2
              go_roundw
              case rel => exact ⟨q + 1, by omega, by go_num, hT.out.drewN _⟩
              case measure => simp [intOf]; omega
            · have c2' : ((q : Int) == (j : Int)) = false := by rw [beq_eq_false_iff_ne]; omega
              have e0 := hT.out.cell g0 (h0.out q (by omega))
              have e1 := hT.out.cell g1 (h1.out q (by omega))
              go_wp2_with fail
              refine (hT.out.get b64 q (by omega) (Z0 q) (Z1 q) (at_o Z0 k i j q hqt c1 c2) (at_o Z1 k i j q hqt c1 c2)).mono ?_
              rintro e w3 ⟨rfl, N3, rfl⟩
              go_wp2
              go_roundw
              case rel => exact ⟨q + 1, by omega, by go_num, hT.out.drewN _⟩
              case measure => simp [intOf]; omega
        · go_wp2_with fail
          refine (hT.out.swap b64 j i (by omega) (by omega)).mono ?_
          rintro e w3 ⟨rfl, hs3, _⟩
          have HS3 : Hid (St w w3 k nb (fill Z0 k) (fill Z1 k)) := hs3.congr (swapF_twice _ i j) (swapF_twice _ i j)
          clear hs3 hT
          go_wp2_with fail
          go_loopw [16] (fun v wx => ∃ q : Nat, q ≤ k ∧ v = .int .i64 q ∧ Hid (St w wx k nb (fill Z0 k) (fill Z1 k))) (fun v _ => k - (intOf v).toNat)
          case atStart => exact ⟨0, Nat.zero_le _, rfl, HS3⟩
          case round =>
            obtain ⟨p, hp, rfl, hU⟩ := hrel
            clear HS3
            by_cases hpt : p < k
            · have e0 := hU.out.cell g0 (h0.out p hpt)
              have e1 := hU.out.cell g1 (h1.out p hpt)
              go_wp2_with fail
              refine (hU.out.get b64 p (by omega) (Z0 p) (Z1 p) (fill_at Z0 k p hpt) (fill_at Z1 k p hpt)).mono ?_
              rintro e w4 ⟨rfl, N4, rfl⟩
              go_wp2
              go_roundw
              case rel => exact ⟨p + 1, by omega, by go_num, hU.out.drewN _⟩
              case measure => simp [intOf]; omega
            · go_wp2_with fail
              go_ret
              exact ⟨rfl, hU.out.2⟩

theorem walk (a0 : Option Addr) (len0 cap0 : Nat) (z0 : List Int) (a1 : Option Addr) (len1 cap1 : Nat) (z1 : List Int) (a2 : Int) (a3 : Int) (w : World) (w0 : IsRow .i64 w a0 len0 cap0 z0) (w1 : IsRow .i64 w a1 len1 cap1 z1) (w2 : (Lit.int .i64 a2).wf = true) (w3 : (Lit.int .i64 a3).wf = true) :
    Calls Try.prog 3 #[.slice a0 len0 cap0, .slice a1 len1 cap1, .int .i64 a2, .int .i64 a3] w fun e w' => e = .returned (.bool true) ∧ Below w.heap.size w w' := by
  by_cases h : len0 ≤ 65536 ∧ len1 = len0 ∧ 0 ≤ a2 ∧ a2 < len0 ∧ 0 ≤ a3 ∧ a3 < len0
  · obtain ⟨hl, rfl, i0, i1, j0, j1⟩ := h
    obtain ⟨i, rfl⟩ := Int.eq_ofNat_of_zero_le i0
    obtain ⟨j, rfl⟩ := Int.eq_ofNat_of_zero_le j0
    rcases w0 with ⟨_, e, _, _⟩ | ⟨x0, rfl, l0, m0, s0, k0, _⟩
    · omega
    · rcases w1 with ⟨_, e, _, _⟩ | ⟨x1, rfl, l1, m1, s1, k1, _⟩
      · omega
      · obtain ⟨b0, o0, rfl, f0⟩ := ints_at k0 (by omega)
        obtain ⟨b1, o1, rfl, f1⟩ := ints_at k1 (by omega)
        exact core w b0 o0 b1 o1 _ _ _ _ i j (fun k => z0.getD k 0) (fun k => z1.getD k 0) hl (by omega) (by omega) rfl (fun k hk => f0 k (by omega)) (fun k hk => f1 k (by omega))
  · exact exits3 _ _ _ _ _ _ _ _ w h

/-! ### THE ROW's STEP: WRITTEN OUT: LEAVE IT -/
set_option maxRecDepth 100000 in
theorem lifted (os : Os) (started : os.Started) (H : Type) (enc : TypeId × Value → H) :
    ReturnsInHanded {} Try.checked os 3 .any (Rows.fnSwapTwiceRestoresSpec.pre6 enc Try.prog Try.f3 Rows.fnSwapTwiceRestoresRow.domain false) (Rows.fnSwapTwiceRestoresSpec.post enc Try.prog Try.f3 false true false false) := by
  refine returnsInHanded_of_change (C := Try.checked) own started (by kernel_rfl) Try.func3
    (ChangeSpec.witness6 (enc := enc) (C := Try.checked) false ⟨#[], #[.slice none 0 0, .slice none 0 0, .int .i64 0, .int .i64 0], []⟩ 8 (by kernel_rfl) (by kernel_rfl) (by kernel_rfl) (by kernel_rfl)) ?_
  intro W base args ds gs before hval0 hW hcnd _
  have hval : ∀ (j : Nat) t v, Try.f3.params[j]? = some t → args[j]? = some v → Value.okWide Try.prog W .any base t v := hval0
  have hW' := hW
  obtain ⟨p, q, hA0, hV, rfl, hfz, hnd⟩ := hW
  have hA : DataW.TrodAll enc Try.prog W 0 (fun _ => true) true Try.f3.params.toList args.toList ds p := hA0
  rw [Try.params3] at hA hval
  obtain ⟨v0, vs0, d0, ds0, p0, q0, hargs, rfl, rfl, h0, r0⟩ := trodAll_cons hA
  obtain ⟨v1, vs1, d1, ds1, p1, q1, rfl, rfl, rfl, h1, r1⟩ := trodAll_cons r0
  obtain ⟨v2, vs2, d2, ds2, p2, q2, rfl, rfl, rfl, h2, r2⟩ := trodAll_cons r1
  obtain ⟨v3, vs3, d3, ds3, p3, q3, rfl, rfl, rfl, h3, r3⟩ := trodAll_cons r2
  obtain ⟨rfl, rfl, rfl⟩ := trodAll_nil r3
  obtain rfl : args = #[v0, v1, v2, v3] := by cases args; simp_all
  obtain ⟨rfl, rfl⟩ := trodVars_none hV
  obtain ⟨a0, len0, cap0, rfl⟩ := okWide_slice Try.underlying22 (hval 0 22 v0 rfl rfl)
  have k0 := h0
  have lt0 : ∀ x ∈ p0, x.block < W.heap.size := by obtain ⟨m, hm⟩ := k0; exact DataW.trod_lt m _ _ _ hm
  obtain ⟨z0, w0⟩ : ∃ zs, IsRow .i64 W a0 len0 cap0 zs := by
    obtain ⟨fuel, hf⟩ := h0
    rcases open_ints Try.underlying22 Try.underlying2 (by kernel_rfl) hf with ⟨hcs, _⟩ | ⟨x, l, c, zs, hcs, _, hl, hm, hz, _, hcell, hwz⟩
    · simp [Value.cells] at hcs
      obtain ⟨rfl, rfl, rfl⟩ := hcs
      exact ⟨[], .inl ⟨rfl, rfl, rfl, rfl⟩⟩
    · simp [Value.cells] at hcs
      obtain ⟨rfl, rfl, rfl⟩ := hcs
      exact ⟨zs, .inr ⟨_, rfl, hl, hm, by simpa using hz, hcell, hwz⟩⟩
  obtain ⟨a1, len1, cap1, rfl⟩ := okWide_slice Try.underlying22 (hval 1 22 v1 rfl rfl)
  have k1 := h1
  have lt1 : ∀ x ∈ p1, x.block < W.heap.size := by obtain ⟨m, hm⟩ := k1; exact DataW.trod_lt m _ _ _ hm
  obtain ⟨z1, w1⟩ : ∃ zs, IsRow .i64 W a1 len1 cap1 zs := by
    obtain ⟨fuel, hf⟩ := h1
    rcases open_ints Try.underlying22 Try.underlying2 (by kernel_rfl) hf with ⟨hcs, _⟩ | ⟨x, l, c, zs, hcs, _, hl, hm, hz, _, hcell, hwz⟩
    · simp [Value.cells] at hcs
      obtain ⟨rfl, rfl, rfl⟩ := hcs
      exact ⟨[], .inl ⟨rfl, rfl, rfl, rfl⟩⟩
    · simp [Value.cells] at hcs
      obtain ⟨rfl, rfl, rfl⟩ := hcs
      exact ⟨zs, .inr ⟨_, rfl, hl, hm, by simpa using hz, hcell, hwz⟩⟩
  obtain ⟨a2, rfl, rfl, rfl, w2⟩ := open_int Try.underlying3 (hval 2 3 v2 rfl rfl) h2
  obtain ⟨a3, rfl, rfl, rfl, w3⟩ := open_int Try.underlying3 (hval 3 3 v3 rfl rfl) h3
  clear hA0 hval0
  refine (walk a0 len0 cap0 z0 a1 len1 cap1 z1 a2 a3 W w0 w1 w2 w3).mono fun e W' ⟨he, bel⟩ => ?_
  subst he
  exact ⟨_, rfl, _, _, _, [], _, [], hW', trodAll_mk1 (shut_bool Try.underlying4 _), (trodAll_cons_mk (Below.trod laidOut (by kernel_rfl) (of_decide_eq_true (by kernel_rfl)) k0 bel lt0) (trodAll_cons_mk (Below.trod laidOut (by kernel_rfl) (of_decide_eq_true (by kernel_rfl)) k1 bel lt1) (trodAll_cons_mk (shut_int Try.underlying3 w2) (trodAll_cons_mk (shut_int Try.underlying3 w3) trodAll_mk0)))), rfl, bel.frame _, fun h => by cases h⟩

theorem over : Rows.fnSwapTwiceRestoresRow.holds Try.pinned (OpenSpec.ofChange Rows.fnSwapTwiceRestoresSpec) :=
  OpenClaim.holds_of_wide 3 Try.f3 rfl rfl rfl rfl rfl rfl rfl ⟨rfl, rfl, rfl, rfl, rfl⟩ rfl rfl rfl rfl rfl (by kernel_rfl) Try.func3 (by kernel_rfl)
    (of_decide_eq_true (by kernel_rfl)) (by unfold Func.isWrapper; first | (rw [if_pos (by decide +kernel)]; kernel_rfl) | (rw [if_neg (by decide +kernel)]; exact ⟨rfl, rfl⟩))
    (fun os started H enc _ => lifted os started H enc)

/-- ████ THE STATEMENT ████ -/
theorem proved : Rows.FnSwapTwiceRestoresSaid := over
end Go.Proofs.Qxb6615203a.fnSwapTwiceRestores
