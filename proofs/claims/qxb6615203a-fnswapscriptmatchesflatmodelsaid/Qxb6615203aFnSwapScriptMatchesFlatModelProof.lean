/-
  THE PROOF OF 'Rows.FnSwapScriptMatchesFlatModelSaid', off the shell that the kit's program wrote; the walk is typed by hand.
-/
import Derived.Test.Qxb6615203aRows
import Derived.WalkKit
import Derived.ProofKit
import Derived.OpenShut
import Derived.ShutString
import Derived.ChangeOld
import Derived.Below
import Derived.Test.Qxb6615203aWalksD
import Derived.Deep.RegionWith
namespace Go.Proofs.Qxb6615203a.fnSwapScriptMatchesFlatModel
open Go.ChangeShapes Go.WideShapes Go.ChangeAt Go.RowKit
open Go.ChangeMaps (open_string shut_string)
open Go.Deep
set_option linter.unusedVariables false

theorem own : ownKnob Try.prog.godebug = none := by kernel_rfl
theorem laidOut : laidOutB Try.prog = true := by kernel_rfl

/-- WHAT THE WALK IS TOLD OF A SLICE OF INTEGERS THAT CAME IN: it is nil; or it leads to a row of 'cap' cells, the numbers 'zs' (the first 'len' are its elements, the rest its spare room), each fitting its kind. -/
def IsRow (k : IntKind) (w : World) (a : Option Addr) (len cap : Nat) (zs : List Int) : Prop :=
  (a = none ∧ len = 0 ∧ cap = 0 ∧ zs = []) ∨
  ∃ x, a = some x ∧ len ≤ cap ∧ cap ≤ maxLen ∧ zs.length = cap ∧ (∀ i, i < zs.length → w.cell? (x.add i) = some (.int k (zs.getD i 0))) ∧ ∀ n ∈ zs, (Lit.int k n).wf = true


/-- What the walk is told of a slice that came in: where it has an element, it leads to plain cells. -/
def Leads (w : World) (a : Option Addr) (n : Nat) (Z : Nat → Int) : Prop :=
  0 < n → ∃ b o, a = some ⟨b, o, none⟩ ∧ b < w.heap.size ∧ ∀ k, k < n → w.cell? ⟨b, o + k, none⟩ = some (.int .i64 (Z k))

/-- The script's first t steps stay within the list. -/
def Within (I J : Nat → Int) (n t : Nat) : Prop := ∀ s, s < t → 0 ≤ I s ∧ I s < n ∧ 0 ≤ J s ∧ J s < n

theorem within_step {I J : Nat → Int} {n t : Nat} (h : Within I J n t) (a : 0 ≤ I t) (b : I t < n) (c : 0 ≤ J t) (d : J t < n) : Within I J n (t + 1) := by
  intro s hs
  by_cases e : s = t
  · subst e
    exact ⟨a, b, c, d⟩
  · exact h s (by omega)

set_option maxHeartbeats 4000000 in
set_option maxRecDepth 100000 in
theorem core (w : World) (a0 a1 a2 a3 : Option Addr) (n T c0 c1 c2 c3 nb : Nat) (Z0 Z1 I J : Nat → Int) (hn : n ≤ 65536) (hT : T ≤ 65536) (hs : n + n + T + T ≤ 131072) (hnb : Hid (nb = (n + 1023) / 1024))
    (h0 : Hid (Leads w a0 n Z0)) (h1 : Hid (Leads w a1 n Z1)) (h2 : Hid (Leads w a2 T I)) (h3 : Hid (Leads w a3 T J)) :
    Calls Try.prog 4 #[.slice a0 n c0, .slice a1 n c1, .slice a2 T c2, .slice a3 T c3] w fun e w' => e = .returned (.bool true) ∧ Below w.heap.size w w' := by
  have b64 : nb ≤ 64 := by have := hnb.out; omega
  have bn : n ≤ 1024 * nb := by have := hnb.out; omega
  have t1 : decide ((65536 : Int) < (n : Int)) = false := by rw [decide_eq_false_iff_not]; omega
  have t2 : decide ((65536 : Int) < (T : Int)) = false := by rw [decide_eq_false_iff_not]; omega
  have t3 : decide ((131072 : Int) < (n : Int) + (n : Int)) = false := by rw [decide_eq_false_iff_not]; omega
  have t4 : decide ((131072 : Int) < (n : Int) + (n : Int) + (T : Int)) = false := by rw [decide_eq_false_iff_not]; omega
  have t5 : decide ((131072 : Int) < (n : Int) + (n : Int) + (T : Int) + (T : Int)) = false := by rw [decide_eq_false_iff_not]; omega
  go_enter Try.func4, Try.ntmps4
  go_wp2_with (go_at_call 10; refine (bytes4_yes _ _ _ _ _ _ _ _ _ _ _ _ _ hn hn hT hT).mono ?_; rintro e w' ⟨rfl, rfl⟩)
  clear t1 t2 t3 t4 t5
  go_loop [11] (fun v => ∃ t : Nat, t ≤ T ∧ v = .int .i64 t ∧ Hid (Within I J n t)) (fun v => T - (intOf v).toNat)
  case atStart => exact ⟨0, Nat.zero_le _, rfl, fun s hs => absurd hs (Nat.not_lt_zero _)⟩
  case round =>
    obtain ⟨t, ht, rfl, hW⟩ := hrel
    by_cases hlt : t < T
    · obtain ⟨b2, o2, rfl, g2, f2⟩ := h2.out (by omega)
      obtain ⟨b3, o3, rfl, g3, f3⟩ := h3.out (by omega)
      have d2 := f2 t hlt
      have d3 := f3 t hlt
      have HG2 : Hid (b2 < w.heap.size) := g2
      have HG3 : Hid (b3 < w.heap.size) := g3
      clear f2 f3 g2 g3
      by_cases e1 : 0 ≤ I t
      · by_cases e2 : I t < n
        · by_cases e3 : 0 ≤ J t
          · by_cases e4 : J t < n
            · have u1 : decide (I t < 0) = false := by rw [decide_eq_false_iff_not]; omega
              have u2 : decide ((n : Int) ≤ I t) = false := by rw [decide_eq_false_iff_not]; omega
              have u3 : decide (J t < 0) = false := by rw [decide_eq_false_iff_not]; omega
              have u4 : decide ((n : Int) ≤ J t) = false := by rw [decide_eq_false_iff_not]; omega
              go_wp2
              go_round
              case rel => exact ⟨t + 1, by omega, by go_num, within_step hW.out e1 e2 e3 e4⟩
              case measure => simp [intOf]; omega
            · have u1 : decide (I t < 0) = false := by rw [decide_eq_false_iff_not]; omega
              have u2 : decide ((n : Int) ≤ I t) = false := by rw [decide_eq_false_iff_not]; omega
              have u3 : decide (J t < 0) = false := by rw [decide_eq_false_iff_not]; omega
              have u4 : decide ((n : Int) ≤ J t) = true := by rw [decide_eq_true_iff]; omega
              go_wp2
              go_ret
              exact ⟨rfl, Below.refl _ _⟩
          · have u1 : decide (I t < 0) = false := by rw [decide_eq_false_iff_not]; omega
            have u2 : decide ((n : Int) ≤ I t) = false := by rw [decide_eq_false_iff_not]; omega
            have u3 : decide (J t < 0) = true := by rw [decide_eq_true_iff]; omega
            go_wp2
            go_ret
            exact ⟨rfl, Below.refl _ _⟩
        · have u1 : decide (I t < 0) = false := by rw [decide_eq_false_iff_not]; omega
          have u2 : decide ((n : Int) ≤ I t) = true := by rw [decide_eq_true_iff]; omega
          go_wp2
          go_ret
          exact ⟨rfl, Below.refl _ _⟩
      · have u1 : decide (I t < 0) = true := by rw [decide_eq_true_iff]; omega
        go_wp2
        go_ret
        exact ⟨rfl, Below.refl _ _⟩
    · obtain rfl : t = T := by omega
      have hmk := run_make_row' (P := Try.prog) 22 2 (.int .i64 0) 8 Try.underlying22 info2 rfl .i64 .i64 n (by omega) (by omega)
      go_wp2_with fail
      refine (new_any _ n nb hn hnb).mono ?_
      rintro e w1 ⟨rfl, hbel, hwl⟩
      have hst : St w w1 n nb (fill Z0 0) (fill Z1 0) := by rw [fill_zero, fill_zero]; exact ⟨hwl, hbel⟩
      have hst2 := hst.rows.congr rfl rfl (fill_zero Z0).symm (fill_zero Z1).symm
      have HS : Hid (St2 w ((w1.alloc (.cells (madeCells #[.int .i64 0] n) 2)).alloc (.cells (madeCells #[.int .i64 0] n) 2)) n nb w1.heap.size (w1.heap.size + 1) (fill Z0 0) (fill Z1 0) (fill Z0 0) (fill Z1 0)) := hst2
      clear hbel hwl hst hst2
      go_wp2_with fail
      clear hmk
      generalize w1.heap.size + 1 = md at *
      generalize w1.heap.size = ma at *
      go_loopw [15] (fun v wx => ∃ k : Nat, k ≤ n ∧ v = .int .i64 k ∧ Hid (St2 w wx n nb ma md (fill Z0 k) (fill Z1 k) (fill Z0 k) (fill Z1 k))) (fun v _ => n - (intOf v).toNat)
      case atStart => exact ⟨0, Nat.zero_le _, rfl, HS⟩
      case round =>
        obtain ⟨k, hk, rfl, hS⟩ := hrel
        clear HS
        by_cases hkt : k < n
        · obtain ⟨b0, o0, rfl, g0, f0⟩ := h0.out (by omega)
          obtain ⟨b1, o1, rfl, g1, f1⟩ := h1.out (by omega)
          have HF0 : Hid (w.cell? ⟨b0, o0 + k, none⟩ = some (.int .i64 (Z0 k))) := f0 k hkt
          have HF1 : Hid (w.cell? ⟨b1, o1 + k, none⟩ = some (.int .i64 (Z1 k))) := f1 k hkt
          clear f0 f1
          have d0 := hS.out.st.cell g0 HF0.out
          have d1 := hS.out.st.cell g1 HF1.out
          go_wp2_with fail
          go_region_with (go_at_call 7; refine (hS.out.st.drew.set b64 k (by omega) _ _).mono ?_; rintro e w2 ⟨rfl, hs2, hkp⟩)
          all_goals
            have hs3 := hS.out.drew.kept (hs2.congr (fill_step Z0 k) (fill_step Z1 k)) hkp
            have hs4 := hs3.putA k (Z0 k)
            have HE : Hid (St2 w ((w2.setCell ⟨ma, k, none⟩ (.int .i64 (Z0 k))).setCell ⟨md, k, none⟩ (.int .i64 (Z1 k))) n nb ma md (fill Z0 (k + 1)) (fill Z1 (k + 1)) (fill Z0 (k + 1)) (fill Z1 (k + 1))) :=
              (hs4.putD k (Z1 k)).congr rfl rfl (fill_step Z0 k) (fill_step Z1 k)
            have q0 := hs3.st.cell g0 HF0.out
            have q1 := hs4.st.cell g1 HF1.out
            have m0 := hs3.cellA k hkt
            have m1 := hs4.cellD k hkt
            have z0 := hs3.frzA k
            have z1 := hs3.frzD k
            have hne : ma ≠ md := hs3.ne
            clear hs2 hkp hs3 hs4 d0 d1
            go_wp2
            go_roundw
            case rel => exact ⟨k + 1, by omega, by go_num, HE⟩
            case measure => simp [intOf]; omega
        · obtain rfl : k = n := by omega
          go_wp2_with fail
          go_loopw [16] (fun v wx => ∃ s : Nat, s ≤ t ∧ v = .int .i64 s ∧ ∃ A D : Nat → Int, Hid (St2 w wx k nb ma md A D A D)) (fun v _ => t - (intOf v).toNat)
          case atStart => exact ⟨0, Nat.zero_le _, rfl, _, _, hS⟩
          case round =>
            obtain ⟨s, hst, rfl, A, D, hU⟩ := hrel
            clear hS
            by_cases hss : s < t
            · obtain ⟨b2, o2, rfl, g2, f2⟩ := h2.out (by omega)
              obtain ⟨b3, o3, rfl, g3, f3⟩ := h3.out (by omega)
              obtain ⟨i1, i2, j1, j2⟩ := hW.out s hss
              obtain ⟨p, hp⟩ := Int.eq_ofNat_of_zero_le i1
              obtain ⟨r, hr⟩ := Int.eq_ofNat_of_zero_le j1
              have bp : p < k := by omega
              have br : r < k := by omega
              have d2 : wr.cell? ⟨b2, o2 + s, none⟩ = some (.int .i64 (p : Int)) := by have := hU.out.st.cell g2 (f2 s hss); rw [hp] at this; exact this
              have d3 : wr.cell? ⟨b3, o3 + s, none⟩ = some (.int .i64 (r : Int)) := by have := hU.out.st.cell g3 (f3 s hss); rw [hr] at this; exact this
              clear f2 f3 i1 i2 j1 j2 hp hr g2 g3
              go_wp2_with fail
              refine (hU.out.st.swap b64 p r (by omega) (by omega)).mono ?_
              rintro e w2 ⟨rfl, hs2, hkp⟩
              have hs3 := hU.out.kept hs2 hkp
              have hs4 := (hs3.putA p (A r)).putA r (A p)
              have HE : Hid (St2 w ((((w2.setCell ⟨ma, p, none⟩ (.int .i64 (A r))).setCell ⟨ma, r, none⟩ (.int .i64 (A p))).setCell ⟨md, p, none⟩ (.int .i64 (D r))).setCell ⟨md, r, none⟩ (.int .i64 (D p))) k nb ma md (swapF A p r) (swapF D p r) (swapF A p r) (swapF D p r)) :=
                hs3.swapped p r
              have m0 := hs3.cellA p bp
              have m1 := hs3.cellA r br
              obtain ⟨v1, m2⟩ := cell?_setCell_some (w := w2) (p := ⟨ma, p, none⟩) (x := .int .i64 (A r)) (q := ⟨ma, r, none⟩) m1
              have z0 := hs3.frzA p
              have z1 := hs3.frzA r
              have n0 := hs4.cellD p bp
              have n1 := hs4.cellD r br
              have n0' := hs3.cellD p bp
              have n1' := hs3.cellD r br
              obtain ⟨v2, n2⟩ := cell?_setCell_some (w := (w2.setCell ⟨ma, p, none⟩ (.int .i64 (A r))).setCell ⟨ma, r, none⟩ (.int .i64 (A p))) (p := ⟨md, p, none⟩) (x := .int .i64 (D r)) (q := ⟨md, r, none⟩) n1
              have z2 := hs3.frzD p
              have z3 := hs3.frzD r
              have hne : ma ≠ md := hs3.ne
              clear hs2 hkp hs3 hs4 hU d2 d3
              go_wp2
              go_roundw
              case rel => exact ⟨s + 1, by omega, by go_num, _, _, HE⟩
              case measure => simp [intOf]; omega
            · go_wp2_with fail
              go_loopw [23] (fun v wx => ∃ q : Nat, q ≤ k ∧ v = .int .i64 q ∧ Hid (St2 w wx k nb ma md A D A D)) (fun v _ => k - (intOf v).toNat)
              case atStart => exact ⟨0, Nat.zero_le _, rfl, hU⟩
              case round =>
                obtain ⟨q, hq, rfl, hV⟩ := hrel
                clear hU
                by_cases hqt : q < k
                · have m0 := hV.out.cellA q hqt
                  have m1 := hV.out.cellD q hqt
                  go_wp2_with fail
                  refine (hV.out.st.get b64 q (by omega) (A q) (D q) rfl rfl).mono ?_
                  rintro e w4 ⟨rfl, N4, rfl⟩
                  go_wp2
                  go_roundw
                  case rel => exact ⟨q + 1, by omega, by go_num, hV.out.drewN _⟩
                  case measure => simp [intOf]; omega
                · go_wp2_with fail
                  go_ret
                  exact ⟨rfl, hV.out.st.2⟩

theorem leads {w : World} {a : Option Addr} {len cap : Nat} {zs : List Int} (h : IsRow .i64 w a len cap zs) : Leads w a len (fun k => zs.getD k 0) := by
  intro hp
  rcases h with ⟨_, e, _, _⟩ | ⟨x, rfl, l, m, s, k, _⟩
  · omega
  · obtain ⟨b, o, rfl, f⟩ := ints_at k (by omega)
    exact ⟨b, o, rfl, block_lt (f 0 (by omega)), fun q hq => f q (by omega)⟩

theorem walk (a0 : Option Addr) (len0 cap0 : Nat) (z0 : List Int) (a1 : Option Addr) (len1 cap1 : Nat) (z1 : List Int) (a2 : Option Addr) (len2 cap2 : Nat) (z2 : List Int) (a3 : Option Addr) (len3 cap3 : Nat) (z3 : List Int) (w : World) (w0 : IsRow .i64 w a0 len0 cap0 z0) (w1 : IsRow .i64 w a1 len1 cap1 z1) (w2 : IsRow .i64 w a2 len2 cap2 z2) (w3 : IsRow .i64 w a3 len3 cap3 z3) :
    Calls Try.prog 4 #[.slice a0 len0 cap0, .slice a1 len1 cap1, .slice a2 len2 cap2, .slice a3 len3 cap3] w fun e w' => e = .returned (.bool true) ∧ Below w.heap.size w w' := by
  by_cases h : len0 ≤ 65536 ∧ len2 ≤ 65536 ∧ len1 = len0 ∧ len3 = len2 ∧ len0 + len0 + len2 + len2 ≤ 131072
  · obtain ⟨hl, hl2, rfl, rfl, hs⟩ := h
    exact core w _ _ _ _ _ _ _ _ _ _ _ _ _ _ _ hl hl2 hs rfl (leads w0) (leads w1) (leads w2) (leads w3)
  · exact exits4 _ _ _ _ _ _ _ _ _ _ _ _ w h

/-! ### THE ROW's STEP: WRITTEN OUT: LEAVE IT -/
set_option maxRecDepth 100000 in
theorem lifted (os : Os) (started : os.Started) (H : Type) (enc : TypeId × Value → H) :
    ReturnsInHanded {} Try.checked os 4 .any (Rows.fnSwapScriptMatchesFlatModelSpec.pre6 enc Try.prog Try.f4 Rows.fnSwapScriptMatchesFlatModelRow.domain false) (Rows.fnSwapScriptMatchesFlatModelSpec.post enc Try.prog Try.f4 false true false false) := by
  refine returnsInHanded_of_change (C := Try.checked) own started (by kernel_rfl) Try.func4
    (ChangeSpec.witness6 (enc := enc) (C := Try.checked) false ⟨#[], #[.slice none 0 0, .slice none 0 0, .slice none 0 0, .slice none 0 0], []⟩ 8 (by kernel_rfl) (by kernel_rfl) (by kernel_rfl) (by kernel_rfl)) ?_
  intro W base args ds gs before hval0 hW hcnd _
  have hval : ∀ (j : Nat) t v, Try.f4.params[j]? = some t → args[j]? = some v → Value.okWide Try.prog W .any base t v := hval0
  have hW' := hW
  obtain ⟨p, q, hA0, hV, rfl, hfz, hnd⟩ := hW
  have hA : DataW.TrodAll enc Try.prog W 0 (fun _ => true) true Try.f4.params.toList args.toList ds p := hA0
  rw [Try.params4] at hA hval
  obtain ⟨v0, vs0, d0, ds0, p0, q0, hargs, rfl, rfl, h0, r0⟩ := trodAll_cons hA
  obtain ⟨v1, vs1, d1, ds1, p1, q1, rfl, rfl, rfl, h1, r1⟩ := trodAll_cons r0
  obtain ⟨v2, vs2, d2, ds2, p2, q2, rfl, rfl, rfl, h2, r2⟩ := trodAll_cons r1
  obtain ⟨v3, vs3, d3, ds3, p3, q3, rfl, rfl, rfl, h3, r3⟩ := trodAll_cons r2
  obtain ⟨rfl, rfl, rfl⟩ := trodAll_nil r3
  obtain rfl : args = #[v0, v1, v2, v3] := by cases args; simp_all
  obtain ⟨rfl, rfl⟩ := trodVars_none hV
  obtain ⟨a0, len0, cap0, rfl⟩ := okWide_slice Try.underlying22 (hval 0 22 v0 rfl rfl)
  have k0 := h0
  have lt0 : ∀ x ∈ p0, x.block < W.heap.size := by obtain ⟨m, hm⟩ := k0; exact DataW.trod_lt m _ _ _ hm
  obtain ⟨z0, w0⟩ : ∃ zs, IsRow .i64 W a0 len0 cap0 zs := by
    obtain ⟨fuel, hf⟩ := h0
    rcases open_ints Try.underlying22 Try.underlying2 (by kernel_rfl) hf with ⟨hcs, _⟩ | ⟨x, l, c, zs, hcs, _, hl, hm, hz, _, hcell, hwz⟩
    · simp [Value.cells] at hcs
      obtain ⟨rfl, rfl, rfl⟩ := hcs
      exact ⟨[], .inl ⟨rfl, rfl, rfl, rfl⟩⟩
    · simp [Value.cells] at hcs
      obtain ⟨rfl, rfl, rfl⟩ := hcs
      exact ⟨zs, .inr ⟨_, rfl, hl, hm, by simpa using hz, hcell, hwz⟩⟩
  obtain ⟨a1, len1, cap1, rfl⟩ := okWide_slice Try.underlying22 (hval 1 22 v1 rfl rfl)
  have k1 := h1
  have lt1 : ∀ x ∈ p1, x.block < W.heap.size := by obtain ⟨m, hm⟩ := k1; exact DataW.trod_lt m _ _ _ hm
  obtain ⟨z1, w1⟩ : ∃ zs, IsRow .i64 W a1 len1 cap1 zs := by
    obtain ⟨fuel, hf⟩ := h1
    rcases open_ints Try.underlying22 Try.underlying2 (by kernel_rfl) hf with ⟨hcs, _⟩ | ⟨x, l, c, zs, hcs, _, hl, hm, hz, _, hcell, hwz⟩
    · simp [Value.cells] at hcs
      obtain ⟨rfl, rfl, rfl⟩ := hcs
      exact ⟨[], .inl ⟨rfl, rfl, rfl, rfl⟩⟩
    · simp [Value.cells] at hcs
      obtain ⟨rfl, rfl, rfl⟩ := hcs
      exact ⟨zs, .inr ⟨_, rfl, hl, hm, by simpa using hz, hcell, hwz⟩⟩
  obtain ⟨a2, len2, cap2, rfl⟩ := okWide_slice Try.underlying30 (hval 2 30 v2 rfl rfl)
  have k2 := h2
  have lt2 : ∀ x ∈ p2, x.block < W.heap.size := by obtain ⟨m, hm⟩ := k2; exact DataW.trod_lt m _ _ _ hm
  obtain ⟨z2, w2⟩ : ∃ zs, IsRow .i64 W a2 len2 cap2 zs := by
    obtain ⟨fuel, hf⟩ := h2
    rcases open_ints Try.underlying30 Try.underlying3 (by kernel_rfl) hf with ⟨hcs, _⟩ | ⟨x, l, c, zs, hcs, _, hl, hm, hz, _, hcell, hwz⟩
    · simp [Value.cells] at hcs
      obtain ⟨rfl, rfl, rfl⟩ := hcs
      exact ⟨[], .inl ⟨rfl, rfl, rfl, rfl⟩⟩
    · simp [Value.cells] at hcs
      obtain ⟨rfl, rfl, rfl⟩ := hcs
      exact ⟨zs, .inr ⟨_, rfl, hl, hm, by simpa using hz, hcell, hwz⟩⟩
  obtain ⟨a3, len3, cap3, rfl⟩ := okWide_slice Try.underlying30 (hval 3 30 v3 rfl rfl)
  have k3 := h3
  have lt3 : ∀ x ∈ p3, x.block < W.heap.size := by obtain ⟨m, hm⟩ := k3; exact DataW.trod_lt m _ _ _ hm
  obtain ⟨z3, w3⟩ : ∃ zs, IsRow .i64 W a3 len3 cap3 zs := by
    obtain ⟨fuel, hf⟩ := h3
    rcases open_ints Try.underlying30 Try.underlying3 (by kernel_rfl) hf with ⟨hcs, _⟩ | ⟨x, l, c, zs, hcs, _, hl, hm, hz, _, hcell, hwz⟩
    · simp [Value.cells] at hcs
      obtain ⟨rfl, rfl, rfl⟩ := hcs
      exact ⟨[], .inl ⟨rfl, rfl, rfl, rfl⟩⟩
    · simp [Value.cells] at hcs
      obtain ⟨rfl, rfl, rfl⟩ := hcs
      exact ⟨zs, .inr ⟨_, rfl, hl, hm, by simpa using hz, hcell, hwz⟩⟩
  clear hA0 hval0
  refine (walk a0 len0 cap0 z0 a1 len1 cap1 z1 a2 len2 cap2 z2 a3 len3 cap3 z3 W w0 w1 w2 w3).mono fun e W' ⟨he, bel⟩ => ?_
  subst he
  exact ⟨_, rfl, _, _, _, [], _, [], hW', trodAll_mk1 (shut_bool Try.underlying4 _), (trodAll_cons_mk (Below.trod laidOut (by kernel_rfl) (of_decide_eq_true (by kernel_rfl)) k0 bel lt0) (trodAll_cons_mk (Below.trod laidOut (by kernel_rfl) (of_decide_eq_true (by kernel_rfl)) k1 bel lt1) (trodAll_cons_mk (Below.trod laidOut (by kernel_rfl) (of_decide_eq_true (by kernel_rfl)) k2 bel lt2) (trodAll_cons_mk (Below.trod laidOut (by kernel_rfl) (of_decide_eq_true (by kernel_rfl)) k3 bel lt3) trodAll_mk0)))), rfl, bel.frame _, fun h => by cases h⟩

theorem over : Rows.fnSwapScriptMatchesFlatModelRow.holds Try.pinned (OpenSpec.ofChange Rows.fnSwapScriptMatchesFlatModelSpec) :=
  OpenClaim.holds_of_wide 4 Try.f4 rfl rfl rfl rfl rfl rfl rfl ⟨rfl, rfl, rfl, rfl, rfl⟩ rfl rfl rfl rfl rfl (by kernel_rfl) Try.func4 (by kernel_rfl)
    (of_decide_eq_true (by kernel_rfl)) (by unfold Func.isWrapper; first | (rw [if_pos (by decide +kernel)]; kernel_rfl) | (rw [if_neg (by decide +kernel)]; exact ⟨rfl, rfl⟩))
    (fun os started H enc _ => lifted os started H enc)

/-- ████ THE STATEMENT ████ -/
theorem proved : Rows.FnSwapScriptMatchesFlatModelSaid := over
end Go.Proofs.Qxb6615203a.fnSwapScriptMatchesFlatModel
