/-
  THE PROOF OF 'Rows.FnWellFormedIsMarkerThenLowerHexOf32BytesSaid', off the shell that the kit's program wrote; the walk and the frame's last step are typed by hand ('Below' in the place of 'Grown': '[]byte(s)' lays a marked row).
-/
import Derived.Test.Qxb6618275aRows
import Derived.WalkKit
import Derived.ProofKit
import Derived.OpenShut
import Derived.ShutString
import Derived.ChangeOld
import Derived.Below
import Derived.Test.Qxb6618275aWalksC
namespace Go.Proofs.Qxb6618275a.fnWellFormedIsMarkerThenLowerHexOf32Bytes
open Go.ChangeShapes Go.WideShapes Go.ChangeAt Go.RowKit
open Go.ChangeMaps (open_string shut_string)
set_option linter.unusedVariables false      -- a walk need not use every 'w<i>' (that an integer argument fits its kind)

theorem own : ownKnob Try.prog.godebug = none := by kernel_rfl

theorem bel_drewN {B : Nat} {a w : World} (h : Below B a w) (n : Nat) : Below B a (w.drewN n) := h.trans ⟨rfl, rfl, rfl, Nat.le_refl _, fun _ _ => rfl⟩
theorem wf_as (k t : ByteArray) (b : Bool) (w : World) (ht : t.size ≤ maxLen) (h : Hid (wfB k.data.toList t.data.toList = b)) :
    Calls Try.prog 5 #[.string k, .string t] w fun e w' => e = .returned (.bool b) ∧ Below w.heap.size w w' := by
  have := wf_any k t w ht
  rw [h.out] at this
  exact this
theorem has_as (t k : ByteArray) (b : Bool) (w : World) (ht : t.size ≤ maxLen) (hk : k.size ≤ maxLen) (h : Hid (Lib.hasPrefix t.data.toList k.data.toList = b)) :
    Calls Try.prog 6 #[.string t, .string k] w fun e w' => e = .returned (.bool b) ∧ ∃ n, w' = w.drewN n := by
  have := has_any t k w ht hk
  rw [h.out] at this
  exact this
theorem hex_as (d : ByteArray) (b : Bool) (w : World) (hd : d.size ≤ maxLen) (h : Hid (lowB d.data.toList = b)) :
    Calls Try.prog 7 #[.string d] w fun e w' => e = .returned (.bool b) ∧ ∃ n, w' = w.drewN n := by
  have := hex_any d w hd
  rw [h.out] at this
  exact this

/-- The four ways. -/
theorem ways (k j t : List UInt8) : (Lib.hasPrefix t k = false ∧ wfB k t = false) ∨ (Lib.hasPrefix t k = true ∧ wfB k t = false ∧ lowB (t.drop k.length) = false) ∨
    (Lib.hasPrefix t k = true ∧ wfB k t = true ∧ lowB (t.drop k.length) = true ∧ k = j) ∨ (Lib.hasPrefix t k = true ∧ wfB k t = true ∧ lowB (t.drop k.length) = true ∧ k ≠ j ∧ wfB j t = false) := by
  cases hp : Lib.hasPrefix t k
  · exact .inl ⟨rfl, wfB_miss k t hp⟩
  · have h := wfB_hit k t hp
    cases hl : lowB (t.drop k.length)
    · exact .inr (.inl ⟨rfl, by rw [h, hl], rfl⟩)
    · rw [hl] at h
      by_cases e : k = j
      · exact .inr (.inr (.inl ⟨rfl, h, rfl, e⟩))
      · refine .inr (.inr (.inr ⟨rfl, h, rfl, e, ?_⟩))
        have := wfB_two k j t e
        rw [h] at this
        simpa using this

set_option maxHeartbeats 1000000 in
set_option maxRecDepth 100000 in
theorem way1 (k j t : ByteArray) (gJ : Bool) (w0 : k.size ≤ maxLen) (w1 : j.size ≤ maxLen) (w2 : t.size ≤ maxLen) (w : World)
    (hp : Hid (Lib.hasPrefix t.data.toList k.data.toList = false)) (hk : Hid (wfB k.data.toList t.data.toList = false)) (hj : Hid (wfB j.data.toList t.data.toList = gJ)) :
    Calls Try.prog 3 #[.string k, .string j, .string t] w fun e w' => e = .returned (.bool true) ∧ Below w.heap.size w w' := by
  go_enter Try.func3, Try.ntmps3
  go_wp2_with (go_at_call 4; refine (bytes_any _ _ _ _ w0 w1 w2).mono ?_; rintro e w ⟨⟨r, rfl⟩, rfl⟩)
  · go_ret
    exact ⟨rfl, Below.refl _ _⟩
  · go_ret
    exact ⟨rfl, Below.refl _ _⟩
  · go_ret
    exact ⟨rfl, Below.refl _ _⟩
  · go_ret
    exact ⟨rfl, Below.refl _ _⟩
  refine (wf_as _ _ false _ w2 hk).mono ?_
  rintro e W1 ⟨rfl, b1⟩
  have B1 : Hid (Below w.heap.size w W1) := b1
  clear b1
  go_wp2_with fail
  refine (wf_as _ _ gJ _ w2 hj).mono ?_
  rintro e W2 ⟨rfl, b2⟩
  have B2 : Hid (Below W1.heap.size W1 W2) := b2
  clear b2
  go_wp2_with fail
  all_goals
    refine (has_as _ _ false _ w2 w0 hp).mono ?_
    rintro e W3 ⟨rfl, n3, rfl⟩
    go_wp2_with fail
    go_ret
    exact ⟨rfl, bel_drewN (B1.out.trans (B2.out.mono B1.out.size)) _⟩

set_option maxHeartbeats 1000000 in
set_option maxRecDepth 100000 in
theorem way2 (k j t R : ByteArray) (W gJ : Bool) (w0 : k.size ≤ maxLen) (w1 : j.size ≤ maxLen) (w2 : t.size ≤ maxLen) (w : World) (hle : k.size ≤ t.size)
    (hp : Hid (Lib.hasPrefix t.data.toList k.data.toList = true)) (hk : Hid (wfB k.data.toList t.data.toList = W)) (hj : Hid (wfB j.data.toList t.data.toList = gJ)) (hw : Hid (lowB R.data.toList = W)) (hR : t.extract k.size t.size = R) (hRs : R.size ≤ t.size)
    (h0 : Hid (wfB [] R.data.toList = W)) (h1 : Hid (wfB j.data.toList (j ++ R).data.toList = W)) (hno : W = true → gJ = true → k.toList = j.toList) :
    Calls Try.prog 3 #[.string k, .string j, .string t] w fun e w' => e = .returned (.bool true) ∧ Below w.heap.size w w' := by
  go_enter Try.func3, Try.ntmps3
  go_wp2_with (go_at_call 4; refine (bytes_any _ _ _ _ w0 w1 w2).mono ?_; rintro e w ⟨⟨r, rfl⟩, rfl⟩)
  · go_ret
    exact ⟨rfl, Below.refl _ _⟩
  · go_ret
    exact ⟨rfl, Below.refl _ _⟩
  · go_ret
    exact ⟨rfl, Below.refl _ _⟩
  · go_ret
    exact ⟨rfl, Below.refl _ _⟩
  refine (wf_as _ _ W _ w2 hk).mono ?_
  rintro e W1 ⟨rfl, b1⟩
  have B1 : Hid (Below w.heap.size w W1) := b1
  clear b1
  go_wp2_with fail
  refine (wf_as _ _ gJ _ w2 hj).mono ?_
  rintro e W2 ⟨rfl, b2⟩
  have B2 : Hid (Below w.heap.size w W2) := B1.out.trans (b2.mono B1.out.size)
  clear b2 B1
  have HN : Hid (W = true → gJ = true → k.toList = j.toList) := hno
  clear hno
  cases W <;> cases gJ
  all_goals go_wp2_with fail
  all_goals first
    | (exfalso; have h := HN.out trivial trivial; contradiction)
    | skip
  all_goals
    refine (has_as _ _ true _ w2 w0 hp).mono ?_
    rintro e W3 ⟨rfl, n3, rfl⟩
    go_wp2_with fail
    refine (hex_as _ _ _ (by unfold maxLen; omega) hw).mono ?_
    rintro e W4 ⟨rfl, n4, rfl⟩
    go_wp2_with fail
    refine (wf_as _ _ _ _ (by unfold maxLen; omega) h0).mono ?_
    rintro e W5 ⟨rfl, b5⟩
    have B5 : Hid (Below w.heap.size w W5) := (bel_drewN B2.out _).trans (b5.mono B2.out.size)
    clear b5 B2
    go_wp2_with fail
    have hz : (j ++ R).size ≤ maxLen := by rw [ByteArray.size_append]; unfold maxLen; omega
    refine (wf_as _ _ _ _ hz h1).mono ?_
    rintro e W6 ⟨rfl, b6⟩
    have B6 : Hid (Below w.heap.size w W6) := B5.out.trans (b6.mono B5.out.size)
    clear b6 B5
    go_wp2_with fail
    go_ret
    exact ⟨rfl, B6.out⟩

theorem walk (a0 : ByteArray) (a1 : ByteArray) (a2 : ByteArray) (w0 : a0.size ≤ maxLen) (w1 : a1.size ≤ maxLen) (w2 : a2.size ≤ maxLen) (w : World) :
    Calls Try.prog 3 #[.string a0, .string a1, .string a2] w fun e w' => e = .returned (.bool true) ∧ Below w.heap.size w w' := by
  rcases ways a0.data.toList a1.data.toList a2.data.toList with ⟨hp, hk⟩ | h
  · exact way1 a0 a1 a2 _ w0 w1 w2 w hp hk rfl
  · obtain ⟨W, hp, hk, hl, hno⟩ : ∃ W, Lib.hasPrefix a2.data.toList a0.data.toList = true ∧ wfB a0.data.toList a2.data.toList = W ∧ lowB (a2.data.toList.drop a0.data.toList.length) = W ∧
        (W = true → wfB a1.data.toList a2.data.toList = true → a0.toList = a1.toList) := by
      rcases h with ⟨hp, hk, hl⟩ | ⟨hp, hk, hl, e⟩ | ⟨hp, hk, hl, _, hj⟩
      · exact ⟨false, hp, hk, hl, fun h => by cases h⟩
      · exact ⟨true, hp, hk, hl, fun _ _ => by rw [Lib.toList_data, Lib.toList_data, e]⟩
      · exact ⟨true, hp, hk, hl, fun _ h => by rw [hj] at h; cases h⟩
    have hle : a0.size ≤ a2.size := by
      have h := hp
      rw [Lib.hasPrefix, List.isPrefixOf_iff_prefix] at h
      have := h.length_le
      rwa [len_list, len_list] at this
    have e : (a2.extract a0.size a2.size).data.toList = a2.data.toList.drop a0.data.toList.length := by
      rw [Lib.extract_data, len_list, List.take_of_length_le]
      rw [List.length_drop, len_list]
      exact Nat.le_refl _
    have hw : lowB (a2.extract a0.size a2.size).data.toList = W := by rw [e]; exact hl
    refine way2 a0 a1 a2 (a2.extract a0.size a2.size) W _ w0 w1 w2 w hle hp hk rfl hw rfl ?_ ?_ ?_ hno
    · rw [← len_list, e, List.length_drop, len_list]; omega
    · show wfB _ _ = _
      rw [wfB_nil]
      exact hw
    · show wfB _ _ = _
      rw [ByteArray.data_append, Array.toList_append, wfB_app]
      exact hw

/-! ### THE ROW's STEP: WRITTEN OUT: LEAVE IT -/
set_option maxRecDepth 100000 in
theorem lifted (os : Os) (started : os.Started) (H : Type) (enc : TypeId × Value → H) :
    ReturnsInHanded {} Try.checked os 3 .any (Rows.fnWellFormedIsMarkerThenLowerHexOf32BytesSpec.pre6 enc Try.prog Try.f3 Rows.fnWellFormedIsMarkerThenLowerHexOf32BytesRow.domain false) (Rows.fnWellFormedIsMarkerThenLowerHexOf32BytesSpec.post enc Try.prog Try.f3 false true false false) := by
  refine returnsInHanded_of_change (C := Try.checked) own started (by kernel_rfl) Try.func3
    (ChangeSpec.witness6 (enc := enc) (C := Try.checked) false ⟨#[], #[.string ByteArray.empty, .string ByteArray.empty, .string ByteArray.empty], []⟩ 8 (by kernel_rfl) (by kernel_rfl) (by kernel_rfl) (by kernel_rfl)) ?_
  intro W base args ds gs before hval0 hW hcnd _
  have hval : ∀ (j : Nat) t v, Try.f3.params[j]? = some t → args[j]? = some v → Value.okWide Try.prog W .any base t v := hval0
  have hW' := hW
  obtain ⟨p, q, hA0, hV, rfl, hfz, hnd⟩ := hW
  have hA : DataW.TrodAll enc Try.prog W 0 (fun _ => true) true Try.f3.params.toList args.toList ds p := hA0
  rw [Try.params3] at hA hval
  obtain ⟨v0, vs0, d0, ds0, p0, q0, hargs, rfl, rfl, h0, r0⟩ := trodAll_cons hA
  obtain ⟨v1, vs1, d1, ds1, p1, q1, rfl, rfl, rfl, h1, r1⟩ := trodAll_cons r0
  obtain ⟨v2, vs2, d2, ds2, p2, q2, rfl, rfl, rfl, h2, r2⟩ := trodAll_cons r1
  obtain ⟨rfl, rfl, rfl⟩ := trodAll_nil r2
  obtain rfl : args = #[v0, v1, v2] := by cases args; simp_all
  obtain ⟨rfl, rfl⟩ := trodVars_none hV
  obtain ⟨a0, rfl, rfl, rfl, w0⟩ := open_string Try.underlying9 (hval 0 9 v0 rfl rfl) h0
  obtain ⟨a1, rfl, rfl, rfl, w1⟩ := open_string Try.underlying9 (hval 1 9 v1 rfl rfl) h1
  obtain ⟨a2, rfl, rfl, rfl, w2⟩ := open_string Try.underlying9 (hval 2 9 v2 rfl rfl) h2
  clear hA0 hval0
  simp only [List.append_nil] at hW'
  refine (walk a0 a1 a2 w0 w1 w2 W).mono fun e W' ⟨he, bel⟩ => ?_
  subst he
  exact ⟨_, rfl, _, _, _, [], _, [], hW', trodAll_mk1 (shut_bool Try.underlying4 _), (trodAll_cons_mk (shut_string Try.underlying9 w0) (trodAll_cons_mk (shut_string Try.underlying9 w1) (trodAll_cons_mk (shut_string Try.underlying9 w2) trodAll_mk0))), rfl, bel.frame _, fun h => by cases h⟩

theorem over : Rows.fnWellFormedIsMarkerThenLowerHexOf32BytesRow.holds Try.pinned (OpenSpec.ofChange Rows.fnWellFormedIsMarkerThenLowerHexOf32BytesSpec) :=
  OpenClaim.holds_of_wide 3 Try.f3 rfl rfl rfl rfl rfl rfl rfl ⟨rfl, rfl, rfl, rfl, rfl⟩ rfl rfl rfl rfl rfl (by kernel_rfl) Try.func3 (by kernel_rfl)
    (of_decide_eq_true (by kernel_rfl)) (by unfold Func.isWrapper; first | (rw [if_pos (by decide +kernel)]; kernel_rfl) | (rw [if_neg (by decide +kernel)]; exact ⟨rfl, rfl⟩))
    (fun os started H enc _ => lifted os started H enc)

/-- ████ THE STATEMENT ████ -/
theorem proved : Rows.FnWellFormedIsMarkerThenLowerHexOf32BytesSaid :=
  over
end Go.Proofs.Qxb6618275a.fnWellFormedIsMarkerThenLowerHexOf32Bytes
