/-
  WALKS FOR 'FnWellFormedIsMarkerThenLowerHexOf32Bytes': (Kind).WellFormed.
-/
import Derived.Test.Qxb6618275aWalksB
import Derived.Lib.ConvBytes
namespace Go.Proofs.Qxb6618275a
open Go.RowKit
set_option linter.unusedVariables false

theorem cut_as (s p D : ByteArray) (b : Bool) (w : World) (hD : Hid (⟨(Lib.trimPrefix s.data.toList p.data.toList).toArray⟩ = D)) (hb : Hid (Lib.hasPrefix s.data.toList p.data.toList = b)) :
    Calls Try.prog 8 #[.string s, .string p] w fun e w' => e = .returned (.tuple #[.string D, .bool b]) ∧ w' = w := by
  have h := cut_any s p w
  rw [hD.out, hb.out] at h
  exact h

/-- What '[]byte(D)' lays, as the walk is told it. -/
theorem conv_as (D : ByteArray) (w : World) : ∃ cap wb, (convert 9 28 (.string D)).run Try.prog w = .ok (.slice (some ⟨w.heap.size, 0, none⟩) D.size cap) wb ∧ Below w.heap.size w wb ∧
    ∀ j (h : j < D.size), wb.cell? ⟨w.heap.size, j, none⟩ = some (.int .u8 (D[j].toNat : Int)) := by
  refine ⟨_, _, Lib.run_convert_string_bytes w 9 28 5 D Try.underlying9 Try.underlying28 Try.underlying5, ?_, ?_⟩
  · exact ⟨rfl, rfl, rfl, by rw [Lib.bytesWorld_size]; omega, fun k hk => Lib.bytesWorld_at_old w 5 D k hk⟩
  · intro j h
    rw [Lib.bytesWorld_cell w 5 D j h]
    rw [List.getD_eq_getElem?_getD, List.getElem?_eq_getElem (by rw [len_list]; exact h), get_list D j h]
    rfl

theorem byte_cases (c : UInt8) : ((48 : Int) ≤ (c.toNat : Int) ∧ (c.toNat : Int) ≤ 57 ∧ Hid (hexB c = true)) ∨ ((97 : Int) ≤ (c.toNat : Int) ∧ (c.toNat : Int) ≤ 102 ∧ Hid (hexB c = true)) ∨
    ((c.toNat : Int) < 48 ∧ Hid (hexB c = false)) ∨ ((57 : Int) < (c.toNat : Int) ∧ (c.toNat : Int) < 97 ∧ Hid (hexB c = false)) ∨ ((102 : Int) < (c.toNat : Int) ∧ Hid (hexB c = false)) := by
  have h := hexB_iff c
  have hf : hexB c = false ↔ ¬ ((48 ≤ c.toNat ∧ c.toNat ≤ 57) ∨ (97 ≤ c.toNat ∧ c.toNat ≤ 102)) := by rw [← h]; simp
  by_cases a : 48 ≤ c.toNat ∧ c.toNat ≤ 57
  · exact .inl ⟨by omega, by omega, h.2 (.inl a)⟩
  · by_cases b : 97 ≤ c.toNat ∧ c.toNat ≤ 102
    · exact .inr (.inl ⟨by omega, by omega, h.2 (.inr b)⟩)
    · have hx : Hid (hexB c = false) := hf.2 (by omega)
      by_cases d : c.toNat < 48
      · exact .inr (.inr (.inl ⟨by omega, hx⟩))
      · by_cases e : c.toNat < 97
        · exact .inr (.inr (.inr (.inl ⟨by omega, by omega, hx⟩)))
        · exact .inr (.inr (.inr (.inr ⟨by omega, hx⟩)))

theorem low_miss (D : ByteArray) (m : Nat) (hl : D.size = 64) (h : m < D.size) (hx : hexB D[m] = false) : lowB D.data.toList = false := by
  rw [lowB_all _ (by rw [len_list]; exact hl)]
  exact all_false_of_get _ m (by rw [len_list]; exact h) hx

theorem low_end (D : ByteArray) (m : Nat) (hl : D.size = 64) (h : ¬ m < D.size) (hall : (D.data.toList.take m).all hexB = true) : lowB D.data.toList = true := by
  have hs : D.data.toList.length = 64 := by rw [len_list]; exact hl
  rw [lowB_all _ hs]
  rw [List.take_of_length_le (by omega)] at hall
  exact hall

set_option maxHeartbeats 1000000 in
set_option maxRecDepth 100000 in
theorem wf_core (k t D : ByteArray) (b r : Bool) (w : World) (hD : Hid (⟨(Lib.trimPrefix t.data.toList k.data.toList).toArray⟩ = D)) (hb : Hid (Lib.hasPrefix t.data.toList k.data.toList = b)) (hr : Hid ((b && lowB D.data.toList) = r)) (hs : D.size ≤ maxLen) :
    Calls Try.prog 5 #[.string k, .string t] w fun e w' => e = .returned (.bool r) ∧ Below w.heap.size w w' := by
  unfold maxLen at hs
  cases b
  · have hr' : r = false := by have := hr.out; simpa using this.symm
    subst hr'
    go_enter Try.func5, Try.ntmps5
    go_wp2_with (go_at_call 8; refine (cut_as _ _ D false _ hD hb).mono ?_; rintro e w' ⟨rfl, rfl⟩)
    go_ret
    exact ⟨rfl, Below.refl _ _⟩
  · have hr2 : lowB D.data.toList = r := by have := hr.out; simpa using this
    by_cases hl : D.size = 64
    · have h1 : ((D.size : Int) != 64) = false := by rw [hl]; rfl
      obtain ⟨cap, wb, hconv, hbel, hcell⟩ := conv_as D w
      have HL : Hid (D.size = 64) := hl
      have HR : Hid (lowB D.data.toList = r) := hr2
      have HB : Hid (Below w.heap.size w wb) := hbel
      have HC : Hid (∀ j (h : j < D.size), wb.cell? ⟨w.heap.size, j, none⟩ = some (.int .u8 (D[j].toNat : Int))) := hcell
      clear hl hr2 hr hbel hcell
      go_enter Try.func5, Try.ntmps5
      go_wp2_with (go_at_call 8; refine (cut_as _ _ D true _ hD hb).mono ?_; rintro e w' ⟨rfl, rfl⟩)
      go_loop [25] (fun i => ∃ m : Nat, m ≤ D.size ∧ i = .int .i64 m ∧ Hid ((D.data.toList.take m).all hexB = true)) (fun i => D.size - (intOf i).toNat)
      case atStart => exact ⟨0, Nat.zero_le _, rfl, rfl⟩
      case round =>
        obtain ⟨m, hm, rfl, hall⟩ := hrel
        by_cases hlt : m < D.size
        · have hc := HC.out m hlt
          have hcs := byte_cases D[m]
          rcases hcs with ⟨c1, c2, HX⟩ | ⟨c1, c2, HX⟩ | ⟨c1, HX⟩ | ⟨c1, c2, HX⟩ | ⟨c1, HX⟩
          · go_wp2
            go_round
            case rel => exact ⟨m + 1, by omega, by go_num, all_take_one D.data.toList m (by rw [len_list]; exact hlt) hall.out HX.out⟩
            case measure => simp [intOf]; omega
          · go_wp2
            go_round
            case rel => exact ⟨m + 1, by omega, by go_num, all_take_one D.data.toList m (by rw [len_list]; exact hlt) hall.out HX.out⟩
            case measure => simp [intOf]; omega
          · have HF : Hid (lowB D.data.toList = false) := low_miss D m HL.out hlt HX.out
            go_wp2
            go_ret
            exact ⟨ret_bool (by rw [← HR.out]; exact HF.out.symm), HB.out⟩
          · have HF : Hid (lowB D.data.toList = false) := low_miss D m HL.out hlt HX.out
            have d1 : decide ((D[m].toNat : Int) ≤ 57) = false := by rw [decide_eq_false_iff_not]; omega
            go_wp2
            go_ret
            exact ⟨ret_bool (by rw [← HR.out]; exact HF.out.symm), HB.out⟩
          · have HF : Hid (lowB D.data.toList = false) := low_miss D m HL.out hlt HX.out
            have d1 : decide ((D[m].toNat : Int) ≤ 57) = false := by rw [decide_eq_false_iff_not]; omega
            have d2 : decide ((D[m].toNat : Int) ≤ 102) = false := by rw [decide_eq_false_iff_not]; omega
            go_wp2
            go_ret
            exact ⟨ret_bool (by rw [← HR.out]; exact HF.out.symm), HB.out⟩
        · have HT : Hid (lowB D.data.toList = true) := low_end D m HL.out hlt hall.out
          go_wp2
          go_ret
          exact ⟨ret_bool (by rw [← HR.out]; exact HT.out.symm), HB.out⟩
    · have h1 : ((D.size : Int) != 64) = true := by rw [bne_iff_ne]; omega
      have hr3 : r = false := by rw [← hr2]; exact hex_len D hl
      subst hr3
      clear hr2 hl hr
      go_enter Try.func5, Try.ntmps5
      go_wp2_with (go_at_call 8; refine (cut_as _ _ D true _ hD hb).mono ?_; rintro e w' ⟨rfl, rfl⟩)
      go_ret
      exact ⟨rfl, Below.refl _ _⟩
theorem wf_any (k t : ByteArray) (w : World) (ht : t.size ≤ maxLen) :
    Calls Try.prog 5 #[.string k, .string t] w fun e w' => e = .returned (.bool (wfB k.data.toList t.data.toList)) ∧ Below w.heap.size w w' := by
  refine wf_core k t _ _ _ w rfl rfl ?_ ?_
  · show _ = wfB _ _
    unfold wfB
    cases h : Lib.hasPrefix t.data.toList k.data.toList
    · rfl
    · simp [Lib.trimPrefix, h]
  · refine Nat.le_trans ?_ ht
    rw [← len_list, ← len_list]
    exact Lib.trimPrefix_le _ _
end Go.Proofs.Qxb6618275a
