/-
  WALKS: the two laws, for fmt's told text.
-/
import Derived.Test.Qxb6616423aFmtWalksA
import Derived.Test.Qxb6616423aFmtPlain
import Derived.Lib.Strings
namespace Go.Proofs.Qxb6616423aFmt
open Go.RowKit Go.Deep Go.Extern.Stop Go.Stop Go.Extern
set_option linter.unusedVariables false

def bts (l : List UInt8) : ByteArray := ⟨l.toArray⟩

theorem string_told (F : Interp) (a s : Int) (R : ByteArray) (w : World) (hF : F.told.answers w.tape) (ha : (Lit.int .i64 a).wf = true) (hs : (Lit.int .i64 s).wf = true) (hR : Hid (R = bts (rate a s))) :
    Calls Tryf.prog 5 #[.agg #[.int .i64 a, .int .i64 s]] w fun e w' => e = .returned (.string R) ∧ Below w.heap.size w w' := by
  have h := string_any F.told a s w hF
  rw [told F a s ha hs] at h
  rw [hR.out]
  exact h

theorem dec_as (x : Int) (R : ByteArray) (w : World) (hx : (Lit.int .i64 x).wf = true) (hR : Hid (R = bts (Lib.itoa x))) :
    Calls Tryf.prog 7 #[.int .i64 x] w fun e w' => e = .returned (.string R) ∧ Below w.heap.size w w' := by
  rw [hR.out]
  exact dec_any x w hx

theorem bts_size (l : List UInt8) : (bts l).size = l.length := by simp [bts, ByteArray.size]
theorem bts_get (l : List UInt8) (k : Nat) (h : k < (bts l).size) : (bts l)[k] = l[k]'(by rw [bts_size] at h; exact h) := rfl
theorem bts_toList (l : List UInt8) : (bts l).toList = l := by rw [Lib.toList_data]; rfl
theorem bts_append (l k : List UInt8) : bts l ++ bts k = bts (l ++ k) := by
  apply ByteArray.ext
  rw [ByteArray.data_append]
  simp [bts]

theorem split_as (a s : Int) (R P Q : ByteArray) (w : World) (ha : (Lit.int .i64 a).wf = true) (hs : (Lit.int .i64 s).wf = true) (hR : Hid (R = bts (rate a s))) (hP : Hid (P = bts (Lib.itoa a))) (hQ : Hid (Q = bts (Lib.itoa s))) :
    Calls Tryf.prog 6 #[.string R] w fun e w' => e = .returned (.tuple #[.string P, .string Q, .bool true]) ∧ ∃ N, w' = w.drewN N := by
  have l1 := FmtText.itoa_length_le ha
  have l2 := FmtText.itoa_length_le hs
  have hlen : (rate a s).length = (Lib.itoa a).length + 1 + (Lib.itoa s).length := by simp [rate]; omega
  have hm : (Lib.itoa a).length < (bts (rate a s)).size := by rw [bts_size, hlen]; omega
  have h := split_any (bts (rate a s)) (Lib.itoa a).length w (by rw [bts_size, hlen]; unfold maxLen; omega) hm
    (by show _ = _; rw [bts_get]; simp [rate])
    (fun k hk => by
      rw [bts_get]
      have : (rate a s)[k]'(by rw [hlen]; omega) = (Lib.itoa a)[k] := by unfold rate; rw [List.getElem_append_left hk]
      rw [this]
      exact no_slash a _ (List.getElem_mem _))
  have e1 : (bts (rate a s)).extract 0 (Lib.itoa a).length = bts (Lib.itoa a) := by
    rw [Lib.extract_eq]
    simp [bts, rate]
  have e2 : (bts (rate a s)).extract ((Lib.itoa a).length + 1) (bts (rate a s)).size = bts (Lib.itoa s) := by
    rw [Lib.extract_eq, bts_size, hlen]
    show bts ((List.drop ((Lib.itoa a).length + 1) (rate a s)).take _) = _
    have : List.drop ((Lib.itoa a).length + 1) (rate a s) = Lib.itoa s := by
      unfold rate
      rw [← List.drop_drop]
      simp
    rw [this, List.take_of_length_le (by omega)]
  rw [e1, e2] at h
  rw [hR.out, hP.out, hQ.out]
  exact h

/-- Behind the first call: the second struct is still there. -/
theorem two_left (w w1 : World) (o : Obj) (x y : Value) (h : Below ((w.alloc o).alloc (.cells #[x, y] 23)).heap.size ((w.alloc o).alloc (.cells #[x, y] 23)) w1) :
    w1.cell? ⟨w.heap.size + 1, 0, none⟩ = some x ∧ w1.cell? ⟨w.heap.size + 1, 1, none⟩ = some y ∧ Hid (Below w.heap.size w w1) := by
  refine ⟨?_, ?_, ?_⟩
  · rw [h.cell (p := ⟨w.heap.size + 1, 0, none⟩) (by simp)]
    simp
  · rw [h.cell (p := ⟨w.heap.size + 1, 1, none⟩) (by simp)]
    simp
  · exact (((Below.refl _ _).alloc (Nat.le_refl _) _).alloc (by simp) _).trans (h.mono (by simp; omega))

theorem bel_drewN {B : Nat} {a w : World} (h : Below B a w) (n : Nat) : Below B a (w.drewN n) := h.trans ⟨rfl, rfl, rfl, Nat.le_refl _, fun _ _ => rfl⟩

set_option maxHeartbeats 1000000 in
set_option maxRecDepth 100000 in
theorem law4_core (F : Interp) (a b c d : Int) (R1 R2 Q P : ByteArray) (w : World) (hF : F.told.answers w.tape) (ha : (Lit.int .i64 a).wf = true) (hb : (Lit.int .i64 b).wf = true) (hc : (Lit.int .i64 c).wf = true) (hd : (Lit.int .i64 d).wf = true)
    (h1 : Hid (R1 = bts (rate a b))) (h2 : Hid (R2 = bts (rate c d))) (hP : Hid (P = bts (Lib.itoa a))) (hQ : Hid (Q = bts (Lib.itoa b))) (r1 r2 : Bool) (e1 : (a == c) = r1) (e2 : (b == d) = r2) (e3 : (R1.toList == R2.toList) = (r1 && r2)) :
    Calls Tryf.prog 4 #[.int .i64 a, .int .i64 b, .int .i64 c, .int .i64 d] w fun e w' => e = .returned (.bool true) ∧ Below w.heap.size w w' := by
  cases r1 <;> cases r2
  all_goals
    go_enter Tryf.func4, Tryf.ntmps4
    go_wp2_with fail
  all_goals
    refine (string_told F a b R1 _ (by exact hF) ha hb h1).mono ?_
    rintro e w1 ⟨rfl, hbel⟩
    obtain ⟨k0, k1, B1⟩ := two_left _ _ _ _ _ hbel
    have hF1 : F.told.answers w1.tape := by rw [B1.out.tape]; exact hF
    clear hbel
    go_wp2_with fail
    refine (string_told F c d R2 _ hF1 hc hd h2).mono ?_
    rintro e w2 ⟨rfl, hbel⟩
    have B2 : Hid (Below w.heap.size w w2) := B1.out.trans (hbel.mono B1.out.size)
    clear hbel k0 k1 B1 hF1
    go_wp2_with fail
    refine (split_as a b R1 P Q _ ha hb h1 hP hQ).mono ?_
    rintro e w3 ⟨rfl, N, rfl⟩
    go_wp2_with fail
    refine (dec_as b Q _ hb hQ).mono ?_
    rintro e w4 ⟨rfl, hbel⟩
    have B4 : Hid (Below w.heap.size w w4) := (bel_drewN B2.out N).trans (hbel.mono B2.out.size)
    clear hbel B2
    go_wp2_with fail
  all_goals
    go_ret
    exact ⟨rfl, B4.out⟩

theorem law4 (F : Interp) (a b c d : Int) (w : World) (hF : F.told.answers w.tape) (ha : (Lit.int .i64 a).wf = true) (hb : (Lit.int .i64 b).wf = true) (hc : (Lit.int .i64 c).wf = true) (hd : (Lit.int .i64 d).wf = true) :
    Calls Tryf.prog 4 #[.int .i64 a, .int .i64 b, .int .i64 c, .int .i64 d] w fun e w' => e = .returned (.bool true) ∧ Below w.heap.size w w' := by
  refine law4_core F a b c d _ _ _ _ w hF ha hb hc hd rfl rfl rfl rfl _ _ rfl rfl ?_
  rw [bts_toList, bts_toList, Bool.eq_iff_iff]
  simp only [beq_iff_eq, Bool.and_eq_true]
  exact rate_inj a b c d

/-- Behind the first of three calls: the second and the third struct are still there. -/
theorem three_left (w w1 : World) (o : Obj) (x y u v : Value) (h : Below (((w.alloc o).alloc (.cells #[x, y] 23)).alloc (.cells #[u, v] 23)).heap.size (((w.alloc o).alloc (.cells #[x, y] 23)).alloc (.cells #[u, v] 23)) w1) :
    w1.cell? ⟨w.heap.size + 1, 0, none⟩ = some x ∧ w1.cell? ⟨w.heap.size + 1, 1, none⟩ = some y ∧ w1.cell? ⟨w.heap.size + 1 + 1, 0, none⟩ = some u ∧ w1.cell? ⟨w.heap.size + 1 + 1, 1, none⟩ = some v ∧ Hid (Below w.heap.size w w1 ∧ w.heap.size + 3 ≤ w1.heap.size) := by
  have hs := h.size
  simp only [World.size_alloc] at hs
  refine ⟨?_, ?_, ?_, ?_, ?_, by omega⟩
  · rw [h.cell (p := ⟨w.heap.size + 1, 0, none⟩) (by simp)]
    simp [go_sem]
  · rw [h.cell (p := ⟨w.heap.size + 1, 1, none⟩) (by simp)]
    simp [go_sem]
  · rw [h.cell (p := ⟨w.heap.size + 1 + 1, 0, none⟩) (by simp)]
    simp [go_sem]
  · rw [h.cell (p := ⟨w.heap.size + 1 + 1, 1, none⟩) (by simp)]
    simp [go_sem]
  · exact ((((Below.refl _ _).alloc (Nat.le_refl _) _).alloc (by simp) _).alloc (by simp; omega) _).trans (h.mono (by simp; omega))

set_option maxHeartbeats 1000000 in
set_option maxRecDepth 100000 in
theorem law3_core (F : Interp) (a b c d : Int) (R0 RL RR P Q X Y : ByteArray) (w : World) (hF : F.told.answers w.tape) (ha : (Lit.int .i64 a).wf = true) (hb : (Lit.int .i64 b).wf = true) (hc : (Lit.int .i64 c).wf = true) (hd : (Lit.int .i64 d).wf = true)
    (h0 : Hid (R0 = bts (rate a b))) (hL : Hid (RL = bts (rate a d))) (hR : Hid (RR = bts (rate c b))) (hP : Hid (P = bts (Lib.itoa a))) (hQ : Hid (Q = bts (Lib.itoa b))) (hX : Hid (X = bts (Lib.itoa d))) (hY : Hid (Y = bts (Lib.itoa c)))
    (e1 : (R0.toList == (P ++ ⟨#[47]⟩ ++ Q).toList) = true) (sp : P.size ≤ 21) (sq : Q.size ≤ 21) :
    Calls Tryf.prog 3 #[.int .i64 a, .int .i64 b, .int .i64 c, .int .i64 d] w fun e w' => e = .returned (.bool true) ∧ Below w.heap.size w w' := by
  go_enter Tryf.func3, Tryf.ntmps3
  go_wp2_with fail
  refine (string_told F a b R0 _ (by exact hF) ha hb h0).mono ?_
  rintro e w1 ⟨rfl, hbel⟩
  obtain ⟨k0, k1, k2, k3, B1⟩ := three_left _ _ _ _ _ _ _ hbel
  have hF1 : F.told.answers w1.tape := by rw [B1.out.1.tape]; exact hF
  clear hbel
  go_wp2_with fail
  refine (string_told F a d RL _ hF1 ha hd hL).mono ?_
  rintro e w2 ⟨rfl, hbel⟩
  have B2 : Hid (Below w.heap.size w w2) := B1.out.1.trans (hbel.mono B1.out.1.size)
  have j0 : w2.cell? ⟨w.heap.size + 1 + 1, 0, none⟩ = some (.int .i64 c) := by rw [hbel.cell (p := ⟨w.heap.size + 1 + 1, 0, none⟩) (by have := B1.out.2; show w.heap.size + 1 + 1 < w1.heap.size; omega)]; exact k2
  have j1 : w2.cell? ⟨w.heap.size + 1 + 1, 1, none⟩ = some (.int .i64 b) := by rw [hbel.cell (p := ⟨w.heap.size + 1 + 1, 1, none⟩) (by have := B1.out.2; show w.heap.size + 1 + 1 < w1.heap.size; omega)]; exact k3
  have hF2 : F.told.answers w2.tape := by rw [B2.out.tape]; exact hF
  clear hbel k0 k1 k2 k3 B1 hF1
  go_wp2_with fail
  refine (split_as a d RL P X _ ha hd hL hP hX).mono ?_
  rintro e w3 ⟨rfl, N, rfl⟩
  go_wp2_with fail
  refine (string_told F c b RR _ (by exact hF2) hc hb hR).mono ?_
  rintro e w4 ⟨rfl, hbel⟩
  have B4 : Hid (Below w.heap.size w w4) := (bel_drewN B2.out N).trans (hbel.mono B2.out.size)
  clear hbel B2 j0 j1 hF2
  go_wp2_with fail
  refine (split_as c b RR Y Q _ hc hb hR hY hQ).mono ?_
  rintro e w5 ⟨rfl, N5, rfl⟩
  go_wp2_with fail
  refine (dec_as a P _ ha hP).mono ?_
  rintro e w6 ⟨rfl, hbel⟩
  have B6 : Hid (Below w.heap.size w w6) := (bel_drewN B4.out N5).trans (hbel.mono B4.out.size)
  clear hbel B4
  go_wp2_with fail
  go_ret
  exact ⟨rfl, B6.out⟩

theorem law3 (F : Interp) (a b c d : Int) (w : World) (hF : F.told.answers w.tape) (ha : (Lit.int .i64 a).wf = true) (hb : (Lit.int .i64 b).wf = true) (hc : (Lit.int .i64 c).wf = true) (hd : (Lit.int .i64 d).wf = true) :
    Calls Tryf.prog 3 #[.int .i64 a, .int .i64 b, .int .i64 c, .int .i64 d] w fun e w' => e = .returned (.bool true) ∧ Below w.heap.size w w' := by
  refine law3_core F a b c d _ _ _ _ _ _ _ w hF ha hb hc hd rfl rfl rfl rfl rfl rfl rfl ?_ (by rw [bts_size]; exact FmtText.itoa_length_le ha) (by rw [bts_size]; exact FmtText.itoa_length_le hb)
  show ((bts (rate a b)).toList == (bts (Lib.itoa a) ++ bts [47] ++ bts (Lib.itoa b)).toList) = true
  rw [bts_append, bts_append, bts_toList, bts_toList, beq_iff_eq]
  simp [rate]
end Go.Proofs.Qxb6616423aFmt
