/-
  WALKS: zzSplitSlash, zzDec.
-/
import Derived.Test.Qxb6616423aFmtText
import Derived.Deep.OwnRows
import Derived.Lib.ItoaLen
import Derived.OpenShut
namespace Go.Proofs.Qxb6616423aFmt
open Go.RowKit Go.Deep
set_option linter.unusedVariables false

set_option maxHeartbeats 400000 in
theorem split_any (s : ByteArray) (m : Nat) (w : World) (hs : s.size ≤ maxLen) (hm : m < s.size) (h47 : Hid (s[m] = 47)) (hno : Hid (∀ k (h : k < m), s[k]'(by omega) ≠ 47)) :
    Calls Tryf.prog 6 #[.string s] w fun e w' => e = .returned (.tuple #[.string (s.extract 0 m), .string (s.extract (m + 1) s.size), .bool true]) ∧ ∃ N, w' = w.drewN N := by
  unfold maxLen at hs
  go_enter Tryf.func6, Tryf.ntmps6
  go_wp2
  go_loop [5] (fun i => ∃ k : Nat, k ≤ m ∧ i = .int .i64 k) (fun i => m - (intOf i).toNat)
  case atStart => exact ⟨0, Nat.zero_le _, rfl⟩
  case round =>
    obtain ⟨k, hk, rfl⟩ := hrel
    have hks : k < s.size := by omega
    by_cases hlt : k < m
    · have hb : ((s[k].toNat : Int) == 47) = false := by
        rw [beq_eq_false_iff_ne]
        intro e
        apply hno.out k hlt
        apply UInt8.toNat_inj.1
        have : (47 : UInt8).toNat = 47 := rfl
        omega
      go_wp2
      go_round
      case rel => exact ⟨k + 1, by omega, by go_num⟩
      case measure => simp [intOf]; omega
    · obtain rfl : k = m := by omega
      have hb : ((s[k].toNat : Int) == 47) = true := by rw [h47.out]; rfl
      go_wp2
      go_quiet (fail)
      go_wp2
      go_ret3
      exact ⟨rfl, _, rfl⟩

/-! ### zzDec's buffer -/
def decPos (v : Nat) : List UInt8 := if v = 0 then [] else Lib.decDigits v
theorem decPos_zero : decPos 0 = [] := rfl
theorem decPos_pos (v : Nat) (h : 0 < v) : decPos v = Lib.decDigits v := by unfold decPos; rw [if_neg (by omega)]
theorem decPos_step (v g q : Nat) (h : 0 < v) (hg : g = v % 10) (hq : q = v / 10) : decPos v = decPos q ++ [UInt8.ofNat (48 + g)] := by
  subst hg hq
  rw [decPos_pos v h, Lib.decDigits]
  by_cases c : v < 10
  · rw [dif_pos c, show v / 10 = 0 by omega, decPos_zero, show v % 10 = v by omega]
    rfl
  · rw [dif_neg c, decPos_pos (v / 10) (by omega)]
theorem decPos_len (v : Nat) (h : v < 18446744073709551616) : (decPos v).length ≤ 20 := by
  by_cases c : v = 0
  · subst c; rw [decPos_zero]; exact Nat.zero_le _
  · rw [decPos_pos v (by omega), Lib.decDigits_length]
    exact Lib.nDigits_le20 v h
theorem decPos_some (v : Nat) (h : 0 < v) : 1 ≤ (decPos v).length := by
  rw [decPos_pos v h, Lib.decDigits_length]
  exact Lib.nDigits_pos v

/-- Place j of the buffer: E lies from place i on. -/
def bufAt (i : Nat) (E : List UInt8) (j : Nat) : Int := if j < i then 0 else ((E.getD (j - i) 0).toNat : Int)

structure Buf (w wx : World) (U v i : Nat) (E : List UInt8) : Prop where
  below : Below w.heap.size w wx
  row : wx.rowIs w.heap.size 31 24 (fun j => .int .u8 (bufAt i E j))
  len : i + E.length = 24
  txt : decPos v ++ E = decPos U
  big : U < 18446744073709551616

section
variable {w wx : World} {U v i : Nat} {E : List UInt8}
theorem Buf.room (h : Buf w wx U v i E) : 4 + (decPos v).length ≤ i := by
  have h1 := congrArg List.length h.txt
  rw [List.length_append] at h1
  have h2 := decPos_len U h.big
  have h3 := h.len
  omega
theorem Buf.cell (h : Buf w wx U v i E) (p : Nat) (hp : p < 24) : wx.cell? ⟨w.heap.size, p, none⟩ = some (.int .u8 (bufAt i E p)) := h.row.cell hp
theorem Buf.frz (h : Buf w wx U v i E) (p : Nat) : wx.frozen? ⟨w.heap.size, p, none⟩ = false := h.row.frozen p
theorem bufAt_put (i p : Nat) (E : List UInt8) (c : UInt8) (hp : i = p + 1) (j : Nat) : (if j = p then (c.toNat : Int) else bufAt i E j) = bufAt p (c :: E) j := by
  subst hp
  unfold bufAt
  by_cases e : j = p
  · subst e
    rw [if_pos rfl, if_neg (by omega)]
    simp
  · rw [if_neg e]
    by_cases c1 : j < p
    · rw [if_pos (by omega), if_pos c1]
    · rw [if_neg (by omega), if_neg c1]
      obtain ⟨d, rfl⟩ : ∃ d, j = p + 1 + d := ⟨j - (p + 1), by omega⟩
      rw [show p + 1 + d - (p + 1) = d by omega, show p + 1 + d - p = d + 1 by omega]
      simp
/-- One byte more, ahead. -/
theorem row_put {b : Nat} (h : wx.rowIs b 31 24 (fun j => .int .u8 (bufAt i E j))) (p : Nat) (c : UInt8) (hp : i = p + 1) (x : Int) (hx : x = (c.toNat : Int)) :
    (wx.setCell ⟨b, p, none⟩ (.int .u8 x)).rowIs b 31 24 (fun j => .int .u8 (bufAt p (c :: E) j)) :=
  (h.set p _).congr fun j hj => by
    rw [← bufAt_put i p E c hp j]
    by_cases e : j = p
    · rw [if_pos e, if_pos e, hx]
    · rw [if_neg e, if_neg e]
theorem ofNat48 (g : Nat) (h : g < 10) : ((UInt8.ofNat (48 + g)).toNat : Int) = 48 + (g : Int) := by
  rw [UInt8.toNat_ofNat']
  omega
theorem Buf.step (h : Buf w wx U v i E) (hv : 0 < v) (p g q : Nat) (hp : i = p + 1) (hg : g = v % 10) (hq : q = v / 10) :
    Buf w (wx.setCell ⟨w.heap.size, p, none⟩ (.int .u8 (48 + (g : Int)))) U q p (UInt8.ofNat (48 + g) :: E) where
  below := h.below.setCell (Nat.le_refl _) _
  row := row_put h.row p _ hp _ (ofNat48 g (by omega)).symm
  len := by have := h.len; simp; omega
  txt := by
    rw [← h.txt, decPos_step v g q hv hg hq]
    simp
  big := h.big
theorem Buf.done (h : Buf w wx U 0 i E) (hU : 0 < U) : E = Lib.decDigits U := by
  have := h.txt
  rw [decPos_zero, List.nil_append, decPos_pos U hU] at this
  exact this
end

theorem zeros_row (w : World) : (w.alloc (.cells (Array.replicate 24 (.int .u8 0)) 31)).rowIs w.heap.size 31 24 (fun j => .int .u8 (bufAt 24 [] j)) := by
  have h := World.rowIs_alloc w (Array.replicate 24 (.int .u8 0)) 31 (fun j => .int .u8 (bufAt 24 [] j)) (fun i hi => by
    have hi' : i < 24 := by simpa using hi
    rw [Array.getElem?_replicate, if_pos hi']
    unfold bufAt
    rw [if_pos hi'])
  rw [Array.size_replicate] at h
  exact h

theorem Buf.start (w : World) (U : Nat) (h : U < 18446744073709551616) : Buf w (w.alloc (.cells (Array.replicate 24 (.int .u8 0)) 31)) U U 24 [] :=
  ⟨(Below.refl _ _).alloc (Nat.le_refl _) _, zeros_row w, rfl, by simp, h⟩

/-- 'string(buf[i:])'. -/
theorem conv_buf (wx : World) (b i : Nat) (E : List UInt8) (h : wx.rowIs b 31 24 (fun j => .int .u8 (bufAt i E j))) (hl : i + E.length = 24) (cap : Nat) :
    (convert 32 9 (.slice (some ⟨b, i, none⟩) (24 - i) cap)).run Tryf.prog wx = .ok (.string ⟨E.toArray⟩) wx := by
  rw [show 24 - i = E.length by omega]
  refine run_convert_bytes_back wx 32 9 5 ⟨b, i, none⟩ cap E Tryf.underlying32 Tryf.underlying5 Tryf.underlying9 fun j hj => ?_
  rw [show (⟨b, i, none⟩ : Addr).add j = ⟨b, i + j, none⟩ from by unfold Addr.add; split <;> simp_all]
  rw [h.cell (by omega)]
  unfold bufAt
  rw [if_neg (by omega), show i + j - i = j by omega, List.getD_eq_getElem?_getD, List.getElem?_eq_getElem hj]
  rfl

theorem arr31 : Tryf.prog.arrayLen 31 = 24 := by kernel_rfl
theorem slice_buf (wx : World) (b k : Nat) (hk : k < 24) : (Instr.sliceAt 31 (.pointer (some ⟨b, 0, none⟩)) (some (.int .i64 (k : Int))) none none).run Tryf.prog wx = .ok (.slice (some ⟨b, k, none⟩) (24 - k) (24 - k)) wx := by
  have hs : (sizeOf (Tryf.prog.elem 31)).run Tryf.prog wx = .ok 1 wx := by kernel_rfl
  rw [run_sliceAt_array_l wx 31 ⟨b, 0, none⟩ (by kernel_rfl) .i64 (k : Int) (by omega) (by rw [arr31]; omega), hs, arr31]
  show Result.ok (slicedAt ⟨b, 0, none⟩ (k : Int).toNat 24 24 1) wx = _
  unfold slicedAt
  rw [Int.toNat_natCast, if_neg (by omega)]
  have e : (⟨b, 0, none⟩ : Addr).add (k * 1) = ⟨b, k, none⟩ := by unfold Addr.add; split <;> simp_all
  rw [e]

theorem ret_str {a b : List UInt8} (h : a = b) : Ending.returned (.string ⟨a.toArray⟩) = .returned (.string ⟨b.toArray⟩) := by rw [h]

set_option maxHeartbeats 1000000 in
set_option maxRecDepth 100000 in
theorem dec_pos (U : Nat) (w : World) (hU : 0 < U) (hb : U ≤ 9223372036854775807) :
    Calls Tryf.prog 7 #[.int .i64 (U : Int)] w fun e w' => e = .returned (.string ⟨(Lib.decDigits U).toArray⟩) ∧ Below w.heap.size w w' := by
  have z0 : ((U : Int) == 0) = false := by rw [beq_eq_false_iff_ne]; omega
  have z1 : decide ((U : Int) < 0) = false := by rw [decide_eq_false_iff_not]; omega
  have HS : Hid (Buf w (w.alloc (.cells (Array.replicate 24 (.int .u8 0)) 31)) U U 24 []) := Buf.start w U (by omega)
  go_enter Tryf.func7, Tryf.ntmps7
  go_wp2
  clear z0 z1
  go_loopw [3, 6] (fun u i wx => ∃ (v k : Nat) (E : List UInt8), v ≤ U ∧ u = .int .u64 v ∧ i = .int .i64 k ∧ Hid (Buf w wx U v k E)) (fun u _ _ => (intOf u).toNat)
  case atStart => exact ⟨U, 24, [], Nat.le_refl _, rfl, rfl, HS.out⟩
  case round =>
    obtain ⟨v, k, E, hvU, rfl, rfl, hB⟩ := hrel
    clear HS
    have hk := hB.out.len
    have hk2 : k ≤ 24 := by omega
    have hk4 : 4 ≤ k := by have := hB.out.room; omega
    clear hk
    by_cases hv : 0 < v
    · obtain ⟨p, hp⟩ : ∃ p, k = p + 1 := ⟨k - 1, by have := hB.out.room; have := decPos_some v hv; omega⟩
      obtain ⟨g, hg⟩ : ∃ g, g = v % 10 := ⟨_, rfl⟩
      obtain ⟨q, hq⟩ : ∃ q, q = v / 10 := ⟨_, rfl⟩
      have HB2 := hB.out.step hv p g q hp hg hq
      have HB3 : Hid (Buf w (wr.setCell ⟨w.heap.size, p, none⟩ (.int .u8 (48 + (g : Int)))) U q p (UInt8.ofNat (48 + g) :: E)) := HB2
      have r1 : (k : Int) - 1 = (p : Int) := by omega
      have r2 : (v : Int) % 10 = (g : Int) := by omega
      have r3 : (v : Int) / 10 = (q : Int) := by omega
      have bp : p < 24 := by omega
      have bg : g < 10 := by omega
      have bq : q < v := by omega
      have cp := hB.out.cell p bp
      have fp := hB.out.frz p
      clear hp hg hq HB2
      go_wp2
      go_roundw
      case rel => exact ⟨q, p, _, by omega, rfl, rfl, HB3⟩
      case measure => simp [intOf]; omega
    · obtain rfl : v = 0 := by omega
      have hE := hB.out.done hU
      have hk5 := decPos_some U hU
      rw [decPos_pos U hU, ← hE] at hk5
      have hk6 : k < 24 := by have := hB.out.len; omega
      have hconv := conv_buf wr w.heap.size k E hB.out.row hB.out.len (24 - k)
      have HE : Hid (E = Lib.decDigits U) := hE
      have hsl := slice_buf wr w.heap.size k hk6
      clear hE hk5
      go_wp2
      go_ret
      exact ⟨ret_str HE.out, hB.out.below⟩
set_option maxHeartbeats 1000000 in
set_option maxRecDepth 100000 in
theorem dec_neg (x : Int) (U V : Nat) (w : World) (hU : 0 < U) (hb : U ≤ 9223372036854775808) (hx : x < 0) (m1 : IntKind.u64.wrap x = (V : Int)) (m2 : IntKind.u64.wrap (-(V : Int)) = (U : Int)) :
    Calls Tryf.prog 7 #[.int .i64 x] w fun e w' => e = .returned (.string ⟨(45 :: Lib.decDigits U).toArray⟩) ∧ Below w.heap.size w w' := by
  have z0 : (x == 0) = false := by rw [beq_eq_false_iff_ne]; omega
  have z1 : decide (x < 0) = true := by rw [decide_eq_true_iff]; exact hx
  have HS : Hid (Buf w (w.alloc (.cells (Array.replicate 24 (.int .u8 0)) 31)) U U 24 []) := Buf.start w U (by omega)
  go_enter Tryf.func7, Tryf.ntmps7
  go_wp2
  clear z0 z1 m1 m2 hx
  go_loopw [3, 6] (fun u i wx => ∃ (v k : Nat) (E : List UInt8), v ≤ U ∧ u = .int .u64 v ∧ i = .int .i64 k ∧ Hid (Buf w wx U v k E)) (fun u _ _ => (intOf u).toNat)
  case atStart => exact ⟨U, 24, [], Nat.le_refl _, rfl, rfl, HS.out⟩
  case round =>
    obtain ⟨v, k, E, hvU, rfl, rfl, hB⟩ := hrel
    clear HS
    have hk := hB.out.len
    have hk2 : k ≤ 24 := by omega
    have hk4 : 4 ≤ k := by have := hB.out.room; omega
    clear hk
    by_cases hv : 0 < v
    · obtain ⟨p, hp⟩ : ∃ p, k = p + 1 := ⟨k - 1, by have := hB.out.room; have := decPos_some v hv; omega⟩
      obtain ⟨g, hg⟩ : ∃ g, g = v % 10 := ⟨_, rfl⟩
      obtain ⟨q, hq⟩ : ∃ q, q = v / 10 := ⟨_, rfl⟩
      have HB2 := hB.out.step hv p g q hp hg hq
      have HB3 : Hid (Buf w (wr.setCell ⟨w.heap.size, p, none⟩ (.int .u8 (48 + (g : Int)))) U q p (UInt8.ofNat (48 + g) :: E)) := HB2
      have r1 : (k : Int) - 1 = (p : Int) := by omega
      have r2 : (v : Int) % 10 = (g : Int) := by omega
      have r3 : (v : Int) / 10 = (q : Int) := by omega
      have bp : p < 24 := by omega
      have bg : g < 10 := by omega
      have bq : q < v := by omega
      have cp := hB.out.cell p bp
      have fp := hB.out.frz p
      clear hp hg hq HB2
      go_wp2
      go_roundw
      case rel => exact ⟨q, p, _, by omega, rfl, rfl, HB3⟩
      case measure => simp [intOf]; omega
    · obtain rfl : v = 0 := by omega
      have hE := hB.out.done hU
      have hk5 := decPos_some U hU
      rw [decPos_pos U hU, ← hE] at hk5
      obtain ⟨p, hp⟩ : ∃ p, k = p + 1 := ⟨k - 1, by omega⟩
      have r1 : (k : Int) - 1 = (p : Int) := by omega
      have bp : p < 24 := by omega
      have cp := hB.out.cell p bp
      have fp := hB.out.frz p
      have hrow := row_put hB.out.row p 45 hp 45 rfl
      have hlen : p + (45 :: E).length = 24 := by have := hB.out.len; simp; omega
      have hconv := conv_buf _ w.heap.size p (45 :: E) hrow hlen (24 - p)
      have hsl := fun wx => slice_buf wx w.heap.size p bp
      have HE : Hid (45 :: E = 45 :: Lib.decDigits U) := by show _ = _; rw [hE]
      have HB : Hid (Below w.heap.size w (wr.setCell ⟨w.heap.size, p, none⟩ (.int .u8 45))) := hB.out.below.setCell (Nat.le_refl _) _
      clear hE hk5 hp hrow hlen
      go_wp2
      go_ret
      exact ⟨ret_str HE.out, HB.out⟩

set_option maxHeartbeats 400000 in
theorem dec_zero (w : World) : Calls Tryf.prog 7 #[.int .i64 0] w fun e w' => e = .returned (.string ⟨#[48]⟩) ∧ w' = w := by
  go_enter Tryf.func7, Tryf.ntmps7
  go_wp2
  go_ret
  exact ⟨rfl, rfl⟩

theorem wrap_neg (x : Int) (hx : x < 0) (hb : -9223372036854775808 ≤ x) : ∃ U V : Nat, 0 < U ∧ U ≤ 9223372036854775808 ∧ x = -(U : Int) ∧ IntKind.u64.wrap x = (V : Int) ∧ IntKind.u64.wrap (-(V : Int)) = (U : Int) := by
  obtain ⟨U, hU⟩ : ∃ U : Nat, (U : Int) = -x := ⟨(-x).toNat, by omega⟩
  obtain ⟨V, hV⟩ : ∃ V : Nat, (V : Int) = 18446744073709551616 + x := ⟨(18446744073709551616 + x).toNat, by omega⟩
  refine ⟨U, V, by omega, by omega, by omega, ?_, ?_⟩
  · rw [IntKind.wrap_u64]; omega
  · rw [IntKind.wrap_u64]; omega

theorem dec_any (x : Int) (w : World) (hx : (Lit.int .i64 x).wf = true) :
    Calls Tryf.prog 7 #[.int .i64 x] w fun e w' => e = .returned (.string ⟨(Lib.itoa x).toArray⟩) ∧ Below w.heap.size w w' := by
  have bd := bounds_i64 hx
  by_cases h0 : x = 0
  · subst h0
    refine (dec_zero w).mono ?_
    rintro e w' ⟨rfl, rfl⟩
    refine ⟨?_, Below.refl _ _⟩
    have : Lib.itoa 0 = [48] := by
      unfold Lib.itoa
      rw [if_neg (by omega), show (0 : Int).toNat = 0 from rfl, Lib.decDigits_one (by omega)]
      rfl
    rw [this]
  · by_cases h1 : x < 0
    · obtain ⟨U, V, u0, u1, hxU, m1, m2⟩ := wrap_neg x h1 bd.1
      refine (dec_neg x U V w u0 u1 h1 m1 m2).mono ?_
      rintro e w' ⟨rfl, hb⟩
      refine ⟨ret_str ?_, hb⟩
      unfold Lib.itoa
      rw [if_pos h1, show x.natAbs = U by omega]
    · obtain ⟨U, rfl⟩ := Int.eq_ofNat_of_zero_le (by omega : 0 ≤ x)
      refine (dec_pos U w (by omega) (by omega)).mono ?_
      rintro e w' ⟨rfl, hb⟩
      refine ⟨ret_str ?_, hb⟩
      unfold Lib.itoa
      rw [if_neg h1, show (U : Int).toNat = U by omega]
end Go.Proofs.Qxb6616423aFmt
