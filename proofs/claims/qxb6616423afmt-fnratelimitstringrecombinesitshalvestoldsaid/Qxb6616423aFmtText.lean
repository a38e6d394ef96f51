/-
  THE CLOSED FACTS ON fmt.Sprintf("%d/%d", ..) IN THIS DUMP, its told text, and the contract of (RateLimit).String.
-/
import Derived.Test.Qxb6616423aFmtCards
import Derived.Stop.CallBack
import Derived.Stop.IfaceNil
import Derived.Stop.Texts
import Derived.Stop.FmtTextKit
import Derived.Stop.JoinedTold
import Derived.WalkKit
import Derived.WalkSpells
import Derived.ProofKit
import Derived.BigQuiet
import Derived.Deep.QuietTactic
namespace Go.Proofs.Qxb6616423aFmt
open Go.RowKit Go.Extern.Stop Go.Stop Go.Extern Go.Kit
set_option linter.unusedVariables false

theorem call8 (args : Array Value) (w : World) : (callFunc 8 args).run Tryf.prog w = ((FmtStop.sprintf #[9, 48] #[9] args).run Tryf.prog w).andThen fun v w' => .ok (.value v) w' :=
  run_callFunc_extern Tryf.func8 (by kernel_rfl) (by kernel_rfl) (by kernel_rfl) (by kernel_rfl) args w
theorem guard_ok (name : String) (w : World) : (FmtStop.guard name).run Tryf.prog w = .ok () w := by kernel_rfl
theorem fmt2 : FmtStop.printed? ⟨#[37, 100, 47, 37, 100]⟩ 2 = some [(0, 100, false), (1, 100, false)] := by kernel_rfl
theorem fmt2r (w : World) : (FmtDoors.printed ⟨#[37, 100, 47, 37, 100]⟩ 2).run Tryf.prog w = .ok [(0, 100, false), (1, 100, false)] w := by kernel_rfl
def shape3 : List UInt8 := [5, 3, 0, 0, 0, 0, 0, 0, 0, 105, 110, 116]
theorem op3_100 (name : String) (x : Int) (w : World) : (FmtStop.operand name false 100 false (.iface 3 (.int .i64 x))).run Tryf.prog w = .ok (shape3, Go.Extern.Stop.digits 8 (x % 2 ^ 64).toNat) w := by kernel_rfl

/-- What fmt is asked. -/
def reading (a s : Int) : List (List UInt8) := [[37, 100, 47, 37, 100], shape3, digits 8 (a % 18446744073709551616).toNat, shape3, digits 8 (s % 18446744073709551616).toNat]

/-- What fmt answers: the first number, a slash, the second. -/
def rate (a s : Int) : List UInt8 := Lib.itoa a ++ 47 :: Lib.itoa s

theorem t_parse : (FmtText.parse [37, 100, 47, 37, 100]).map FmtText.glue = some [.verb {} 100, .lit [47], .verb {} 100] := by rfl

theorem t_text (a s : Int) (ha : (Lit.int .i64 a).wf = true) (hs : (Lit.int .i64 s).wf = true) : FmtText.text "fmt.Sprintf" (reading a s) = some (rate a s) := by
  have h1 := FmtText.operand_int_at (sh := shape3) (k := .i64) rfl rfl a ha
  have h2 := FmtText.operand_int_at (sh := shape3) (k := .i64) rfl rfl s hs
  rw [reading, FmtText.text_sprintf_glued t_parse (FmtText.operands_cons h1 (FmtText.operands_cons h2 FmtText.operands_nil))]
  simp [FmtText.render, FmtText.printArg_d _ _ ha, FmtText.printArg_d _ _ hs, rate]

theorem told (F : Interp) (a s : Int) (ha : (Lit.int .i64 a).wf = true) (hs : (Lit.int .i64 s).wf = true) : FmtStop.textOf (F.told "fmt.Sprintf" (reading a s) 0) = ⟨(rate a s).toArray⟩ := by
  have l1 := FmtText.itoa_length_le ha
  have l2 := FmtText.itoa_length_le hs
  have ht := told_string F (t_text a s ha hs) (by simp [rate]; omega)
  rw [← textOf_list] at ht
  rw [← ht]

attribute [local go_sem] call8 guard_ok fmt2 fmt2r op3_100

set_option maxHeartbeats 400000 in
theorem string_any (F : Interp) (a s : Int) (w : World) (hF : F.answers w.tape) :
    Calls Tryf.prog 5 #[.agg #[.int .i64 a, .int .i64 s]] w fun e w' => e = .returned (.string (FmtStop.textOf (F "fmt.Sprintf" (reading a s) 0))) ∧ Below w.heap.size w w' := by
  have hF' := answers_open hF
  go_enter Tryf.func5, Tryf.ntmps5
  go_wp2
  go_ret
  exact ⟨rfl, ((((Below.refl _ _).alloc (Nat.le_refl _) _).alloc (by simp) _)).drew⟩
end Go.Proofs.Qxb6616423aFmt
