/-
  No cell of these rows narrows 'for every input' (looked for: loops, veiled, ifaces, maps, wideKeys, modest, calm, conditions, laid).
  DERIVED. THE GIVEN ROWS OF THIS SEAT. 4 by the template 'for every input the law returns true; each argument reads behind the call as it read before'; 0 by the template 'total and deterministic' (their statements: Qxb6616785aTotals.lean).
  GIVEN WITH THE SEED: the statements are not yours to turn. If you find one false, say at which input.
  Laid BY PROGRAM, IN A SANDBOX (cutbox-rows.mjs): the forced cells as the released guide's own fill.sh prints them over the translation 3c78cf9036f8546b… (all of the seat's roots in one cut). By AI agents, Wed Nov 11 2026. No macro, syntax, notation, axiom, sorry.
-/
import Derived.Test.Qxb6616785aChecked
import GoSem.Claim
import GoSem.ClaimJoined
import GoSem.ClaimMapViews
import Derived.JoinedTies
import Derived.KernelRfl
namespace Go.Proofs.Qxb6616785a
/- THE CELL 'sum', in the pinned program and in every row, IS THE sha256 OF THE DUMP (.gsa) THAT Qxb6616785aProg.lean LOADS. Nothing in Lean hashes anything: it is a label: what it is worth is what the hold of that sum in a sandbox is worth. -/
noncomputable def Try.pinned : Pinned := { name := "qxb6616785a", sum := "3c78cf9036f8546bb58f5523a037a1b7c731c8c1905ca9d8da5b07fb90882926", checked := Try.checked }
namespace Rows
def none {H : Type} : Left H := { results := [], args := [] }

/-- 'zzlaws_internal_eval_b1.FnIsGreaterComparesByDifference': WHATEVER THE INPUT: true; the input reads as it did. -/
def fnIsGreaterComparesByDifferenceSpec : ChangeSpec := { name := "fnIsGreaterComparesByDifference", fn := fun _ => fun
  | [d1, d2] => { results := [.lit (.bool true)], args := [d1, d2] }
  | _ => none }
def fnIsGreaterComparesByDifferenceRow : OpenClaim := { program := "qxb6616785a", sum := "3c78cf9036f8546bb58f5523a037a1b7c731c8c1905ca9d8da5b07fb90882926", func := "example.com/tailwise/tailwise/zzlaws_internal_eval_b1.FnIsGreaterComparesByDifference", spec := "fnIsGreaterComparesByDifference", apart := false }
def FnIsGreaterComparesByDifferenceSaid : Prop := fnIsGreaterComparesByDifferenceRow.holds Try.pinned (OpenSpec.ofChange fnIsGreaterComparesByDifferenceSpec)

/-- ITS FALSE NEIGHBOUR: 'it returns false'. Refute it at one input. -/
def fnIsGreaterComparesByDifferenceWrong : ChangeSpec := { name := "fnIsGreaterComparesByDifference", fn := fun _ => fun
  | [d1, d2] => { results := [.lit (.bool false)], args := [d1, d2] }
  | _ => none }
def FnIsGreaterComparesByDifferenceWrongFalsely : Prop := fnIsGreaterComparesByDifferenceRow.holds Try.pinned (OpenSpec.ofChange fnIsGreaterComparesByDifferenceWrong)

/-- 'zzlaws_internal_eval_b1.FnIsGreaterTrichotomyAndMonotone': WHATEVER THE INPUT: true; the input reads as it did. -/
def fnIsGreaterTrichotomyAndMonotoneSpec : ChangeSpec := { name := "fnIsGreaterTrichotomyAndMonotone", fn := fun _ => fun
  | [d1, d2] => { results := [.lit (.bool true)], args := [d1, d2] }
  | _ => none }
def fnIsGreaterTrichotomyAndMonotoneRow : OpenClaim := { program := "qxb6616785a", sum := "3c78cf9036f8546bb58f5523a037a1b7c731c8c1905ca9d8da5b07fb90882926", func := "example.com/tailwise/tailwise/zzlaws_internal_eval_b1.FnIsGreaterTrichotomyAndMonotone", spec := "fnIsGreaterTrichotomyAndMonotone", apart := false }
def FnIsGreaterTrichotomyAndMonotoneSaid : Prop := fnIsGreaterTrichotomyAndMonotoneRow.holds Try.pinned (OpenSpec.ofChange fnIsGreaterTrichotomyAndMonotoneSpec)

/-- ITS FALSE NEIGHBOUR: 'it returns false'. Refute it at one input. -/
def fnIsGreaterTrichotomyAndMonotoneWrong : ChangeSpec := { name := "fnIsGreaterTrichotomyAndMonotone", fn := fun _ => fun
  | [d1, d2] => { results := [.lit (.bool false)], args := [d1, d2] }
  | _ => none }
def FnIsGreaterTrichotomyAndMonotoneWrongFalsely : Prop := fnIsGreaterTrichotomyAndMonotoneRow.holds Try.pinned (OpenSpec.ofChange fnIsGreaterTrichotomyAndMonotoneWrong)

/-- 'zzlaws_internal_eval_b1.FnQuickArgLocalFindsItsFrameSlot': WHATEVER THE INPUT: true; the input reads as it did. -/
def fnQuickArgLocalFindsItsFrameSlotSpec : ChangeSpec := { name := "fnQuickArgLocalFindsItsFrameSlot", fn := fun _ => fun
  | [d1, d2, d3] => { results := [.lit (.bool true)], args := [d1, d2, d3] }
  | _ => none }
def fnQuickArgLocalFindsItsFrameSlotRow : OpenClaim := { program := "qxb6616785a", sum := "3c78cf9036f8546bb58f5523a037a1b7c731c8c1905ca9d8da5b07fb90882926", func := "example.com/tailwise/tailwise/zzlaws_internal_eval_b1.FnQuickArgLocalFindsItsFrameSlot", spec := "fnQuickArgLocalFindsItsFrameSlot", apart := false }
def FnQuickArgLocalFindsItsFrameSlotSaid : Prop := fnQuickArgLocalFindsItsFrameSlotRow.holds Try.pinned (OpenSpec.ofChange fnQuickArgLocalFindsItsFrameSlotSpec)

/-- ITS FALSE NEIGHBOUR: 'it returns false'. Refute it at one input. -/
def fnQuickArgLocalFindsItsFrameSlotWrong : ChangeSpec := { name := "fnQuickArgLocalFindsItsFrameSlot", fn := fun _ => fun
  | [d1, d2, d3] => { results := [.lit (.bool false)], args := [d1, d2, d3] }
  | _ => none }
def FnQuickArgLocalFindsItsFrameSlotWrongFalsely : Prop := fnQuickArgLocalFindsItsFrameSlotRow.holds Try.pinned (OpenSpec.ofChange fnQuickArgLocalFindsItsFrameSlotWrong)

/-- 'zzlaws_internal_eval_b1.FnQuickArgConstantGivesItsValue': WHATEVER THE INPUT: true; the input reads as it did. -/
def fnQuickArgConstantGivesItsValueSpec : ChangeSpec := { name := "fnQuickArgConstantGivesItsValue", fn := fun _ => fun
  | [d1, d2] => { results := [.lit (.bool true)], args := [d1, d2] }
  | _ => none }
def fnQuickArgConstantGivesItsValueRow : OpenClaim := { program := "qxb6616785a", sum := "3c78cf9036f8546bb58f5523a037a1b7c731c8c1905ca9d8da5b07fb90882926", func := "example.com/tailwise/tailwise/zzlaws_internal_eval_b1.FnQuickArgConstantGivesItsValue", spec := "fnQuickArgConstantGivesItsValue", apart := false }
def FnQuickArgConstantGivesItsValueSaid : Prop := fnQuickArgConstantGivesItsValueRow.holds Try.pinned (OpenSpec.ofChange fnQuickArgConstantGivesItsValueSpec)

/-- ITS FALSE NEIGHBOUR: 'it returns false'. Refute it at one input. -/
def fnQuickArgConstantGivesItsValueWrong : ChangeSpec := { name := "fnQuickArgConstantGivesItsValue", fn := fun _ => fun
  | [d1, d2] => { results := [.lit (.bool false)], args := [d1, d2] }
  | _ => none }
def FnQuickArgConstantGivesItsValueWrongFalsely : Prop := fnQuickArgConstantGivesItsValueRow.holds Try.pinned (OpenSpec.ofChange fnQuickArgConstantGivesItsValueWrong)

end Rows
end Go.Proofs.Qxb6616785a
