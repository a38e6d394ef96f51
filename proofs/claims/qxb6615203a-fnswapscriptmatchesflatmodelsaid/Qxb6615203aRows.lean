/-
  No cell of these rows narrows 'for every input' (looked for: loops, veiled, ifaces, maps, wideKeys, modest, calm, conditions, laid).
  DERIVED. THE GIVEN ROWS OF THIS SEAT. 2 by the template 'for every input the law returns true; each argument reads behind the call as it read before'; 0 by the template 'total and deterministic' (their statements: Qxb6615203aTotals.lean).
  GIVEN WITH THE SEED: the statements are not yours to turn. If you find one false, say at which input.
  Laid BY PROGRAM, IN A SANDBOX (cutbox-rows.mjs): the forced cells as the released guide's own fill.sh prints them over the translation 89946f213e6470a5… (all of the seat's roots in one cut). By AI agents, Wed Nov 11 2026. No macro, syntax, notation, axiom, sorry.
-/
import Derived.Test.Qxb6615203aChecked
import GoSem.Claim
import GoSem.ClaimJoined
import GoSem.ClaimMapViews
import Derived.JoinedTies
import Derived.KernelRfl
namespace Go.Proofs.Qxb6615203a
/- THE CELL 'sum', in the pinned program and in every row, IS THE sha256 OF THE DUMP (.gsa) THAT Qxb6615203aProg.lean LOADS. Nothing in Lean hashes anything: it is a label: what it is worth is what the hold of that sum in a sandbox is worth. -/
noncomputable def Try.pinned : Pinned := { name := "qxb6615203a", sum := "89946f213e6470a511a4845a9a8b18c94dc1e240d837eea08c45b06860bcee30", checked := Try.checked }
namespace Rows
def none {H : Type} : Left H := { results := [], args := [] }

/-- 'zzlaws_internal_store_b1.FnSwapTwiceRestores': WHATEVER THE INPUT: true; the input reads as it did. -/
def fnSwapTwiceRestoresSpec : ChangeSpec := { name := "fnSwapTwiceRestores", fn := fun _ => fun
  | [d1, d2, d3, d4] => { results := [.lit (.bool true)], args := [d1, d2, d3, d4] }
  | _ => none }
def fnSwapTwiceRestoresRow : OpenClaim := { program := "qxb6615203a", sum := "89946f213e6470a511a4845a9a8b18c94dc1e240d837eea08c45b06860bcee30", func := "example.com/halfway/halfway/zzlaws_internal_store_b1.FnSwapTwiceRestores", spec := "fnSwapTwiceRestores", apart := false }
def FnSwapTwiceRestoresSaid : Prop := fnSwapTwiceRestoresRow.holds Try.pinned (OpenSpec.ofChange fnSwapTwiceRestoresSpec)

/-- ITS FALSE NEIGHBOUR: 'it returns false'. Refute it at one input. -/
def fnSwapTwiceRestoresWrong : ChangeSpec := { name := "fnSwapTwiceRestores", fn := fun _ => fun
  | [d1, d2, d3, d4] => { results := [.lit (.bool false)], args := [d1, d2, d3, d4] }
  | _ => none }
def FnSwapTwiceRestoresWrongFalsely : Prop := fnSwapTwiceRestoresRow.holds Try.pinned (OpenSpec.ofChange fnSwapTwiceRestoresWrong)

/-- 'zzlaws_internal_store_b1.FnSwapScriptMatchesFlatModel': WHATEVER THE INPUT: true; the input reads as it did. -/
def fnSwapScriptMatchesFlatModelSpec : ChangeSpec := { name := "fnSwapScriptMatchesFlatModel", fn := fun _ => fun
  | [d1, d2, d3, d4] => { results := [.lit (.bool true)], args := [d1, d2, d3, d4] }
  | _ => none }
def fnSwapScriptMatchesFlatModelRow : OpenClaim := { program := "qxb6615203a", sum := "89946f213e6470a511a4845a9a8b18c94dc1e240d837eea08c45b06860bcee30", func := "example.com/halfway/halfway/zzlaws_internal_store_b1.FnSwapScriptMatchesFlatModel", spec := "fnSwapScriptMatchesFlatModel", apart := false }
def FnSwapScriptMatchesFlatModelSaid : Prop := fnSwapScriptMatchesFlatModelRow.holds Try.pinned (OpenSpec.ofChange fnSwapScriptMatchesFlatModelSpec)

/-- ITS FALSE NEIGHBOUR: 'it returns false'. Refute it at one input. -/
def fnSwapScriptMatchesFlatModelWrong : ChangeSpec := { name := "fnSwapScriptMatchesFlatModel", fn := fun _ => fun
  | [d1, d2, d3, d4] => { results := [.lit (.bool false)], args := [d1, d2, d3, d4] }
  | _ => none }
def FnSwapScriptMatchesFlatModelWrongFalsely : Prop := fnSwapScriptMatchesFlatModelRow.holds Try.pinned (OpenSpec.ofChange fnSwapScriptMatchesFlatModelWrong)

end Rows
end Go.Proofs.Qxb6615203a
