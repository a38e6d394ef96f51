/-
  No cell of these rows narrows 'for every input' (looked for: loops, veiled, ifaces, maps, wideKeys, modest, calm, conditions, laid).
  DERIVED. THE GIVEN ROWS OF THIS SEAT. 1 by the template 'for every input the law returns true; each argument reads behind the call as it read before'; 0 by the template 'total and deterministic' (their statements: Qxb6618275aTotals.lean).
  GIVEN WITH THE SEED: the statements are not yours to turn. If you find one false, say at which input.
  Laid BY PROGRAM, IN A SANDBOX (cutbox-rows.mjs): the forced cells as the released guide's own fill.sh prints them over the translation 6f80c7548ef56574… (all of the seat's roots in one cut). By AI agents, Wed Nov 11 2026. No macro, syntax, notation, axiom, sorry.
-/
import Derived.Test.Qxb6618275aChecked
import GoSem.Claim
import GoSem.ClaimJoined
import GoSem.ClaimMapViews
import Derived.JoinedTies
import Derived.KernelRfl
namespace Go.Proofs.Qxb6618275a
/- THE CELL 'sum', in the pinned program and in every row, IS THE sha256 OF THE DUMP (.gsa) THAT Qxb6618275aProg.lean LOADS. Nothing in Lean hashes anything: it is a label: what it is worth is what the hold of that sum in a sandbox is worth. -/
noncomputable def Try.pinned : Pinned := { name := "qxb6618275a", sum := "6f80c7548ef56574a92aa1d69a70a33d1548013d97bd7e4452463abf2d0f84e3", checked := Try.checked }
namespace Rows
def none {H : Type} : Left H := { results := [], args := [] }

/-- 'zzlaws_pkg_opaquetoken_b1.FnWellFormedIsMarkerThenLowerHexOf32Bytes': WHATEVER THE INPUT: true; the input reads as it did. -/
def fnWellFormedIsMarkerThenLowerHexOf32BytesSpec : ChangeSpec := { name := "fnWellFormedIsMarkerThenLowerHexOf32Bytes", fn := fun _ => fun
  | [d1, d2, d3] => { results := [.lit (.bool true)], args := [d1, d2, d3] }
  | _ => none }
def fnWellFormedIsMarkerThenLowerHexOf32BytesRow : OpenClaim := { program := "qxb6618275a", sum := "6f80c7548ef56574a92aa1d69a70a33d1548013d97bd7e4452463abf2d0f84e3", func := "example.com/hanover/hanover/zzlaws_pkg_opaquetoken_b1.FnWellFormedIsMarkerThenLowerHexOf32Bytes", spec := "fnWellFormedIsMarkerThenLowerHexOf32Bytes", apart := false }
def FnWellFormedIsMarkerThenLowerHexOf32BytesSaid : Prop := fnWellFormedIsMarkerThenLowerHexOf32BytesRow.holds Try.pinned (OpenSpec.ofChange fnWellFormedIsMarkerThenLowerHexOf32BytesSpec)

/-- ITS FALSE NEIGHBOUR: 'it returns false'. Refute it at one input. -/
def fnWellFormedIsMarkerThenLowerHexOf32BytesWrong : ChangeSpec := { name := "fnWellFormedIsMarkerThenLowerHexOf32Bytes", fn := fun _ => fun
  | [d1, d2, d3] => { results := [.lit (.bool false)], args := [d1, d2, d3] }
  | _ => none }
def FnWellFormedIsMarkerThenLowerHexOf32BytesWrongFalsely : Prop := fnWellFormedIsMarkerThenLowerHexOf32BytesRow.holds Try.pinned (OpenSpec.ofChange fnWellFormedIsMarkerThenLowerHexOf32BytesWrong)

end Rows
end Go.Proofs.Qxb6618275a
