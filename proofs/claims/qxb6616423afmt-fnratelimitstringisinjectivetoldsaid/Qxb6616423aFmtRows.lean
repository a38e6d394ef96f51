/-
  No cell of these rows narrows 'for every input' (looked for: loops, veiled, ifaces, maps, wideKeys, modest, calm, conditions, laid).
  DERIVED. THE GIVEN ROWS OF THIS SEAT. 2 by the template 'for every input the law returns true; each argument reads behind the call as it read before'; 0 by the template 'total and deterministic' (their statements: Qxb6616423aFmtTotals.lean).
  GIVEN WITH THE SEED: the statements are not yours to turn. If you find one false, say at which input.
  Laid BY PROGRAM, IN A SANDBOX (cutbox-rows.mjs): the forced cells as the released guide's own fill.sh prints them over the translation 7a25c73089113b5a… (all of the seat's roots in one cut). By AI agents, Wed Nov 11 2026. No macro, syntax, notation, axiom, sorry.
-/
import Derived.Test.Qxb6616423aFmtChecked
import GoSem.Claim
import GoSem.ClaimJoined
import GoSem.ClaimMapViews
import Derived.JoinedTies
import Derived.KernelRfl
namespace Go.Proofs.Qxb6616423aFmt
/- THE CELL 'sum', in the pinned program and in every row, IS THE sha256 OF THE DUMP (.gsa) THAT Qxb6616423aFmtProg.lean LOADS. Nothing in Lean hashes anything: it is a label: what it is worth is what the hold of that sum in a sandbox is worth. -/
noncomputable def Tryf.pinned : Pinned := { name := "qxb6616423afmt", sum := "7a25c73089113b5a54fb7e09d38d5a24e232ffb1e26c7762bc34b836ae2f3f2c", checked := Tryf.checked }
namespace Rows
def none {H : Type} : Left H := { results := [], args := [] }

/-- 'zzlaws_root_b1.FnRateLimitStringRecombinesItsHalves': WHATEVER THE INPUT: true; the input reads as it did. -/
def fnRateLimitStringRecombinesItsHalvesSpec : ChangeSpec := { name := "fnRateLimitStringRecombinesItsHalves", fn := fun _ => fun
  | [d1, d2, d3, d4] => { results := [.lit (.bool true)], args := [d1, d2, d3, d4] }
  | _ => none }
def fnRateLimitStringRecombinesItsHalvesRow : OpenClaim := { program := "qxb6616423afmt", sum := "7a25c73089113b5a54fb7e09d38d5a24e232ffb1e26c7762bc34b836ae2f3f2c", func := "example.com/keystride/keystride/zzlaws_root_b1.FnRateLimitStringRecombinesItsHalves", spec := "fnRateLimitStringRecombinesItsHalves", stops := ["fmt.Sprintf"], inPlace := ["fmt.Sprintf"], apart := false }
/-- NO THEOREM (fmt's text is open here; it may be false): for the released tool's asking of the row's closed facts alone. THE STATEMENT IS 'FnRateLimitStringRecombinesItsHalvesToldSaid' (Qxb6616423aFmtCards.lean). -/
def FnRateLimitStringRecombinesItsHalvesFormAsk : Prop := fnRateLimitStringRecombinesItsHalvesRow.holds Tryf.pinned (OpenSpec.ofChange fnRateLimitStringRecombinesItsHalvesSpec)

/-- ITS FALSE NEIGHBOUR: 'it returns false'. Refute it at one input. -/
def fnRateLimitStringRecombinesItsHalvesWrong : ChangeSpec := { name := "fnRateLimitStringRecombinesItsHalves", fn := fun _ => fun
  | [d1, d2, d3, d4] => { results := [.lit (.bool false)], args := [d1, d2, d3, d4] }
  | _ => none }
def FnRateLimitStringRecombinesItsHalvesWrongFormAsk : Prop := fnRateLimitStringRecombinesItsHalvesRow.holds Tryf.pinned (OpenSpec.ofChange fnRateLimitStringRecombinesItsHalvesWrong)

/-- 'zzlaws_root_b1.FnRateLimitStringIsInjective': WHATEVER THE INPUT: true; the input reads as it did. -/
def fnRateLimitStringIsInjectiveSpec : ChangeSpec := { name := "fnRateLimitStringIsInjective", fn := fun _ => fun
  | [d1, d2, d3, d4] => { results := [.lit (.bool true)], args := [d1, d2, d3, d4] }
  | _ => none }
def fnRateLimitStringIsInjectiveRow : OpenClaim := { program := "qxb6616423afmt", sum := "7a25c73089113b5a54fb7e09d38d5a24e232ffb1e26c7762bc34b836ae2f3f2c", func := "example.com/keystride/keystride/zzlaws_root_b1.FnRateLimitStringIsInjective", spec := "fnRateLimitStringIsInjective", stops := ["fmt.Sprintf"], inPlace := ["fmt.Sprintf"], apart := false }
/-- NO THEOREM (fmt's text is open here; it may be false): for the released tool's asking of the row's closed facts alone. THE STATEMENT IS 'FnRateLimitStringIsInjectiveToldSaid' (Qxb6616423aFmtCards.lean). -/
def FnRateLimitStringIsInjectiveFormAsk : Prop := fnRateLimitStringIsInjectiveRow.holds Tryf.pinned (OpenSpec.ofChange fnRateLimitStringIsInjectiveSpec)

/-- ITS FALSE NEIGHBOUR: 'it returns false'. Refute it at one input. -/
def fnRateLimitStringIsInjectiveWrong : ChangeSpec := { name := "fnRateLimitStringIsInjective", fn := fun _ => fun
  | [d1, d2, d3, d4] => { results := [.lit (.bool false)], args := [d1, d2, d3, d4] }
  | _ => none }
def FnRateLimitStringIsInjectiveWrongFormAsk : Prop := fnRateLimitStringIsInjectiveRow.holds Tryf.pinned (OpenSpec.ofChange fnRateLimitStringIsInjectiveWrong)

end Rows
end Go.Proofs.Qxb6616423aFmt
