/-
  DERIVED. GIVEN WITH THE SEED: THE CARDS: each row of Qxb6616423aFmtRows.lean that lists a variable, with what it lists TIED to the program's text (the seventh form; the later family's looks); each row that meets fmt, with fmt's text TOLD by the authors' own Lean function (tested against real Go, not proved from fmt's source: count such statements apart). THE CARD IS WHAT COUNTS. Prove the row's statement (the work); the ties are given (Qxb6616423aFmtTie.lean); close each card by the builder's one call (the guide's Derived/Test/ToyasCard.lean, 'card_holds'). Laid BY PROGRAM, IN A SANDBOX (cutbox-door.mjs). By AI agents, Wed Nov 11 2026. No macro, syntax, notation, axiom, sorry.
-/
import Derived.Test.Qxb6616423aFmtRows
import GoSem.ClaimSeven
namespace Go.Proofs.Qxb6616423aFmt
namespace Rows

/-- THE TOLD CARD OF 'zzlaws_root_b1.FnRateLimitStringRecombinesItsHalves'. -/
def fnRateLimitStringRecombinesItsHalvesCard : Claim7 := { stood := { row := fnRateLimitStringRecombinesItsHalvesRow, standIns := [], harness := (true, "156d5b7ab2315ecc3a66464e61fde1d041854bf07b7cd24032a25e5fac8dc5ec"), looks := false }, told := true, goes := false }
def FnRateLimitStringRecombinesItsHalvesToldSaid : Prop := Claim7.holds Tryf.pinned (.plain (OpenSpec.ofChange fnRateLimitStringRecombinesItsHalvesSpec)) fnRateLimitStringRecombinesItsHalvesCard
/-- ITS FALSE NEIGHBOUR. Refute it at one input. -/
def FnRateLimitStringRecombinesItsHalvesToldWrongFalsely : Prop := Claim7.holds Tryf.pinned (.plain (OpenSpec.ofChange fnRateLimitStringRecombinesItsHalvesWrong)) fnRateLimitStringRecombinesItsHalvesCard

/-- THE TOLD CARD OF 'zzlaws_root_b1.FnRateLimitStringIsInjective'. -/
def fnRateLimitStringIsInjectiveCard : Claim7 := { stood := { row := fnRateLimitStringIsInjectiveRow, standIns := [], harness := (true, "156d5b7ab2315ecc3a66464e61fde1d041854bf07b7cd24032a25e5fac8dc5ec"), looks := false }, told := true, goes := false }
def FnRateLimitStringIsInjectiveToldSaid : Prop := Claim7.holds Tryf.pinned (.plain (OpenSpec.ofChange fnRateLimitStringIsInjectiveSpec)) fnRateLimitStringIsInjectiveCard
/-- ITS FALSE NEIGHBOUR. Refute it at one input. -/
def FnRateLimitStringIsInjectiveToldWrongFalsely : Prop := Claim7.holds Tryf.pinned (.plain (OpenSpec.ofChange fnRateLimitStringIsInjectiveWrong)) fnRateLimitStringIsInjectiveCard
end Rows
end Go.Proofs.Qxb6616423aFmt
