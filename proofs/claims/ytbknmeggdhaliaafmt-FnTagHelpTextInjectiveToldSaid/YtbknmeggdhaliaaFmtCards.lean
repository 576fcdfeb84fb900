/-
  DERIVED. GIVEN WITH THE SEED: THE CARDS: each row of YtbknmeggdhaliaaFmtRows.lean that lists a variable, with what it lists TIED to the program's text (the seventh form; the later family's looks); each row that meets fmt, with fmt's text TOLD by the authors' own Lean function (tested against real Go, not proved from fmt's source: count such statements apart). THE CARD IS WHAT COUNTS. Prove the row's statement (the work); the ties are given (YtbknmeggdhaliaaFmtTie.lean); close each card by the builder's one call (the guide's Derived/Test/ToyasCard.lean, 'card_holds'). Laid BY PROGRAM, IN A SANDBOX (cutbox-door.mjs). By AI agents, Wed Nov 11 2026. No macro, syntax, notation, axiom, sorry.
-/
import Derived.Test.YtbknmeggdhaliaaFmtRows
import GoSem.ClaimSeven
namespace Go.Proofs.YtbknmeggdhaliaaFmt
namespace Rows

/-- THE TOLD CARD OF 'n011_175.FnTagHelpTextInjective'. -/
def fnTagHelpTextInjectiveCard : Claim7 := { stood := { row := fnTagHelpTextInjectiveRow, standIns := [], harness := (true, "3079a9f9f61becf568f25f4cc51f1740f9c194c4f6112022790abd34b6bc2cb7"), looks := false }, told := true, goes := false }
def FnTagHelpTextInjectiveToldSaid : Prop := Claim7.holds Tryf.pinned (.plain (OpenSpec.ofChange fnTagHelpTextInjectiveSpec)) fnTagHelpTextInjectiveCard
/-- ITS FALSE NEIGHBOUR. Refute it at one input. -/
def FnTagHelpTextInjectiveToldWrongFalsely : Prop := Claim7.holds Tryf.pinned (.plain (OpenSpec.ofChange fnTagHelpTextInjectiveWrong)) fnTagHelpTextInjectiveCard
end Rows
end Go.Proofs.YtbknmeggdhaliaaFmt
