/-
  DERIVED. GIVEN WITH THE SEED: THE CARDS: each row of YtocljdbihcikhaaFmtRows.lean that lists a variable, with what it lists TIED to the program's text (the seventh form; the later family's looks); each row that meets fmt, with fmt's text TOLD by the authors' own Lean function (tested against real Go, not proved from fmt's source: count such statements apart). THE CARD IS WHAT COUNTS. Prove the row's statement (the work); the ties are given (YtocljdbihcikhaaFmtTie.lean); close each card by the builder's one call (the guide's Derived/Test/ToyasCard.lean, 'card_holds'). Laid BY PROGRAM, IN A SANDBOX (cutbox-door.mjs). By AI agents, Wed Nov 11 2026. No macro, syntax, notation, axiom, sorry.
-/
import Derived.Test.YtocljdbihcikhaaFmtRows
import GoSem.ClaimSeven
namespace Go.Proofs.YtocljdbihcikhaaFmt
namespace Rows

/-- THE TOLD AND TIED CARD OF 'n011_120.FnPushScopeForParsePassScriptModel'. -/
def fnPushScopeForParsePassScriptModelCard : Claim7 := { stood := { row := fnPushScopeForParsePassScriptModelRow, standIns := [], harness := (true, "5013124c8d7d3b4e219705971691de39a2612870f0c34dd2e736cacf925e65cd"), looks := false }, told := true, laidByText := true, laidKinds := [.data], laidTests := true, laidLooks := .later, goes := false }
def FnPushScopeForParsePassScriptModelToldSaid : Prop := Claim7.holds Tryf.pinned (.plain (OpenSpec.ofChange fnPushScopeForParsePassScriptModelSpec)) fnPushScopeForParsePassScriptModelCard
/-- ITS FALSE NEIGHBOUR. Refute it at one input. -/
def FnPushScopeForParsePassScriptModelToldWrongFalsely : Prop := Claim7.holds Tryf.pinned (.plain (OpenSpec.ofChange fnPushScopeForParsePassScriptModelWrong)) fnPushScopeForParsePassScriptModelCard
end Rows
end Go.Proofs.YtocljdbihcikhaaFmt
