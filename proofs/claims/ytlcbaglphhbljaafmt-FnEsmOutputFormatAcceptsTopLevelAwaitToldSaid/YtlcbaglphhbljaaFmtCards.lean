/-
  DERIVED. GIVEN WITH THE SEED: THE CARDS: each row of YtlcbaglphhbljaaFmtRows.lean that lists a variable, with what it lists TIED to the program's text (the seventh form; the later family's looks); each row that meets fmt, with fmt's text TOLD by the authors' own Lean function (tested against real Go, not proved from fmt's source: count such statements apart). THE CARD IS WHAT COUNTS. Prove the row's statement (the work); the ties are given (YtlcbaglphhbljaaFmtTie.lean); close each card by the builder's one call (the guide's Derived/Test/ToyasCard.lean, 'card_holds'). Laid BY PROGRAM, IN A SANDBOX (cutbox-door.mjs). By AI agents, Wed Nov 11 2026. No macro, syntax, notation, axiom, sorry.
-/
import Derived.Test.YtlcbaglphhbljaaFmtRows
import GoSem.ClaimSeven
namespace Go.Proofs.YtlcbaglphhbljaaFmt
namespace Rows

/-- THE TOLD AND TIED CARD OF 'n011_133.FnEsmOutputFormatAcceptsTopLevelAwait'. -/
def fnEsmOutputFormatAcceptsTopLevelAwaitCard : Claim7 := { stood := { row := fnEsmOutputFormatAcceptsTopLevelAwaitRow, standIns := [], harness := (true, "1261ca810bee0209aa7e160d9452492f0e003f799aba19fa7d49923ffd124484"), looks := false }, told := true, laidByText := true, laidKinds := [.data, .pinned], laidTests := true, laidLooks := .later, goes := false }
def FnEsmOutputFormatAcceptsTopLevelAwaitToldSaid : Prop := Claim7.holds Tryf.pinned (.plain (OpenSpec.ofChange fnEsmOutputFormatAcceptsTopLevelAwaitSpec)) fnEsmOutputFormatAcceptsTopLevelAwaitCard
/-- ITS FALSE NEIGHBOUR. Refute it at one input. -/
def FnEsmOutputFormatAcceptsTopLevelAwaitToldWrongFalsely : Prop := Claim7.holds Tryf.pinned (.plain (OpenSpec.ofChange fnEsmOutputFormatAcceptsTopLevelAwaitWrong)) fnEsmOutputFormatAcceptsTopLevelAwaitCard
end Rows
end Go.Proofs.YtlcbaglphhbljaaFmt
