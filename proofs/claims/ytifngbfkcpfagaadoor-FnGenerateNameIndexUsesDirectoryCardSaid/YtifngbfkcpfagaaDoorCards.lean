/-
  DERIVED. GIVEN WITH THE SEED: THE CARDS: each row of YtifngbfkcpfagaaDoorRows.lean that lists a variable, with what it lists TIED to the program's text (the seventh form; the later family's looks); each row that meets fmt, with fmt's text TOLD by the authors' own Lean function (tested against real Go, not proved from fmt's source: count such statements apart). THE CARD IS WHAT COUNTS. Prove the row's statement (the work); the ties are given (YtifngbfkcpfagaaDoorTie.lean); close each card by the builder's one call (the guide's Derived/Test/ToyasCard.lean, 'card_holds'). Laid BY PROGRAM, IN A SANDBOX (cutbox-door.mjs). By AI agents, Wed Nov 11 2026. No macro, syntax, notation, axiom, sorry.
-/
import Derived.Test.YtifngbfkcpfagaaDoorRows
import GoSem.ClaimSeven
namespace Go.Proofs.YtifngbfkcpfagaaDoor
namespace Rows

/-- THE TIED CARD OF 'n011_235.FnGenerateNameIndexUsesDirectory'. -/
def fnGenerateNameIndexUsesDirectoryCard : Claim7 := { stood := { row := fnGenerateNameIndexUsesDirectoryRow, standIns := [], harness := (true, "052262cd63c582626941d0a1dfa201e9d3ec0841e35d748697faa4e53622a531"), looks := false }, kinds := [], alts := [], laidByText := true, laidKinds := [.data, .pinned], laidTests := true, laidLooks := .later }
def FnGenerateNameIndexUsesDirectoryCardSaid : Prop := Claim7.holds Tryd.pinned (.plain (OpenSpec.ofChange fnGenerateNameIndexUsesDirectorySpec)) fnGenerateNameIndexUsesDirectoryCard

/-- THE SECOND FORM's CARD OF 'n011_235.FnGenerateNameIndexUsesDirectory'. -/
def fnGenerateNameIndexUsesDirectoryUptoCard : Claim7 := { stood := { row := fnGenerateNameIndexUsesDirectoryUptoRow, standIns := [], harness := (true, "052262cd63c582626941d0a1dfa201e9d3ec0841e35d748697faa4e53622a531"), looks := false }, kinds := [], alts := [], laidByText := true, laidKinds := [.data, .pinned], laidTests := true, laidLooks := .later }
def FnGenerateNameIndexUsesDirectoryUptoCardSaid : Prop := Claim7.holds Tryd.pinned (.plain (OpenSpec.upto fnGenerateNameIndexUsesDirectorySpec)) fnGenerateNameIndexUsesDirectoryUptoCard
end Rows
end Go.Proofs.YtifngbfkcpfagaaDoor
