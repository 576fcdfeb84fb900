/-
  DERIVED. GIVEN WITH THE SEED: THE CARDS: each row of YtpahhgeliaeniaaDoorRows.lean that lists a variable, with what it lists TIED to the program's text (the seventh form; the later family's looks); each row that meets fmt, with fmt's text TOLD by the authors' own Lean function (tested against real Go, not proved from fmt's source: count such statements apart). THE CARD IS WHAT COUNTS. Prove the row's statement (the work); the ties are given (YtpahhgeliaeniaaDoorTie.lean); close each card by the builder's one call (the guide's Derived/Test/ToyasCard.lean, 'card_holds'). Laid BY PROGRAM, IN A SANDBOX (cutbox-door.mjs). By AI agents, Wed Nov 11 2026. No macro, syntax, notation, axiom, sorry.
-/
import Derived.Test.YtpahhgeliaeniaaDoorRows
import GoSem.ClaimSeven
namespace Go.Proofs.YtpahhgeliaeniaaDoor
namespace Rows

/-- THE TIED CARD OF 'n011_110.FnSaveExprCommentsIsIdempotent'. -/
def fnSaveExprCommentsIsIdempotentCard : Claim7 := { stood := { row := fnSaveExprCommentsIsIdempotentRow, standIns := [], harness := (true, "ae9a8983a89d751c42a4d68d95f69a8c1d0bf2c7159cbe796d20eebe2e8c2519"), looks := false }, kinds := [], alts := [], laidByText := true, laidKinds := [.data, .pinned], laidTests := true, laidLooks := .later }
def FnSaveExprCommentsIsIdempotentCardSaid : Prop := Claim7.holds Tryd.pinned (.plain (OpenSpec.ofChange fnSaveExprCommentsIsIdempotentSpec)) fnSaveExprCommentsIsIdempotentCard

/-- THE SECOND FORM's CARD OF 'n011_110.FnSaveExprCommentsIsIdempotent'. -/
def fnSaveExprCommentsIsIdempotentUptoCard : Claim7 := { stood := { row := fnSaveExprCommentsIsIdempotentUptoRow, standIns := [], harness := (true, "ae9a8983a89d751c42a4d68d95f69a8c1d0bf2c7159cbe796d20eebe2e8c2519"), looks := false }, kinds := [], alts := [], laidByText := true, laidKinds := [.data, .pinned], laidTests := true, laidLooks := .later }
def FnSaveExprCommentsIsIdempotentUptoCardSaid : Prop := Claim7.holds Tryd.pinned (.plain (OpenSpec.upto fnSaveExprCommentsIsIdempotentSpec)) fnSaveExprCommentsIsIdempotentUptoCard
end Rows
end Go.Proofs.YtpahhgeliaeniaaDoor
