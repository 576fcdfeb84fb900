/-
  DERIVED. GIVEN WITH THE SEED: THE CARDS: each row of YtlhcgkocnckddaaDoorRows.lean that lists a variable, with what it lists TIED to the program's text (the seventh form; the later family's looks); each row that meets fmt, with fmt's text TOLD by the authors' own Lean function (tested against real Go, not proved from fmt's source: count such statements apart). THE CARD IS WHAT COUNTS. Prove the row's statement (the work); the ties are given (YtlhcgkocnckddaaDoorTie.lean); close each card by the builder's one call (the guide's Derived/Test/ToyasCard.lean, 'card_holds'). Laid BY PROGRAM, IN A SANDBOX (cutbox-door.mjs). By AI agents, Wed Nov 11 2026. No macro, syntax, notation, axiom, sorry.
-/
import Derived.Test.YtlhcgkocnckddaaDoorRows
import GoSem.ClaimSeven
namespace Go.Proofs.YtlhcgkocnckddaaDoor
namespace Rows

/-- THE TIED CARD OF 'n011_168.FnTryToStringOnNumberSafelyParsesBackInAnyRadix'. -/
def fnTryToStringOnNumberSafelyParsesBackInAnyRadixCard : Claim7 := { stood := { row := fnTryToStringOnNumberSafelyParsesBackInAnyRadixRow, standIns := [], harness := (true, "c6d7e7f3df8b2ccfa820538301ee4dd99b396ed53f6bf7c00eef5d712622a685"), looks := false }, kinds := [], alts := [], laidByText := true, laidKinds := [.data, .data, .data], laidTests := true, laidLooks := .later }
def FnTryToStringOnNumberSafelyParsesBackInAnyRadixCardSaid : Prop := Claim7.holds Tryd.pinned (.plain (OpenSpec.ofChange fnTryToStringOnNumberSafelyParsesBackInAnyRadixSpec)) fnTryToStringOnNumberSafelyParsesBackInAnyRadixCard

/-- THE SECOND FORM's CARD OF 'n011_168.FnTryToStringOnNumberSafelyParsesBackInAnyRadix'. -/
def fnTryToStringOnNumberSafelyParsesBackInAnyRadixUptoCard : Claim7 := { stood := { row := fnTryToStringOnNumberSafelyParsesBackInAnyRadixUptoRow, standIns := [], harness := (true, "c6d7e7f3df8b2ccfa820538301ee4dd99b396ed53f6bf7c00eef5d712622a685"), looks := false }, kinds := [], alts := [], laidByText := true, laidKinds := [.data, .data, .data], laidTests := true, laidLooks := .later }
def FnTryToStringOnNumberSafelyParsesBackInAnyRadixUptoCardSaid : Prop := Claim7.holds Tryd.pinned (.plain (OpenSpec.upto fnTryToStringOnNumberSafelyParsesBackInAnyRadixSpec)) fnTryToStringOnNumberSafelyParsesBackInAnyRadixUptoCard
end Rows
end Go.Proofs.YtlhcgkocnckddaaDoor
