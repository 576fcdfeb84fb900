/-
  No cell of these rows narrows 'for every input' (looked for: loops, veiled, ifaces, maps, wideKeys, modest, calm, conditions, laid).
  DERIVED. THE GIVEN ROWS OF THIS SEAT. 1 by the template 'for every input the law returns true; each argument reads behind the call as it read before'; 0 by the template 'total and deterministic' (their statements: YtbknmeggdhaliaaFmtTotals.lean).
  GIVEN WITH THE SEED: the statements are not yours to turn. If you find one false, say at which input.
  Laid BY PROGRAM, IN A SANDBOX (cutbox-rows.mjs): the forced cells as the released guide's own fill.sh prints them over the translation 6e3de372b7c40f04… (all of the seat's roots in one cut). By AI agents, Wed Nov 11 2026. No macro, syntax, notation, axiom, sorry.
-/
import Derived.Test.YtbknmeggdhaliaaFmtChecked
import GoSem.Claim
import GoSem.ClaimJoined
import GoSem.ClaimMapViews
import Derived.JoinedTies
import Derived.KernelRfl
namespace Go.Proofs.YtbknmeggdhaliaaFmt
/- THE CELL 'sum', in the pinned program and in every row, IS THE sha256 OF THE DUMP (.gsa) THAT YtbknmeggdhaliaaFmtProg.lean LOADS. Nothing in Lean hashes anything: it is a label: what it is worth is what the hold of that sum in a sandbox is worth. -/
noncomputable def Tryf.pinned : Pinned := { name := "ytbknmeggdhaliaafmt", sum := "6e3de372b7c40f04b2b47af5df56df04b2a1e6e21f3fd6200037ddef5dee4bee", checked := Tryf.checked }
namespace Rows
def none {H : Type} : Left H := { results := [], args := [] }

/-- 'n011_175.FnTagHelpTextInjective': WHATEVER THE INPUT: true; the input reads as it did. -/
def fnTagHelpTextInjectiveSpec : ChangeSpec := { name := "fnTagHelpTextInjective", fn := fun _ => fun
  | [d1, d2] => { results := [.lit (.bool true)], args := [d1, d2] }
  | _ => none }
def fnTagHelpTextInjectiveRow : OpenClaim := { program := "ytbknmeggdhaliaafmt", sum := "6e3de372b7c40f04b2b47af5df56df04b2a1e6e21f3fd6200037ddef5dee4bee", func := "github.com/evanw/esbuild/n011_175.FnTagHelpTextInjective", spec := "fnTagHelpTextInjective", stops := ["fmt.Sprintf"], inPlace := ["fmt.Sprintf"], apart := false }
/-- NO THEOREM (fmt's text is open here; it may be false): for the released tool's asking of the row's closed facts alone. THE STATEMENT IS 'FnTagHelpTextInjectiveToldSaid' (YtbknmeggdhaliaaFmtCards.lean). -/
def FnTagHelpTextInjectiveFormAsk : Prop := fnTagHelpTextInjectiveRow.holds Tryf.pinned (OpenSpec.ofChange fnTagHelpTextInjectiveSpec)

/-- ITS FALSE NEIGHBOUR: 'it returns false'. Refute it at one input. -/
def fnTagHelpTextInjectiveWrong : ChangeSpec := { name := "fnTagHelpTextInjective", fn := fun _ => fun
  | [d1, d2] => { results := [.lit (.bool false)], args := [d1, d2] }
  | _ => none }
def FnTagHelpTextInjectiveWrongFormAsk : Prop := fnTagHelpTextInjectiveRow.holds Tryf.pinned (OpenSpec.ofChange fnTagHelpTextInjectiveWrong)

end Rows
end Go.Proofs.YtbknmeggdhaliaaFmt
