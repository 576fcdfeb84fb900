/-
  NARROWER THAN 'FOR EVERY INPUT', by the rows' own cells (each row's printed sentence says how): FnPushScopeForParsePassScriptModel: laid.
  DERIVED. THE GIVEN ROWS OF THIS SEAT. 1 by the template 'for every input the law returns true; each argument reads behind the call as it read before'; 0 by the template 'total and deterministic' (their statements: YtocljdbihcikhaaFmtTotals.lean).
  GIVEN WITH THE SEED: the statements are not yours to turn. If you find one false, say at which input.
  Laid BY PROGRAM, IN A SANDBOX (cutbox-rows.mjs): the forced cells as the released guide's own fill.sh prints them over the translation dc2e63712b33f8fc… (all of the seat's roots in one cut). By AI agents, Wed Nov 11 2026. No macro, syntax, notation, axiom, sorry.
-/
import Derived.Test.YtocljdbihcikhaaFmtChecked
import GoSem.Claim
import GoSem.ClaimJoined
import GoSem.ClaimMapViews
import Derived.JoinedTies
import Derived.KernelRfl
namespace Go.Proofs.YtocljdbihcikhaaFmt
/- THE CELL 'sum', in the pinned program and in every row, IS THE sha256 OF THE DUMP (.gsa) THAT YtocljdbihcikhaaFmtProg.lean LOADS. Nothing in Lean hashes anything: it is a label: what it is worth is what the hold of that sum in a sandbox is worth. -/
noncomputable def Tryf.pinned : Pinned := { name := "ytocljdbihcikhaafmt", sum := "dc2e63712b33f8fcf476cd57c3c27fed7be9e0abf39d89be5b44bb43a9c930ed", checked := Tryf.checked }
namespace Rows
def none {H : Type} : Left H := { results := [], args := [] }

/- WHAT THE LISTED PACKAGE-LEVEL VARIABLES READ AS WHEN THE CALL BEGINS. Each datum BY PROGRAM (the guide's laid-datum.mjs) off the statement by which the dump's own 'gosem.cut.vars' lays the variable. In a bare row this is a premise. The card (YtocljdbihcikhaaFmtCards.lean) ties it to the program's text. -/
def laid_github_com_evanw_esbuild_internal_ast_InvalidRef {H : Type} : DataW H := .agg [.lit (.int .u32 4294967295), .lit (.int .u32 4294967295)]

/-- 'n011_120.FnPushScopeForParsePassScriptModel': WHATEVER THE INPUT: true; the input reads as it did. -/
def fnPushScopeForParsePassScriptModelSpec : ChangeSpec := { name := "fnPushScopeForParsePassScriptModel", vars := ["github.com/evanw/esbuild/internal/ast.InvalidRef"], fn := fun _ => fun
  | [d1, d2, g1] => { results := [.lit (.bool true)], args := [d1, d2], vars := [g1] }
  | _ => none }
def fnPushScopeForParsePassScriptModelRow : OpenClaim := { program := "ytocljdbihcikhaafmt", sum := "dc2e63712b33f8fcf476cd57c3c27fed7be9e0abf39d89be5b44bb43a9c930ed", func := "github.com/evanw/esbuild/n011_120.FnPushScopeForParsePassScriptModel", spec := "fnPushScopeForParsePassScriptModel", stops := ["fmt.Sprintf"], inPlace := ["fmt.Sprintf"], named := ["github.com/evanw/esbuild/internal/ast.InvalidRef"], plainKeys := false, apart := false, laid := [("github.com/evanw/esbuild/internal/ast.InvalidRef", laid_github_com_evanw_esbuild_internal_ast_InvalidRef)] }
/-- NO THEOREM (fmt's text is open here; it may be false): for the released tool's asking of the row's closed facts alone. THE STATEMENT IS 'FnPushScopeForParsePassScriptModelToldSaid' (YtocljdbihcikhaaFmtCards.lean). -/
def FnPushScopeForParsePassScriptModelFormAsk : Prop := fnPushScopeForParsePassScriptModelRow.holds Tryf.pinned (OpenSpec.ofChange fnPushScopeForParsePassScriptModelSpec)

/-- ITS FALSE NEIGHBOUR: 'it returns false'. Refute it at one input. -/
def fnPushScopeForParsePassScriptModelWrong : ChangeSpec := { name := "fnPushScopeForParsePassScriptModel", vars := ["github.com/evanw/esbuild/internal/ast.InvalidRef"], fn := fun _ => fun
  | [d1, d2, g1] => { results := [.lit (.bool false)], args := [d1, d2], vars := [g1] }
  | _ => none }
def FnPushScopeForParsePassScriptModelWrongFormAsk : Prop := fnPushScopeForParsePassScriptModelRow.holds Tryf.pinned (OpenSpec.ofChange fnPushScopeForParsePassScriptModelWrong)

end Rows
end Go.Proofs.YtocljdbihcikhaaFmt
