/-
  No cell of these rows narrows 'for every input' (looked for: loops, veiled, ifaces, maps, wideKeys, modest, calm, conditions, laid).
  DERIVED. THE GIVEN ROWS OF THIS SEAT. 3 by the template 'for every input the law returns true; each argument reads behind the call as it read before'; 0 by the template 'total and deterministic' (their statements: YtpgkbpgfiblboaaRTotals.lean).
  GIVEN WITH THE SEED: the statements are not yours to turn. If you find one false, say at which input.
  Laid BY PROGRAM, IN A SANDBOX (cutbox-rows.mjs): the forced cells as the released guide's own fill.sh prints them over the translation 510b7b29c387426f… (all of the seat's roots in one cut). By AI agents, Wed Nov 11 2026. No macro, syntax, notation, axiom, sorry.
-/
import Derived.Test.YtpgkbpgfiblboaaRChecked
import GoSem.Claim
import GoSem.ClaimJoined
import GoSem.ClaimMapViews
import Derived.JoinedTies
import Derived.KernelRfl
namespace Go.Proofs.YtpgkbpgfiblboaaR
/- THE CELL 'sum', in the pinned program and in every row, IS THE sha256 OF THE DUMP (.gsa) THAT YtpgkbpgfiblboaaRProg.lean LOADS. Nothing in Lean hashes anything: it is a label: what it is worth is what the hold of that sum in a sandbox is worth. -/
noncomputable def Try.pinned : Pinned := { name := "ytpgkbpgfiblboaar", sum := "510b7b29c387426f9198677244cae09d015a61cb368bcdf4621e7aefddda11e7", checked := Try.checked }
namespace Rows
def none {H : Type} : Left H := { results := [], args := [] }

/-- 'n011_294.FnIsInt32OrUint32MatchesStackModel': WHATEVER THE INPUT: true; the input reads as it did. -/
def fnIsInt32OrUint32MatchesStackModelSpec : ChangeSpec := { name := "fnIsInt32OrUint32MatchesStackModel", fn := fun _ => fun
  | [d] => { results := [.lit (.bool true)], args := [d] }
  | _ => none }
def fnIsInt32OrUint32MatchesStackModelRow : OpenClaim := { program := "ytpgkbpgfiblboaar", sum := "510b7b29c387426f9198677244cae09d015a61cb368bcdf4621e7aefddda11e7", func := "github.com/evanw/esbuild/n011_294.FnIsInt32OrUint32MatchesStackModel", spec := "fnIsInt32OrUint32MatchesStackModel", recurses := true, apart := false }
def FnIsInt32OrUint32MatchesStackModelSaid : Prop := fnIsInt32OrUint32MatchesStackModelRow.holds Try.pinned (OpenSpec.ofChange fnIsInt32OrUint32MatchesStackModelSpec)

/-- ITS FALSE NEIGHBOUR: 'it returns false'. Refute it at one input. -/
def fnIsInt32OrUint32MatchesStackModelWrong : ChangeSpec := { name := "fnIsInt32OrUint32MatchesStackModel", fn := fun _ => fun
  | [d] => { results := [.lit (.bool false)], args := [d] }
  | _ => none }
def FnIsInt32OrUint32MatchesStackModelWrongFalsely : Prop := fnIsInt32OrUint32MatchesStackModelRow.holds Try.pinned (OpenSpec.ofChange fnIsInt32OrUint32MatchesStackModelWrong)

/-- 'n011_37.FnSymbolInstanceIsPropertyAccess': WHATEVER THE INPUT: true; the input reads as it did. -/
def fnSymbolInstanceIsPropertyAccessSpec : ChangeSpec := { name := "fnSymbolInstanceIsPropertyAccess", fn := fun _ => fun
  | [d] => { results := [.lit (.bool true)], args := [d] }
  | _ => none }
def fnSymbolInstanceIsPropertyAccessRow : OpenClaim := { program := "ytpgkbpgfiblboaar", sum := "510b7b29c387426f9198677244cae09d015a61cb368bcdf4621e7aefddda11e7", func := "github.com/evanw/esbuild/n011_37.FnSymbolInstanceIsPropertyAccess", spec := "fnSymbolInstanceIsPropertyAccess", apart := false }
def FnSymbolInstanceIsPropertyAccessSaid : Prop := fnSymbolInstanceIsPropertyAccessRow.holds Try.pinned (OpenSpec.ofChange fnSymbolInstanceIsPropertyAccessSpec)

/-- ITS FALSE NEIGHBOUR: 'it returns false'. Refute it at one input. -/
def fnSymbolInstanceIsPropertyAccessWrong : ChangeSpec := { name := "fnSymbolInstanceIsPropertyAccess", fn := fun _ => fun
  | [d] => { results := [.lit (.bool false)], args := [d] }
  | _ => none }
def FnSymbolInstanceIsPropertyAccessWrongFalsely : Prop := fnSymbolInstanceIsPropertyAccessRow.holds Try.pinned (OpenSpec.ofChange fnSymbolInstanceIsPropertyAccessWrong)

/-- 'n011_129.FnExprHasObjectRestMatchesReachabilityModel': WHATEVER THE INPUT: true; the input reads as it did. -/
def fnExprHasObjectRestMatchesReachabilityModelSpec : ChangeSpec := { name := "fnExprHasObjectRestMatchesReachabilityModel", fn := fun _ => fun
  | [d1, d2, d3] => { results := [.lit (.bool true)], args := [d1, d2, d3] }
  | _ => none }
def fnExprHasObjectRestMatchesReachabilityModelRow : OpenClaim := { program := "ytpgkbpgfiblboaar", sum := "510b7b29c387426f9198677244cae09d015a61cb368bcdf4621e7aefddda11e7", func := "github.com/evanw/esbuild/n011_129.FnExprHasObjectRestMatchesReachabilityModel", spec := "fnExprHasObjectRestMatchesReachabilityModel", recurses := true, apart := false }
def FnExprHasObjectRestMatchesReachabilityModelSaid : Prop := fnExprHasObjectRestMatchesReachabilityModelRow.holds Try.pinned (OpenSpec.ofChange fnExprHasObjectRestMatchesReachabilityModelSpec)

/-- ITS FALSE NEIGHBOUR: 'it returns false'. Refute it at one input. -/
def fnExprHasObjectRestMatchesReachabilityModelWrong : ChangeSpec := { name := "fnExprHasObjectRestMatchesReachabilityModel", fn := fun _ => fun
  | [d1, d2, d3] => { results := [.lit (.bool false)], args := [d1, d2, d3] }
  | _ => none }
def FnExprHasObjectRestMatchesReachabilityModelWrongFalsely : Prop := fnExprHasObjectRestMatchesReachabilityModelRow.holds Try.pinned (OpenSpec.ofChange fnExprHasObjectRestMatchesReachabilityModelWrong)

/- THE SECOND FORM. 'bulk': how many values and letters a reading holds, each counted each time it is reached (what is shared counts as often as it is met; a slice's spare places count too). A statement '..UptoSaid' is the law's where the arguments, and the package variables that the reading takes, are together of bulk at most 1048576: NARROWER than '..Said'. Prove '..Said' where nothing that the law and all that it calls make is longer than what came in: it says more and counts as full. Else prove '..UptoSaid'. A law counts once. -/
mutual
def uptoBulk {H : Type} : DataW H → Nat
  | .lit (.string bytes) => bytes.length + 1
  | .lit _ => 1
  | .nil => 1
  | .ptr d => uptoBulk d + 1
  | .slice elems spare => uptoBulkAll elems + uptoBulkAll spare + 1
  | .agg parts => uptoBulkAll parts + 1
  | .iface _ d => uptoBulk d + 1
  | .map entries => uptoBulkEntries entries + 1
  | .held _ => 1
def uptoBulkAll {H : Type} : List (DataW H) → Nat
  | [] => 0
  | d :: r => uptoBulk d + uptoBulkAll r
def uptoBulkEntries {H : Type} : List (Lit × DataW H) → Nat
  | [] => 0
  | x :: r => uptoBulkEntry x + uptoBulkEntries r
def uptoBulkEntry {H : Type} : Lit × DataW H → Nat
  | (.string bytes, d) => bytes.length + uptoBulk d + 1
  | (_, d) => uptoBulk d + 1
 end
def uptoSmall : (H : Type) → List (DataW H) → Bool := fun _ ds => decide (uptoBulkAll ds ≤ 1048576)
def OpenSpec.upto (s : _root_.Go.ChangeSpec) : _root_.Go.OpenSpec := { _root_.Go.OpenSpec.ofChange s with cond := some uptoSmall }

/-- 'n011_294.FnIsInt32OrUint32MatchesStackModel', WHERE WHAT IT READS IS OF BULK AT MOST 1048576: true; the input reads as it did. -/
def fnIsInt32OrUint32MatchesStackModelUptoRow : OpenClaim := { program := "ytpgkbpgfiblboaar", sum := "510b7b29c387426f9198677244cae09d015a61cb368bcdf4621e7aefddda11e7", func := "github.com/evanw/esbuild/n011_294.FnIsInt32OrUint32MatchesStackModel", spec := "fnIsInt32OrUint32MatchesStackModel", recurses := true, apart := false, narrowed := true }
def FnIsInt32OrUint32MatchesStackModelUptoSaid : Prop := fnIsInt32OrUint32MatchesStackModelUptoRow.holds Try.pinned (OpenSpec.upto fnIsInt32OrUint32MatchesStackModelSpec)

/-- 'n011_37.FnSymbolInstanceIsPropertyAccess', WHERE WHAT IT READS IS OF BULK AT MOST 1048576: true; the input reads as it did. -/
def fnSymbolInstanceIsPropertyAccessUptoRow : OpenClaim := { program := "ytpgkbpgfiblboaar", sum := "510b7b29c387426f9198677244cae09d015a61cb368bcdf4621e7aefddda11e7", func := "github.com/evanw/esbuild/n011_37.FnSymbolInstanceIsPropertyAccess", spec := "fnSymbolInstanceIsPropertyAccess", apart := false, narrowed := true }
def FnSymbolInstanceIsPropertyAccessUptoSaid : Prop := fnSymbolInstanceIsPropertyAccessUptoRow.holds Try.pinned (OpenSpec.upto fnSymbolInstanceIsPropertyAccessSpec)

/-- 'n011_129.FnExprHasObjectRestMatchesReachabilityModel', WHERE WHAT IT READS IS OF BULK AT MOST 1048576: true; the input reads as it did. -/
def fnExprHasObjectRestMatchesReachabilityModelUptoRow : OpenClaim := { program := "ytpgkbpgfiblboaar", sum := "510b7b29c387426f9198677244cae09d015a61cb368bcdf4621e7aefddda11e7", func := "github.com/evanw/esbuild/n011_129.FnExprHasObjectRestMatchesReachabilityModel", spec := "fnExprHasObjectRestMatchesReachabilityModel", recurses := true, apart := false, narrowed := true }
def FnExprHasObjectRestMatchesReachabilityModelUptoSaid : Prop := fnExprHasObjectRestMatchesReachabilityModelUptoRow.holds Try.pinned (OpenSpec.upto fnExprHasObjectRestMatchesReachabilityModelSpec)

end Rows
end Go.Proofs.YtpgkbpgfiblboaaR
