/-
  No cell of these rows narrows 'for every input' (looked for: loops, veiled, ifaces, maps, wideKeys, modest, calm, conditions, laid).
  DERIVED. THE GIVEN ROWS OF THIS SEAT. 6 by the template 'for every input the law returns true; each argument reads behind the call as it read before'; 0 by the template 'total and deterministic' (their statements: YtiejadamfgbidabTotals.lean).
  GIVEN WITH THE SEED: the statements are not yours to turn. If you find one false, say at which input.
  Laid BY PROGRAM, IN A SANDBOX (cutbox-rows.mjs): the forced cells as the released guide's own fill.sh prints them over the translation c492a1a806f55d9f… (all of the seat's roots in one cut). By AI agents, Wed Nov 11 2026. No macro, syntax, notation, axiom, sorry.
-/
import Derived.Test.YtiejadamfgbidabChecked
import GoSem.Claim
import GoSem.ClaimJoined
import GoSem.ClaimMapViews
import Derived.JoinedTies
import Derived.KernelRfl
namespace Go.Proofs.Ytiejadamfgbidab
/- THE CELL 'sum', in the pinned program and in every row, IS THE sha256 OF THE DUMP (.gsa) THAT YtiejadamfgbidabProg.lean LOADS. Nothing in Lean hashes anything: it is a label: what it is worth is what the hold of that sum in a sandbox is worth. -/
noncomputable def Try.pinned : Pinned := { name := "ytiejadamfgbidab", sum := "c492a1a806f55d9fb70cc835a0f26fc84bb55eb5718433d878a0a0021d55dc00", checked := Try.checked }
namespace Rows
def none {H : Type} : Left H := { results := [], args := [] }

/-- 'n011_152.FnJoinWithLeftAssociativeOpLeavesInputIntact': WHATEVER THE INPUT: true; the input reads as it did. -/
def fnJoinWithLeftAssociativeOpLeavesInputIntactSpec : ChangeSpec := { name := "fnJoinWithLeftAssociativeOpLeavesInputIntact", fn := fun _ => fun
  | [d1, d2, d3] => { results := [.lit (.bool true)], args := [d1, d2, d3] }
  | _ => none }
def fnJoinWithLeftAssociativeOpLeavesInputIntactRow : OpenClaim := { program := "ytiejadamfgbidab", sum := "c492a1a806f55d9fb70cc835a0f26fc84bb55eb5718433d878a0a0021d55dc00", func := "github.com/evanw/esbuild/n011_152.FnJoinWithLeftAssociativeOpLeavesInputIntact", spec := "fnJoinWithLeftAssociativeOpLeavesInputIntact", recurses := true, apart := false }
def FnJoinWithLeftAssociativeOpLeavesInputIntactSaid : Prop := fnJoinWithLeftAssociativeOpLeavesInputIntactRow.holds Try.pinned (OpenSpec.ofChange fnJoinWithLeftAssociativeOpLeavesInputIntactSpec)

/-- ITS FALSE NEIGHBOUR: 'it returns false'. Refute it at one input. -/
def fnJoinWithLeftAssociativeOpLeavesInputIntactWrong : ChangeSpec := { name := "fnJoinWithLeftAssociativeOpLeavesInputIntact", fn := fun _ => fun
  | [d1, d2, d3] => { results := [.lit (.bool false)], args := [d1, d2, d3] }
  | _ => none }
def FnJoinWithLeftAssociativeOpLeavesInputIntactWrongFalsely : Prop := fnJoinWithLeftAssociativeOpLeavesInputIntactRow.holds Try.pinned (OpenSpec.ofChange fnJoinWithLeftAssociativeOpLeavesInputIntactWrong)

/-- 'n011_127.FnJoinAllWithCommaSplitAgrees': WHATEVER THE INPUT: true; the input reads as it did. -/
def fnJoinAllWithCommaSplitAgreesSpec : ChangeSpec := { name := "fnJoinAllWithCommaSplitAgrees", fn := fun _ => fun
  | [d1, d2] => { results := [.lit (.bool true)], args := [d1, d2] }
  | _ => none }
def fnJoinAllWithCommaSplitAgreesRow : OpenClaim := { program := "ytiejadamfgbidab", sum := "c492a1a806f55d9fb70cc835a0f26fc84bb55eb5718433d878a0a0021d55dc00", func := "github.com/evanw/esbuild/n011_127.FnJoinAllWithCommaSplitAgrees", spec := "fnJoinAllWithCommaSplitAgrees", recurses := true, apart := false }
def FnJoinAllWithCommaSplitAgreesSaid : Prop := fnJoinAllWithCommaSplitAgreesRow.holds Try.pinned (OpenSpec.ofChange fnJoinAllWithCommaSplitAgreesSpec)

/-- ITS FALSE NEIGHBOUR: 'it returns false'. Refute it at one input. -/
def fnJoinAllWithCommaSplitAgreesWrong : ChangeSpec := { name := "fnJoinAllWithCommaSplitAgrees", fn := fun _ => fun
  | [d1, d2] => { results := [.lit (.bool false)], args := [d1, d2] }
  | _ => none }
def FnJoinAllWithCommaSplitAgreesWrongFalsely : Prop := fnJoinAllWithCommaSplitAgreesRow.holds Try.pinned (OpenSpec.ofChange fnJoinAllWithCommaSplitAgreesWrong)

/-- 'n011_119.FnFindIdentifiersListsLeavesInOrder': WHATEVER THE INPUT: true; the input reads as it did. -/
def fnFindIdentifiersListsLeavesInOrderSpec : ChangeSpec := { name := "fnFindIdentifiersListsLeavesInOrder", fn := fun _ => fun
  | [d1, d2] => { results := [.lit (.bool true)], args := [d1, d2] }
  | _ => none }
def fnFindIdentifiersListsLeavesInOrderRow : OpenClaim := { program := "ytiejadamfgbidab", sum := "c492a1a806f55d9fb70cc835a0f26fc84bb55eb5718433d878a0a0021d55dc00", func := "github.com/evanw/esbuild/n011_119.FnFindIdentifiersListsLeavesInOrder", spec := "fnFindIdentifiersListsLeavesInOrder", recurses := true, apart := false }
def FnFindIdentifiersListsLeavesInOrderSaid : Prop := fnFindIdentifiersListsLeavesInOrderRow.holds Try.pinned (OpenSpec.ofChange fnFindIdentifiersListsLeavesInOrderSpec)

/-- ITS FALSE NEIGHBOUR: 'it returns false'. Refute it at one input. -/
def fnFindIdentifiersListsLeavesInOrderWrong : ChangeSpec := { name := "fnFindIdentifiersListsLeavesInOrder", fn := fun _ => fun
  | [d1, d2] => { results := [.lit (.bool false)], args := [d1, d2] }
  | _ => none }
def FnFindIdentifiersListsLeavesInOrderWrongFalsely : Prop := fnFindIdentifiersListsLeavesInOrderRow.holds Try.pinned (OpenSpec.ofChange fnFindIdentifiersListsLeavesInOrderWrong)

/-- 'n011_260.FnForEachIdentifierBindingIgnoresWrapping': WHATEVER THE INPUT: true; the input reads as it did. -/
def fnForEachIdentifierBindingIgnoresWrappingSpec : ChangeSpec := { name := "fnForEachIdentifierBindingIgnoresWrapping", fn := fun _ => fun
  | [d] => { results := [.lit (.bool true)], args := [d] }
  | _ => none }
def fnForEachIdentifierBindingIgnoresWrappingRow : OpenClaim := { program := "ytiejadamfgbidab", sum := "c492a1a806f55d9fb70cc835a0f26fc84bb55eb5718433d878a0a0021d55dc00", func := "github.com/evanw/esbuild/n011_260.FnForEachIdentifierBindingIgnoresWrapping", spec := "fnForEachIdentifierBindingIgnoresWrapping", unfollowed := true, recurses := true, apart := false }
def FnForEachIdentifierBindingIgnoresWrappingSaid : Prop := fnForEachIdentifierBindingIgnoresWrappingRow.holds Try.pinned (OpenSpec.ofChange fnForEachIdentifierBindingIgnoresWrappingSpec)

/-- ITS FALSE NEIGHBOUR: 'it returns false'. Refute it at one input. -/
def fnForEachIdentifierBindingIgnoresWrappingWrong : ChangeSpec := { name := "fnForEachIdentifierBindingIgnoresWrapping", fn := fun _ => fun
  | [d] => { results := [.lit (.bool false)], args := [d] }
  | _ => none }
def FnForEachIdentifierBindingIgnoresWrappingWrongFalsely : Prop := fnForEachIdentifierBindingIgnoresWrappingRow.holds Try.pinned (OpenSpec.ofChange fnForEachIdentifierBindingIgnoresWrappingWrong)

/-- 'n011_15.FnRecursiveSetStrictModeSettles': WHATEVER THE INPUT: true; the input reads as it did. -/
def fnRecursiveSetStrictModeSettlesSpec : ChangeSpec := { name := "fnRecursiveSetStrictModeSettles", fn := fun _ => fun
  | [d1, d2, d3, d4] => { results := [.lit (.bool true)], args := [d1, d2, d3, d4] }
  | _ => none }
def fnRecursiveSetStrictModeSettlesRow : OpenClaim := { program := "ytiejadamfgbidab", sum := "c492a1a806f55d9fb70cc835a0f26fc84bb55eb5718433d878a0a0021d55dc00", func := "github.com/evanw/esbuild/n011_15.FnRecursiveSetStrictModeSettles", spec := "fnRecursiveSetStrictModeSettles", recurses := true, apart := false }
def FnRecursiveSetStrictModeSettlesSaid : Prop := fnRecursiveSetStrictModeSettlesRow.holds Try.pinned (OpenSpec.ofChange fnRecursiveSetStrictModeSettlesSpec)

/-- ITS FALSE NEIGHBOUR: 'it returns false'. Refute it at one input. -/
def fnRecursiveSetStrictModeSettlesWrong : ChangeSpec := { name := "fnRecursiveSetStrictModeSettles", fn := fun _ => fun
  | [d1, d2, d3, d4] => { results := [.lit (.bool false)], args := [d1, d2, d3, d4] }
  | _ => none }
def FnRecursiveSetStrictModeSettlesWrongFalsely : Prop := fnRecursiveSetStrictModeSettlesRow.holds Try.pinned (OpenSpec.ofChange fnRecursiveSetStrictModeSettlesWrong)

/-- 'n011_3.FnEnsureValidIdentifierShapeAndBound': WHATEVER THE INPUT: true; the input reads as it did. -/
def fnEnsureValidIdentifierShapeAndBoundSpec : ChangeSpec := { name := "fnEnsureValidIdentifierShapeAndBound", fn := fun _ => fun
  | [d] => { results := [.lit (.bool true)], args := [d] }
  | _ => none }
def fnEnsureValidIdentifierShapeAndBoundRow : OpenClaim := { program := "ytiejadamfgbidab", sum := "c492a1a806f55d9fb70cc835a0f26fc84bb55eb5718433d878a0a0021d55dc00", func := "github.com/evanw/esbuild/n011_3.FnEnsureValidIdentifierShapeAndBound", spec := "fnEnsureValidIdentifierShapeAndBound", apart := false }
def FnEnsureValidIdentifierShapeAndBoundSaid : Prop := fnEnsureValidIdentifierShapeAndBoundRow.holds Try.pinned (OpenSpec.ofChange fnEnsureValidIdentifierShapeAndBoundSpec)

/-- ITS FALSE NEIGHBOUR: 'it returns false'. Refute it at one input. -/
def fnEnsureValidIdentifierShapeAndBoundWrong : ChangeSpec := { name := "fnEnsureValidIdentifierShapeAndBound", fn := fun _ => fun
  | [d] => { results := [.lit (.bool false)], args := [d] }
  | _ => none }
def FnEnsureValidIdentifierShapeAndBoundWrongFalsely : Prop := fnEnsureValidIdentifierShapeAndBoundRow.holds Try.pinned (OpenSpec.ofChange fnEnsureValidIdentifierShapeAndBoundWrong)

/- THE SECOND FORM. 'bulk': how many values and letters a reading holds, each counted each time it is reached (what is shared counts as often as it is met; a slice's spare places count too). A statement '..UptoSaid' is the law's where the arguments, and the package variables that the reading takes, are together of bulk at most 1048576: NARROWER than '..Said'. Prove '..Said' where nothing that the law and all that it calls make is longer than what came in: it says more and counts as full. Else prove '..UptoSaid'. A law counts once. -/
mutual
def uptoBulk {H : Type} : DataW H → Nat
  | .lit (.string bytes) => bytes.length + 1
  | .lit _ => 1
  | .nil => 1
  | .ptr d => uptoBulk d + 1
  | .slice elems spare => uptoBulkAll elems + uptoBulkAll spare + 1
  | .agg parts => uptoBulkAll parts + 1
  | .iface _ d => uptoBulk d + 1
  | .map entries => uptoBulkEntries entries + 1
  | .held _ => 1
def uptoBulkAll {H : Type} : List (DataW H) → Nat
  | [] => 0
  | d :: r => uptoBulk d + uptoBulkAll r
def uptoBulkEntries {H : Type} : List (Lit × DataW H) → Nat
  | [] => 0
  | x :: r => uptoBulkEntry x + uptoBulkEntries r
def uptoBulkEntry {H : Type} : Lit × DataW H → Nat
  | (.string bytes, d) => bytes.length + uptoBulk d + 1
  | (_, d) => uptoBulk d + 1
 end
def uptoSmall : (H : Type) → List (DataW H) → Bool := fun _ ds => decide (uptoBulkAll ds ≤ 1048576)
def OpenSpec.upto (s : _root_.Go.ChangeSpec) : _root_.Go.OpenSpec := { _root_.Go.OpenSpec.ofChange s with cond := some uptoSmall }

/-- 'n011_152.FnJoinWithLeftAssociativeOpLeavesInputIntact', WHERE WHAT IT READS IS OF BULK AT MOST 1048576: true; the input reads as it did. -/
def fnJoinWithLeftAssociativeOpLeavesInputIntactUptoRow : OpenClaim := { program := "ytiejadamfgbidab", sum := "c492a1a806f55d9fb70cc835a0f26fc84bb55eb5718433d878a0a0021d55dc00", func := "github.com/evanw/esbuild/n011_152.FnJoinWithLeftAssociativeOpLeavesInputIntact", spec := "fnJoinWithLeftAssociativeOpLeavesInputIntact", recurses := true, apart := false, narrowed := true }
def FnJoinWithLeftAssociativeOpLeavesInputIntactUptoSaid : Prop := fnJoinWithLeftAssociativeOpLeavesInputIntactUptoRow.holds Try.pinned (OpenSpec.upto fnJoinWithLeftAssociativeOpLeavesInputIntactSpec)

/-- 'n011_127.FnJoinAllWithCommaSplitAgrees', WHERE WHAT IT READS IS OF BULK AT MOST 1048576: true; the input reads as it did. -/
def fnJoinAllWithCommaSplitAgreesUptoRow : OpenClaim := { program := "ytiejadamfgbidab", sum := "c492a1a806f55d9fb70cc835a0f26fc84bb55eb5718433d878a0a0021d55dc00", func := "github.com/evanw/esbuild/n011_127.FnJoinAllWithCommaSplitAgrees", spec := "fnJoinAllWithCommaSplitAgrees", recurses := true, apart := false, narrowed := true }
def FnJoinAllWithCommaSplitAgreesUptoSaid : Prop := fnJoinAllWithCommaSplitAgreesUptoRow.holds Try.pinned (OpenSpec.upto fnJoinAllWithCommaSplitAgreesSpec)

/-- 'n011_119.FnFindIdentifiersListsLeavesInOrder', WHERE WHAT IT READS IS OF BULK AT MOST 1048576: true; the input reads as it did. -/
def fnFindIdentifiersListsLeavesInOrderUptoRow : OpenClaim := { program := "ytiejadamfgbidab", sum := "c492a1a806f55d9fb70cc835a0f26fc84bb55eb5718433d878a0a0021d55dc00", func := "github.com/evanw/esbuild/n011_119.FnFindIdentifiersListsLeavesInOrder", spec := "fnFindIdentifiersListsLeavesInOrder", recurses := true, apart := false, narrowed := true }
def FnFindIdentifiersListsLeavesInOrderUptoSaid : Prop := fnFindIdentifiersListsLeavesInOrderUptoRow.holds Try.pinned (OpenSpec.upto fnFindIdentifiersListsLeavesInOrderSpec)

/-- 'n011_260.FnForEachIdentifierBindingIgnoresWrapping', WHERE WHAT IT READS IS OF BULK AT MOST 1048576: true; the input reads as it did. -/
def fnForEachIdentifierBindingIgnoresWrappingUptoRow : OpenClaim := { program := "ytiejadamfgbidab", sum := "c492a1a806f55d9fb70cc835a0f26fc84bb55eb5718433d878a0a0021d55dc00", func := "github.com/evanw/esbuild/n011_260.FnForEachIdentifierBindingIgnoresWrapping", spec := "fnForEachIdentifierBindingIgnoresWrapping", unfollowed := true, recurses := true, apart := false, narrowed := true }
def FnForEachIdentifierBindingIgnoresWrappingUptoSaid : Prop := fnForEachIdentifierBindingIgnoresWrappingUptoRow.holds Try.pinned (OpenSpec.upto fnForEachIdentifierBindingIgnoresWrappingSpec)

/-- 'n011_15.FnRecursiveSetStrictModeSettles', WHERE WHAT IT READS IS OF BULK AT MOST 1048576: true; the input reads as it did. -/
def fnRecursiveSetStrictModeSettlesUptoRow : OpenClaim := { program := "ytiejadamfgbidab", sum := "c492a1a806f55d9fb70cc835a0f26fc84bb55eb5718433d878a0a0021d55dc00", func := "github.com/evanw/esbuild/n011_15.FnRecursiveSetStrictModeSettles", spec := "fnRecursiveSetStrictModeSettles", recurses := true, apart := false, narrowed := true }
def FnRecursiveSetStrictModeSettlesUptoSaid : Prop := fnRecursiveSetStrictModeSettlesUptoRow.holds Try.pinned (OpenSpec.upto fnRecursiveSetStrictModeSettlesSpec)

/-- 'n011_3.FnEnsureValidIdentifierShapeAndBound', WHERE WHAT IT READS IS OF BULK AT MOST 1048576: true; the input reads as it did. -/
def fnEnsureValidIdentifierShapeAndBoundUptoRow : OpenClaim := { program := "ytiejadamfgbidab", sum := "c492a1a806f55d9fb70cc835a0f26fc84bb55eb5718433d878a0a0021d55dc00", func := "github.com/evanw/esbuild/n011_3.FnEnsureValidIdentifierShapeAndBound", spec := "fnEnsureValidIdentifierShapeAndBound", apart := false, narrowed := true }
def FnEnsureValidIdentifierShapeAndBoundUptoSaid : Prop := fnEnsureValidIdentifierShapeAndBoundUptoRow.holds Try.pinned (OpenSpec.upto fnEnsureValidIdentifierShapeAndBoundSpec)

end Rows
end Go.Proofs.Ytiejadamfgbidab
