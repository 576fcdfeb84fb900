/-
  No cell of these rows narrows 'for every input' (looked for: loops, veiled, ifaces, maps, wideKeys, modest, calm, conditions, laid).
  DERIVED. THE GIVEN ROWS OF THIS SEAT. 6 by the template 'for every input the law returns true; each argument reads behind the call as it read before'; 0 by the template 'total and deterministic' (their statements: YtciglijanckbpaaTotals.lean).
  GIVEN WITH THE SEED: the statements are not yours to turn. If you find one false, say at which input.
  Laid BY PROGRAM, IN A SANDBOX (cutbox-rows.mjs): the forced cells as the released guide's own fill.sh prints them over the translation dd540172984fcd6d… (all of the seat's roots in one cut). By AI agents, Wed Nov 11 2026. No macro, syntax, notation, axiom, sorry.
-/
import Derived.Test.YtciglijanckbpaaChecked
import GoSem.Claim
import GoSem.ClaimJoined
import GoSem.ClaimMapViews
import Derived.JoinedTies
import Derived.KernelRfl
namespace Go.Proofs.Ytciglijanckbpaa
/- THE CELL 'sum', in the pinned program and in every row, IS THE sha256 OF THE DUMP (.gsa) THAT YtciglijanckbpaaProg.lean LOADS. Nothing in Lean hashes anything: it is a label: what it is worth is what the hold of that sum in a sandbox is worth. -/
noncomputable def Try.pinned : Pinned := { name := "ytciglijanckbpaa", sum := "dd540172984fcd6d0bd7397f3dbb7fe1c09e06f9c805f7223735f639460b8f7a", checked := Try.checked }
namespace Rows
def none {H : Type} : Left H := { results := [], args := [] }

/-- 'n011_103.FnIsDynamicClosedForm': WHATEVER THE INPUT: true; the input reads as it did. -/
def fnIsDynamicClosedFormSpec : ChangeSpec := { name := "fnIsDynamicClosedForm", fn := fun _ => fun
  | [d] => { results := [.lit (.bool true)], args := [d] }
  | _ => none }
def fnIsDynamicClosedFormRow : OpenClaim := { program := "ytciglijanckbpaa", sum := "dd540172984fcd6d0bd7397f3dbb7fe1c09e06f9c805f7223735f639460b8f7a", func := "github.com/evanw/esbuild/n011_103.FnIsDynamicClosedForm", spec := "fnIsDynamicClosedForm", apart := false }
def FnIsDynamicClosedFormSaid : Prop := fnIsDynamicClosedFormRow.holds Try.pinned (OpenSpec.ofChange fnIsDynamicClosedFormSpec)

/-- ITS FALSE NEIGHBOUR: 'it returns false'. Refute it at one input. -/
def fnIsDynamicClosedFormWrong : ChangeSpec := { name := "fnIsDynamicClosedForm", fn := fun _ => fun
  | [d] => { results := [.lit (.bool false)], args := [d] }
  | _ => none }
def FnIsDynamicClosedFormWrongFalsely : Prop := fnIsDynamicClosedFormRow.holds Try.pinned (OpenSpec.ofChange fnIsDynamicClosedFormWrong)

/-- 'n011_205.FnBinaryAssignTargetAgreesWithRightAssociativity': WHATEVER THE INPUT: true; the input reads as it did. -/
def fnBinaryAssignTargetAgreesWithRightAssociativitySpec : ChangeSpec := { name := "fnBinaryAssignTargetAgreesWithRightAssociativity", fn := fun _ => fun
  | [d] => { results := [.lit (.bool true)], args := [d] }
  | _ => none }
def fnBinaryAssignTargetAgreesWithRightAssociativityRow : OpenClaim := { program := "ytciglijanckbpaa", sum := "dd540172984fcd6d0bd7397f3dbb7fe1c09e06f9c805f7223735f639460b8f7a", func := "github.com/evanw/esbuild/n011_205.FnBinaryAssignTargetAgreesWithRightAssociativity", spec := "fnBinaryAssignTargetAgreesWithRightAssociativity", apart := false }
def FnBinaryAssignTargetAgreesWithRightAssociativitySaid : Prop := fnBinaryAssignTargetAgreesWithRightAssociativityRow.holds Try.pinned (OpenSpec.ofChange fnBinaryAssignTargetAgreesWithRightAssociativitySpec)

/-- ITS FALSE NEIGHBOUR: 'it returns false'. Refute it at one input. -/
def fnBinaryAssignTargetAgreesWithRightAssociativityWrong : ChangeSpec := { name := "fnBinaryAssignTargetAgreesWithRightAssociativity", fn := fun _ => fun
  | [d] => { results := [.lit (.bool false)], args := [d] }
  | _ => none }
def FnBinaryAssignTargetAgreesWithRightAssociativityWrongFalsely : Prop := fnBinaryAssignTargetAgreesWithRightAssociativityRow.holds Try.pinned (OpenSpec.ofChange fnBinaryAssignTargetAgreesWithRightAssociativityWrong)

/-- 'n011_103.FnModuleTypeFamiliesPartition': WHATEVER THE INPUT: true; the input reads as it did. -/
def fnModuleTypeFamiliesPartitionSpec : ChangeSpec := { name := "fnModuleTypeFamiliesPartition", fn := fun _ => fun
  | [d] => { results := [.lit (.bool true)], args := [d] }
  | _ => none }
def fnModuleTypeFamiliesPartitionRow : OpenClaim := { program := "ytciglijanckbpaa", sum := "dd540172984fcd6d0bd7397f3dbb7fe1c09e06f9c805f7223735f639460b8f7a", func := "github.com/evanw/esbuild/n011_103.FnModuleTypeFamiliesPartition", spec := "fnModuleTypeFamiliesPartition", apart := false }
def FnModuleTypeFamiliesPartitionSaid : Prop := fnModuleTypeFamiliesPartitionRow.holds Try.pinned (OpenSpec.ofChange fnModuleTypeFamiliesPartitionSpec)

/-- ITS FALSE NEIGHBOUR: 'it returns false'. Refute it at one input. -/
def fnModuleTypeFamiliesPartitionWrong : ChangeSpec := { name := "fnModuleTypeFamiliesPartition", fn := fun _ => fun
  | [d] => { results := [.lit (.bool false)], args := [d] }
  | _ => none }
def FnModuleTypeFamiliesPartitionWrongFalsely : Prop := fnModuleTypeFamiliesPartitionRow.holds Try.pinned (OpenSpec.ofChange fnModuleTypeFamiliesPartitionWrong)

/-- 'n011_143.FnIsPrefixDownwardClosed': WHATEVER THE INPUT: true; the input reads as it did. -/
def fnIsPrefixDownwardClosedSpec : ChangeSpec := { name := "fnIsPrefixDownwardClosed", fn := fun _ => fun
  | [d1, d2] => { results := [.lit (.bool true)], args := [d1, d2] }
  | _ => none }
def fnIsPrefixDownwardClosedRow : OpenClaim := { program := "ytciglijanckbpaa", sum := "dd540172984fcd6d0bd7397f3dbb7fe1c09e06f9c805f7223735f639460b8f7a", func := "github.com/evanw/esbuild/n011_143.FnIsPrefixDownwardClosed", spec := "fnIsPrefixDownwardClosed", apart := false }
def FnIsPrefixDownwardClosedSaid : Prop := fnIsPrefixDownwardClosedRow.holds Try.pinned (OpenSpec.ofChange fnIsPrefixDownwardClosedSpec)

/-- ITS FALSE NEIGHBOUR: 'it returns false'. Refute it at one input. -/
def fnIsPrefixDownwardClosedWrong : ChangeSpec := { name := "fnIsPrefixDownwardClosed", fn := fun _ => fun
  | [d1, d2] => { results := [.lit (.bool false)], args := [d1, d2] }
  | _ => none }
def FnIsPrefixDownwardClosedWrongFalsely : Prop := fnIsPrefixDownwardClosedRow.holds Try.pinned (OpenSpec.ofChange fnIsPrefixDownwardClosedWrong)

/-- 'n011_15.FnIsUsingMonotone': WHATEVER THE INPUT: true; the input reads as it did. -/
def fnIsUsingMonotoneSpec : ChangeSpec := { name := "fnIsUsingMonotone", fn := fun _ => fun
  | [d1, d2] => { results := [.lit (.bool true)], args := [d1, d2] }
  | _ => none }
def fnIsUsingMonotoneRow : OpenClaim := { program := "ytciglijanckbpaa", sum := "dd540172984fcd6d0bd7397f3dbb7fe1c09e06f9c805f7223735f639460b8f7a", func := "github.com/evanw/esbuild/n011_15.FnIsUsingMonotone", spec := "fnIsUsingMonotone", apart := false }
def FnIsUsingMonotoneSaid : Prop := fnIsUsingMonotoneRow.holds Try.pinned (OpenSpec.ofChange fnIsUsingMonotoneSpec)

/-- ITS FALSE NEIGHBOUR: 'it returns false'. Refute it at one input. -/
def fnIsUsingMonotoneWrong : ChangeSpec := { name := "fnIsUsingMonotone", fn := fun _ => fun
  | [d1, d2] => { results := [.lit (.bool false)], args := [d1, d2] }
  | _ => none }
def FnIsUsingMonotoneWrongFalsely : Prop := fnIsUsingMonotoneRow.holds Try.pinned (OpenSpec.ofChange fnIsUsingMonotoneWrong)

/-- 'n011_205.FnIsMethodDefinitionContiguous': WHATEVER THE INPUT: true; the input reads as it did. -/
def fnIsMethodDefinitionContiguousSpec : ChangeSpec := { name := "fnIsMethodDefinitionContiguous", fn := fun _ => fun
  | [d1, d2, d3] => { results := [.lit (.bool true)], args := [d1, d2, d3] }
  | _ => none }
def fnIsMethodDefinitionContiguousRow : OpenClaim := { program := "ytciglijanckbpaa", sum := "dd540172984fcd6d0bd7397f3dbb7fe1c09e06f9c805f7223735f639460b8f7a", func := "github.com/evanw/esbuild/n011_205.FnIsMethodDefinitionContiguous", spec := "fnIsMethodDefinitionContiguous", apart := false }
def FnIsMethodDefinitionContiguousSaid : Prop := fnIsMethodDefinitionContiguousRow.holds Try.pinned (OpenSpec.ofChange fnIsMethodDefinitionContiguousSpec)

/-- ITS FALSE NEIGHBOUR: 'it returns false'. Refute it at one input. -/
def fnIsMethodDefinitionContiguousWrong : ChangeSpec := { name := "fnIsMethodDefinitionContiguous", fn := fun _ => fun
  | [d1, d2, d3] => { results := [.lit (.bool false)], args := [d1, d2, d3] }
  | _ => none }
def FnIsMethodDefinitionContiguousWrongFalsely : Prop := fnIsMethodDefinitionContiguousRow.holds Try.pinned (OpenSpec.ofChange fnIsMethodDefinitionContiguousWrong)

/- THE SECOND FORM. 'bulk': how many values and letters a reading holds, each counted each time it is reached (what is shared counts as often as it is met; a slice's spare places count too). A statement '..UptoSaid' is the law's where the arguments, and the package variables that the reading takes, are together of bulk at most 1048576: NARROWER than '..Said'. Prove '..Said' where nothing that the law and all that it calls make is longer than what came in: it says more and counts as full. Else prove '..UptoSaid'. A law counts once. -/
mutual
def uptoBulk {H : Type} : DataW H → Nat
  | .lit (.string bytes) => bytes.length + 1
  | .lit _ => 1
  | .nil => 1
  | .ptr d => uptoBulk d + 1
  | .slice elems spare => uptoBulkAll elems + uptoBulkAll spare + 1
  | .agg parts => uptoBulkAll parts + 1
  | .iface _ d => uptoBulk d + 1
  | .map entries => uptoBulkEntries entries + 1
  | .held _ => 1
def uptoBulkAll {H : Type} : List (DataW H) → Nat
  | [] => 0
  | d :: r => uptoBulk d + uptoBulkAll r
def uptoBulkEntries {H : Type} : List (Lit × DataW H) → Nat
  | [] => 0
  | x :: r => uptoBulkEntry x + uptoBulkEntries r
def uptoBulkEntry {H : Type} : Lit × DataW H → Nat
  | (.string bytes, d) => bytes.length + uptoBulk d + 1
  | (_, d) => uptoBulk d + 1
 end
def uptoSmall : (H : Type) → List (DataW H) → Bool := fun _ ds => decide (uptoBulkAll ds ≤ 1048576)
def OpenSpec.upto (s : _root_.Go.ChangeSpec) : _root_.Go.OpenSpec := { _root_.Go.OpenSpec.ofChange s with cond := some uptoSmall }

/-- 'n011_103.FnIsDynamicClosedForm', WHERE WHAT IT READS IS OF BULK AT MOST 1048576: true; the input reads as it did. -/
def fnIsDynamicClosedFormUptoRow : OpenClaim := { program := "ytciglijanckbpaa", sum := "dd540172984fcd6d0bd7397f3dbb7fe1c09e06f9c805f7223735f639460b8f7a", func := "github.com/evanw/esbuild/n011_103.FnIsDynamicClosedForm", spec := "fnIsDynamicClosedForm", apart := false, narrowed := true }
def FnIsDynamicClosedFormUptoSaid : Prop := fnIsDynamicClosedFormUptoRow.holds Try.pinned (OpenSpec.upto fnIsDynamicClosedFormSpec)

/-- 'n011_205.FnBinaryAssignTargetAgreesWithRightAssociativity', WHERE WHAT IT READS IS OF BULK AT MOST 1048576: true; the input reads as it did. -/
def fnBinaryAssignTargetAgreesWithRightAssociativityUptoRow : OpenClaim := { program := "ytciglijanckbpaa", sum := "dd540172984fcd6d0bd7397f3dbb7fe1c09e06f9c805f7223735f639460b8f7a", func := "github.com/evanw/esbuild/n011_205.FnBinaryAssignTargetAgreesWithRightAssociativity", spec := "fnBinaryAssignTargetAgreesWithRightAssociativity", apart := false, narrowed := true }
def FnBinaryAssignTargetAgreesWithRightAssociativityUptoSaid : Prop := fnBinaryAssignTargetAgreesWithRightAssociativityUptoRow.holds Try.pinned (OpenSpec.upto fnBinaryAssignTargetAgreesWithRightAssociativitySpec)

/-- 'n011_103.FnModuleTypeFamiliesPartition', WHERE WHAT IT READS IS OF BULK AT MOST 1048576: true; the input reads as it did. -/
def fnModuleTypeFamiliesPartitionUptoRow : OpenClaim := { program := "ytciglijanckbpaa", sum := "dd540172984fcd6d0bd7397f3dbb7fe1c09e06f9c805f7223735f639460b8f7a", func := "github.com/evanw/esbuild/n011_103.FnModuleTypeFamiliesPartition", spec := "fnModuleTypeFamiliesPartition", apart := false, narrowed := true }
def FnModuleTypeFamiliesPartitionUptoSaid : Prop := fnModuleTypeFamiliesPartitionUptoRow.holds Try.pinned (OpenSpec.upto fnModuleTypeFamiliesPartitionSpec)

/-- 'n011_143.FnIsPrefixDownwardClosed', WHERE WHAT IT READS IS OF BULK AT MOST 1048576: true; the input reads as it did. -/
def fnIsPrefixDownwardClosedUptoRow : OpenClaim := { program := "ytciglijanckbpaa", sum := "dd540172984fcd6d0bd7397f3dbb7fe1c09e06f9c805f7223735f639460b8f7a", func := "github.com/evanw/esbuild/n011_143.FnIsPrefixDownwardClosed", spec := "fnIsPrefixDownwardClosed", apart := false, narrowed := true }
def FnIsPrefixDownwardClosedUptoSaid : Prop := fnIsPrefixDownwardClosedUptoRow.holds Try.pinned (OpenSpec.upto fnIsPrefixDownwardClosedSpec)

/-- 'n011_15.FnIsUsingMonotone', WHERE WHAT IT READS IS OF BULK AT MOST 1048576: true; the input reads as it did. -/
def fnIsUsingMonotoneUptoRow : OpenClaim := { program := "ytciglijanckbpaa", sum := "dd540172984fcd6d0bd7397f3dbb7fe1c09e06f9c805f7223735f639460b8f7a", func := "github.com/evanw/esbuild/n011_15.FnIsUsingMonotone", spec := "fnIsUsingMonotone", apart := false, narrowed := true }
def FnIsUsingMonotoneUptoSaid : Prop := fnIsUsingMonotoneUptoRow.holds Try.pinned (OpenSpec.upto fnIsUsingMonotoneSpec)

/-- 'n011_205.FnIsMethodDefinitionContiguous', WHERE WHAT IT READS IS OF BULK AT MOST 1048576: true; the input reads as it did. -/
def fnIsMethodDefinitionContiguousUptoRow : OpenClaim := { program := "ytciglijanckbpaa", sum := "dd540172984fcd6d0bd7397f3dbb7fe1c09e06f9c805f7223735f639460b8f7a", func := "github.com/evanw/esbuild/n011_205.FnIsMethodDefinitionContiguous", spec := "fnIsMethodDefinitionContiguous", apart := false, narrowed := true }
def FnIsMethodDefinitionContiguousUptoSaid : Prop := fnIsMethodDefinitionContiguousUptoRow.holds Try.pinned (OpenSpec.upto fnIsMethodDefinitionContiguousSpec)

end Rows
end Go.Proofs.Ytciglijanckbpaa
