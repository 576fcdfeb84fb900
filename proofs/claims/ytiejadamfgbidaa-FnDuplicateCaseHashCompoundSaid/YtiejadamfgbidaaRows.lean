/-
  No cell of these rows narrows 'for every input' (looked for: loops, veiled, ifaces, maps, wideKeys, modest, calm, conditions, laid).
  DERIVED. THE GIVEN ROWS OF THIS SEAT. 6 by the template 'for every input the law returns true; each argument reads behind the call as it read before'; 0 by the template 'total and deterministic' (their statements: YtiejadamfgbidaaTotals.lean).
  GIVEN WITH THE SEED: the statements are not yours to turn. If you find one false, say at which input.
  Laid BY PROGRAM, IN A SANDBOX (cutbox-rows.mjs): the forced cells as the released guide's own fill.sh prints them over the translation 0f5a1df109b5007e… (all of the seat's roots in one cut). By AI agents, Wed Nov 11 2026. No macro, syntax, notation, axiom, sorry.
-/
import Derived.Test.YtiejadamfgbidaaChecked
import GoSem.Claim
import GoSem.ClaimJoined
import GoSem.ClaimMapViews
import Derived.JoinedTies
import Derived.KernelRfl
namespace Go.Proofs.Ytiejadamfgbidaa
/- THE CELL 'sum', in the pinned program and in every row, IS THE sha256 OF THE DUMP (.gsa) THAT YtiejadamfgbidaaProg.lean LOADS. Nothing in Lean hashes anything: it is a label: what it is worth is what the hold of that sum in a sandbox is worth. -/
noncomputable def Try.pinned : Pinned := { name := "ytiejadamfgbidaa", sum := "0f5a1df109b5007e0c7509090abf0e46076ff67b45951b2457fae086b66d75a0", checked := Try.checked }
namespace Rows
def none {H : Type} : Left H := { results := [], args := [] }

/-- 'n011_46.FnMaybeSimplifyNotLeafTable': WHATEVER THE INPUT: true; the input reads as it did. -/
def fnMaybeSimplifyNotLeafTableSpec : ChangeSpec := { name := "fnMaybeSimplifyNotLeafTable", fn := fun _ => fun
  | [d1, d2, d3, d4, d5, d6, d7, d8] => { results := [.lit (.bool true)], args := [d1, d2, d3, d4, d5, d6, d7, d8] }
  | _ => none }
def fnMaybeSimplifyNotLeafTableRow : OpenClaim := { program := "ytiejadamfgbidaa", sum := "0f5a1df109b5007e0c7509090abf0e46076ff67b45951b2457fae086b66d75a0", func := "github.com/evanw/esbuild/n011_46.FnMaybeSimplifyNotLeafTable", spec := "fnMaybeSimplifyNotLeafTable", recurses := true, apart := false }
def FnMaybeSimplifyNotLeafTableSaid : Prop := fnMaybeSimplifyNotLeafTableRow.holds Try.pinned (OpenSpec.ofChange fnMaybeSimplifyNotLeafTableSpec)

/-- ITS FALSE NEIGHBOUR: 'it returns false'. Refute it at one input. -/
def fnMaybeSimplifyNotLeafTableWrong : ChangeSpec := { name := "fnMaybeSimplifyNotLeafTable", fn := fun _ => fun
  | [d1, d2, d3, d4, d5, d6, d7, d8] => { results := [.lit (.bool false)], args := [d1, d2, d3, d4, d5, d6, d7, d8] }
  | _ => none }
def FnMaybeSimplifyNotLeafTableWrongFalsely : Prop := fnMaybeSimplifyNotLeafTableRow.holds Try.pinned (OpenSpec.ofChange fnMaybeSimplifyNotLeafTableWrong)

/-- 'n011_46.FnAssignStmtValueTypeIsRightSide': WHATEVER THE INPUT: true; the input reads as it did. -/
def fnAssignStmtValueTypeIsRightSideSpec : ChangeSpec := { name := "fnAssignStmtValueTypeIsRightSide", fn := fun _ => fun
  | [d1, d2, d3, d4, d5, d6, d7] => { results := [.lit (.bool true)], args := [d1, d2, d3, d4, d5, d6, d7] }
  | _ => none }
def fnAssignStmtValueTypeIsRightSideRow : OpenClaim := { program := "ytiejadamfgbidaa", sum := "0f5a1df109b5007e0c7509090abf0e46076ff67b45951b2457fae086b66d75a0", func := "github.com/evanw/esbuild/n011_46.FnAssignStmtValueTypeIsRightSide", spec := "fnAssignStmtValueTypeIsRightSide", recurses := true, apart := false }
def FnAssignStmtValueTypeIsRightSideSaid : Prop := fnAssignStmtValueTypeIsRightSideRow.holds Try.pinned (OpenSpec.ofChange fnAssignStmtValueTypeIsRightSideSpec)

/-- ITS FALSE NEIGHBOUR: 'it returns false'. Refute it at one input. -/
def fnAssignStmtValueTypeIsRightSideWrong : ChangeSpec := { name := "fnAssignStmtValueTypeIsRightSide", fn := fun _ => fun
  | [d1, d2, d3, d4, d5, d6, d7] => { results := [.lit (.bool false)], args := [d1, d2, d3, d4, d5, d6, d7] }
  | _ => none }
def FnAssignStmtValueTypeIsRightSideWrongFalsely : Prop := fnAssignStmtValueTypeIsRightSideRow.holds Try.pinned (OpenSpec.ofChange fnAssignStmtValueTypeIsRightSideWrong)

/-- 'n011_109.FnToNullOrUndefinedMatchesClosedForm': WHATEVER THE INPUT: true; the input reads as it did. -/
def fnToNullOrUndefinedMatchesClosedFormSpec : ChangeSpec := { name := "fnToNullOrUndefinedMatchesClosedForm", fn := fun _ => fun
  | [d1, d2, d3, d4] => { results := [.lit (.bool true)], args := [d1, d2, d3, d4] }
  | _ => none }
def fnToNullOrUndefinedMatchesClosedFormRow : OpenClaim := { program := "ytiejadamfgbidaa", sum := "0f5a1df109b5007e0c7509090abf0e46076ff67b45951b2457fae086b66d75a0", func := "github.com/evanw/esbuild/n011_109.FnToNullOrUndefinedMatchesClosedForm", spec := "fnToNullOrUndefinedMatchesClosedForm", recurses := true, apart := false }
def FnToNullOrUndefinedMatchesClosedFormSaid : Prop := fnToNullOrUndefinedMatchesClosedFormRow.holds Try.pinned (OpenSpec.ofChange fnToNullOrUndefinedMatchesClosedFormSpec)

/-- ITS FALSE NEIGHBOUR: 'it returns false'. Refute it at one input. -/
def fnToNullOrUndefinedMatchesClosedFormWrong : ChangeSpec := { name := "fnToNullOrUndefinedMatchesClosedForm", fn := fun _ => fun
  | [d1, d2, d3, d4] => { results := [.lit (.bool false)], args := [d1, d2, d3, d4] }
  | _ => none }
def FnToNullOrUndefinedMatchesClosedFormWrongFalsely : Prop := fnToNullOrUndefinedMatchesClosedFormRow.holds Try.pinned (OpenSpec.ofChange fnToNullOrUndefinedMatchesClosedFormWrong)

/-- 'n011_35.FnAssignChainRightAssociative': WHATEVER THE INPUT: true; the input reads as it did. -/
def fnAssignChainRightAssociativeSpec : ChangeSpec := { name := "fnAssignChainRightAssociative", fn := fun _ => fun
  | [d1, d2, d3, d4] => { results := [.lit (.bool true)], args := [d1, d2, d3, d4] }
  | _ => none }
def fnAssignChainRightAssociativeRow : OpenClaim := { program := "ytiejadamfgbidaa", sum := "0f5a1df109b5007e0c7509090abf0e46076ff67b45951b2457fae086b66d75a0", func := "github.com/evanw/esbuild/n011_35.FnAssignChainRightAssociative", spec := "fnAssignChainRightAssociative", recurses := true, apart := false }
def FnAssignChainRightAssociativeSaid : Prop := fnAssignChainRightAssociativeRow.holds Try.pinned (OpenSpec.ofChange fnAssignChainRightAssociativeSpec)

/-- ITS FALSE NEIGHBOUR: 'it returns false'. Refute it at one input. -/
def fnAssignChainRightAssociativeWrong : ChangeSpec := { name := "fnAssignChainRightAssociative", fn := fun _ => fun
  | [d1, d2, d3, d4] => { results := [.lit (.bool false)], args := [d1, d2, d3, d4] }
  | _ => none }
def FnAssignChainRightAssociativeWrongFalsely : Prop := fnAssignChainRightAssociativeRow.holds Try.pinned (OpenSpec.ofChange fnAssignChainRightAssociativeWrong)

/-- 'n011_224.FnDuplicateCaseEqualsLeafTable': WHATEVER THE INPUT: true; the input reads as it did. -/
def fnDuplicateCaseEqualsLeafTableSpec : ChangeSpec := { name := "fnDuplicateCaseEqualsLeafTable", fn := fun _ => fun
  | [d1, d2, d3, d4, d5, d6, d7, d8, d9, d10, d11, d12] => { results := [.lit (.bool true)], args := [d1, d2, d3, d4, d5, d6, d7, d8, d9, d10, d11, d12] }
  | _ => none }
def fnDuplicateCaseEqualsLeafTableRow : OpenClaim := { program := "ytiejadamfgbidaa", sum := "0f5a1df109b5007e0c7509090abf0e46076ff67b45951b2457fae086b66d75a0", func := "github.com/evanw/esbuild/n011_224.FnDuplicateCaseEqualsLeafTable", spec := "fnDuplicateCaseEqualsLeafTable", recurses := true, apart := false }
def FnDuplicateCaseEqualsLeafTableSaid : Prop := fnDuplicateCaseEqualsLeafTableRow.holds Try.pinned (OpenSpec.ofChange fnDuplicateCaseEqualsLeafTableSpec)

/-- ITS FALSE NEIGHBOUR: 'it returns false'. Refute it at one input. -/
def fnDuplicateCaseEqualsLeafTableWrong : ChangeSpec := { name := "fnDuplicateCaseEqualsLeafTable", fn := fun _ => fun
  | [d1, d2, d3, d4, d5, d6, d7, d8, d9, d10, d11, d12] => { results := [.lit (.bool false)], args := [d1, d2, d3, d4, d5, d6, d7, d8, d9, d10, d11, d12] }
  | _ => none }
def FnDuplicateCaseEqualsLeafTableWrongFalsely : Prop := fnDuplicateCaseEqualsLeafTableRow.holds Try.pinned (OpenSpec.ofChange fnDuplicateCaseEqualsLeafTableWrong)

/-- 'n011_224.FnDuplicateCaseHashCompound': WHATEVER THE INPUT: true; the input reads as it did. -/
def fnDuplicateCaseHashCompoundSpec : ChangeSpec := { name := "fnDuplicateCaseHashCompound", fn := fun _ => fun
  | [d1, d2, d3, d4, d5, d6, d7, d8, d9, d10, d11, d12] => { results := [.lit (.bool true)], args := [d1, d2, d3, d4, d5, d6, d7, d8, d9, d10, d11, d12] }
  | _ => none }
def fnDuplicateCaseHashCompoundRow : OpenClaim := { program := "ytiejadamfgbidaa", sum := "0f5a1df109b5007e0c7509090abf0e46076ff67b45951b2457fae086b66d75a0", func := "github.com/evanw/esbuild/n011_224.FnDuplicateCaseHashCompound", spec := "fnDuplicateCaseHashCompound", inPlace := ["math.Float64bits"], recurses := true, apart := false }
def FnDuplicateCaseHashCompoundSaid : Prop := fnDuplicateCaseHashCompoundRow.holds Try.pinned (OpenSpec.ofChange fnDuplicateCaseHashCompoundSpec)

/-- ITS FALSE NEIGHBOUR: 'it returns false'. Refute it at one input. -/
def fnDuplicateCaseHashCompoundWrong : ChangeSpec := { name := "fnDuplicateCaseHashCompound", fn := fun _ => fun
  | [d1, d2, d3, d4, d5, d6, d7, d8, d9, d10, d11, d12] => { results := [.lit (.bool false)], args := [d1, d2, d3, d4, d5, d6, d7, d8, d9, d10, d11, d12] }
  | _ => none }
def FnDuplicateCaseHashCompoundWrongFalsely : Prop := fnDuplicateCaseHashCompoundRow.holds Try.pinned (OpenSpec.ofChange fnDuplicateCaseHashCompoundWrong)

/- THE SECOND FORM. 'bulk': how many values and letters a reading holds, each counted each time it is reached (what is shared counts as often as it is met; a slice's spare places count too). A statement '..UptoSaid' is the law's where the arguments, and the package variables that the reading takes, are together of bulk at most 1048576: NARROWER than '..Said'. Prove '..Said' where nothing that the law and all that it calls make is longer than what came in: it says more and counts as full. Else prove '..UptoSaid'. A law counts once. -/
mutual
def uptoBulk {H : Type} : DataW H → Nat
  | .lit (.string bytes) => bytes.length + 1
  | .lit _ => 1
  | .nil => 1
  | .ptr d => uptoBulk d + 1
  | .slice elems spare => uptoBulkAll elems + uptoBulkAll spare + 1
  | .agg parts => uptoBulkAll parts + 1
  | .iface _ d => uptoBulk d + 1
  | .map entries => uptoBulkEntries entries + 1
  | .held _ => 1
def uptoBulkAll {H : Type} : List (DataW H) → Nat
  | [] => 0
  | d :: r => uptoBulk d + uptoBulkAll r
def uptoBulkEntries {H : Type} : List (Lit × DataW H) → Nat
  | [] => 0
  | x :: r => uptoBulkEntry x + uptoBulkEntries r
def uptoBulkEntry {H : Type} : Lit × DataW H → Nat
  | (.string bytes, d) => bytes.length + uptoBulk d + 1
  | (_, d) => uptoBulk d + 1
 end
def uptoSmall : (H : Type) → List (DataW H) → Bool := fun _ ds => decide (uptoBulkAll ds ≤ 1048576)
def OpenSpec.upto (s : _root_.Go.ChangeSpec) : _root_.Go.OpenSpec := { _root_.Go.OpenSpec.ofChange s with cond := some uptoSmall }

/-- 'n011_46.FnMaybeSimplifyNotLeafTable', WHERE WHAT IT READS IS OF BULK AT MOST 1048576: true; the input reads as it did. -/
def fnMaybeSimplifyNotLeafTableUptoRow : OpenClaim := { program := "ytiejadamfgbidaa", sum := "0f5a1df109b5007e0c7509090abf0e46076ff67b45951b2457fae086b66d75a0", func := "github.com/evanw/esbuild/n011_46.FnMaybeSimplifyNotLeafTable", spec := "fnMaybeSimplifyNotLeafTable", recurses := true, apart := false, narrowed := true }
def FnMaybeSimplifyNotLeafTableUptoSaid : Prop := fnMaybeSimplifyNotLeafTableUptoRow.holds Try.pinned (OpenSpec.upto fnMaybeSimplifyNotLeafTableSpec)

/-- 'n011_46.FnAssignStmtValueTypeIsRightSide', WHERE WHAT IT READS IS OF BULK AT MOST 1048576: true; the input reads as it did. -/
def fnAssignStmtValueTypeIsRightSideUptoRow : OpenClaim := { program := "ytiejadamfgbidaa", sum := "0f5a1df109b5007e0c7509090abf0e46076ff67b45951b2457fae086b66d75a0", func := "github.com/evanw/esbuild/n011_46.FnAssignStmtValueTypeIsRightSide", spec := "fnAssignStmtValueTypeIsRightSide", recurses := true, apart := false, narrowed := true }
def FnAssignStmtValueTypeIsRightSideUptoSaid : Prop := fnAssignStmtValueTypeIsRightSideUptoRow.holds Try.pinned (OpenSpec.upto fnAssignStmtValueTypeIsRightSideSpec)

/-- 'n011_109.FnToNullOrUndefinedMatchesClosedForm', WHERE WHAT IT READS IS OF BULK AT MOST 1048576: true; the input reads as it did. -/
def fnToNullOrUndefinedMatchesClosedFormUptoRow : OpenClaim := { program := "ytiejadamfgbidaa", sum := "0f5a1df109b5007e0c7509090abf0e46076ff67b45951b2457fae086b66d75a0", func := "github.com/evanw/esbuild/n011_109.FnToNullOrUndefinedMatchesClosedForm", spec := "fnToNullOrUndefinedMatchesClosedForm", recurses := true, apart := false, narrowed := true }
def FnToNullOrUndefinedMatchesClosedFormUptoSaid : Prop := fnToNullOrUndefinedMatchesClosedFormUptoRow.holds Try.pinned (OpenSpec.upto fnToNullOrUndefinedMatchesClosedFormSpec)

/-- 'n011_35.FnAssignChainRightAssociative', WHERE WHAT IT READS IS OF BULK AT MOST 1048576: true; the input reads as it did. -/
def fnAssignChainRightAssociativeUptoRow : OpenClaim := { program := "ytiejadamfgbidaa", sum := "0f5a1df109b5007e0c7509090abf0e46076ff67b45951b2457fae086b66d75a0", func := "github.com/evanw/esbuild/n011_35.FnAssignChainRightAssociative", spec := "fnAssignChainRightAssociative", recurses := true, apart := false, narrowed := true }
def FnAssignChainRightAssociativeUptoSaid : Prop := fnAssignChainRightAssociativeUptoRow.holds Try.pinned (OpenSpec.upto fnAssignChainRightAssociativeSpec)

/-- 'n011_224.FnDuplicateCaseEqualsLeafTable', WHERE WHAT IT READS IS OF BULK AT MOST 1048576: true; the input reads as it did. -/
def fnDuplicateCaseEqualsLeafTableUptoRow : OpenClaim := { program := "ytiejadamfgbidaa", sum := "0f5a1df109b5007e0c7509090abf0e46076ff67b45951b2457fae086b66d75a0", func := "github.com/evanw/esbuild/n011_224.FnDuplicateCaseEqualsLeafTable", spec := "fnDuplicateCaseEqualsLeafTable", recurses := true, apart := false, narrowed := true }
def FnDuplicateCaseEqualsLeafTableUptoSaid : Prop := fnDuplicateCaseEqualsLeafTableUptoRow.holds Try.pinned (OpenSpec.upto fnDuplicateCaseEqualsLeafTableSpec)

/-- 'n011_224.FnDuplicateCaseHashCompound', WHERE WHAT IT READS IS OF BULK AT MOST 1048576: true; the input reads as it did. -/
def fnDuplicateCaseHashCompoundUptoRow : OpenClaim := { program := "ytiejadamfgbidaa", sum := "0f5a1df109b5007e0c7509090abf0e46076ff67b45951b2457fae086b66d75a0", func := "github.com/evanw/esbuild/n011_224.FnDuplicateCaseHashCompound", spec := "fnDuplicateCaseHashCompound", inPlace := ["math.Float64bits"], recurses := true, apart := false, narrowed := true }
def FnDuplicateCaseHashCompoundUptoSaid : Prop := fnDuplicateCaseHashCompoundUptoRow.holds Try.pinned (OpenSpec.upto fnDuplicateCaseHashCompoundSpec)

end Rows
end Go.Proofs.Ytiejadamfgbidaa
