/-
  No cell of these rows narrows 'for every input' (looked for: loops, veiled, ifaces, maps, wideKeys, modest, calm, conditions, laid).
  DERIVED. THE GIVEN ROWS OF THIS SEAT. 6 by the template 'for every input the law returns true; each argument reads behind the call as it read before'; 0 by the template 'total and deterministic' (their statements: YtfkamkbkpnnokabTotals.lean).
  GIVEN WITH THE SEED: the statements are not yours to turn. If you find one false, say at which input.
  Laid BY PROGRAM, IN A SANDBOX (cutbox-rows.mjs): the forced cells as the released guide's own fill.sh prints them over the translation 6bfa34964147db4f… (all of the seat's roots in one cut). By AI agents, Wed Nov 11 2026. No macro, syntax, notation, axiom, sorry.
-/
import Derived.Test.YtfkamkbkpnnokabChecked
import GoSem.Claim
import GoSem.ClaimJoined
import GoSem.ClaimMapViews
import Derived.JoinedTies
import Derived.KernelRfl
namespace Go.Proofs.Ytfkamkbkpnnokab
/- THE CELL 'sum', in the pinned program and in every row, IS THE sha256 OF THE DUMP (.gsa) THAT YtfkamkbkpnnokabProg.lean LOADS. Nothing in Lean hashes anything: it is a label: what it is worth is what the hold of that sum in a sandbox is worth. -/
noncomputable def Try.pinned : Pinned := { name := "ytfkamkbkpnnokab", sum := "6bfa34964147db4f2cbfb0247ad849412b1e9590523429275acaf11f2ce11eba", checked := Try.checked }
namespace Rows
def none {H : Type} : Left H := { results := [], args := [] }

/-- 'n011_35.FnIsPropertyAccessAgreesWithSymbolAndChain': WHATEVER THE INPUT: true; the input reads as it did. -/
def fnIsPropertyAccessAgreesWithSymbolAndChainSpec : ChangeSpec := { name := "fnIsPropertyAccessAgreesWithSymbolAndChain", fn := fun _ => fun
  | [d1, d2, d3, d4, d5] => { results := [.lit (.bool true)], args := [d1, d2, d3, d4, d5] }
  | _ => none }
def fnIsPropertyAccessAgreesWithSymbolAndChainRow : OpenClaim := { program := "ytfkamkbkpnnokab", sum := "6bfa34964147db4f2cbfb0247ad849412b1e9590523429275acaf11f2ce11eba", func := "github.com/evanw/esbuild/n011_35.FnIsPropertyAccessAgreesWithSymbolAndChain", spec := "fnIsPropertyAccessAgreesWithSymbolAndChain", apart := false }
def FnIsPropertyAccessAgreesWithSymbolAndChainSaid : Prop := fnIsPropertyAccessAgreesWithSymbolAndChainRow.holds Try.pinned (OpenSpec.ofChange fnIsPropertyAccessAgreesWithSymbolAndChainSpec)

/-- ITS FALSE NEIGHBOUR: 'it returns false'. Refute it at one input. -/
def fnIsPropertyAccessAgreesWithSymbolAndChainWrong : ChangeSpec := { name := "fnIsPropertyAccessAgreesWithSymbolAndChain", fn := fun _ => fun
  | [d1, d2, d3, d4, d5] => { results := [.lit (.bool false)], args := [d1, d2, d3, d4, d5] }
  | _ => none }
def FnIsPropertyAccessAgreesWithSymbolAndChainWrongFalsely : Prop := fnIsPropertyAccessAgreesWithSymbolAndChainRow.holds Try.pinned (OpenSpec.ofChange fnIsPropertyAccessAgreesWithSymbolAndChainWrong)

/-- 'n011_37.FnSymbolInstanceIsPropertyAccess': WHATEVER THE INPUT: true; the input reads as it did. -/
def fnSymbolInstanceIsPropertyAccessSpec : ChangeSpec := { name := "fnSymbolInstanceIsPropertyAccess", fn := fun _ => fun
  | [d] => { results := [.lit (.bool true)], args := [d] }
  | _ => none }
def fnSymbolInstanceIsPropertyAccessRow : OpenClaim := { program := "ytfkamkbkpnnokab", sum := "6bfa34964147db4f2cbfb0247ad849412b1e9590523429275acaf11f2ce11eba", func := "github.com/evanw/esbuild/n011_37.FnSymbolInstanceIsPropertyAccess", spec := "fnSymbolInstanceIsPropertyAccess", apart := false }
def FnSymbolInstanceIsPropertyAccessSaid : Prop := fnSymbolInstanceIsPropertyAccessRow.holds Try.pinned (OpenSpec.ofChange fnSymbolInstanceIsPropertyAccessSpec)

/-- ITS FALSE NEIGHBOUR: 'it returns false'. Refute it at one input. -/
def fnSymbolInstanceIsPropertyAccessWrong : ChangeSpec := { name := "fnSymbolInstanceIsPropertyAccess", fn := fun _ => fun
  | [d] => { results := [.lit (.bool false)], args := [d] }
  | _ => none }
def FnSymbolInstanceIsPropertyAccessWrongFalsely : Prop := fnSymbolInstanceIsPropertyAccessRow.holds Try.pinned (OpenSpec.ofChange fnSymbolInstanceIsPropertyAccessWrong)

/-- 'n011_47.FnExtractStringValueChainSpec': WHATEVER THE INPUT: true; the input reads as it did. -/
def fnExtractStringValueChainSpecSpec : ChangeSpec := { name := "fnExtractStringValueChainSpec", fn := fun _ => fun
  | [d1, d2, d3, d4] => { results := [.lit (.bool true)], args := [d1, d2, d3, d4] }
  | _ => none }
def fnExtractStringValueChainSpecRow : OpenClaim := { program := "ytfkamkbkpnnokab", sum := "6bfa34964147db4f2cbfb0247ad849412b1e9590523429275acaf11f2ce11eba", func := "github.com/evanw/esbuild/n011_47.FnExtractStringValueChainSpec", spec := "fnExtractStringValueChainSpec", recurses := true, apart := false }
def FnExtractStringValueChainSpecSaid : Prop := fnExtractStringValueChainSpecRow.holds Try.pinned (OpenSpec.ofChange fnExtractStringValueChainSpecSpec)

/-- ITS FALSE NEIGHBOUR: 'it returns false'. Refute it at one input. -/
def fnExtractStringValueChainSpecWrong : ChangeSpec := { name := "fnExtractStringValueChainSpec", fn := fun _ => fun
  | [d1, d2, d3, d4] => { results := [.lit (.bool false)], args := [d1, d2, d3, d4] }
  | _ => none }
def FnExtractStringValueChainSpecWrongFalsely : Prop := fnExtractStringValueChainSpecRow.holds Try.pinned (OpenSpec.ofChange fnExtractStringValueChainSpecWrong)

/-- 'n011_298.FnExtractStringValuesExact': WHATEVER THE INPUT: true; the input reads as it did. -/
def fnExtractStringValuesExactSpec : ChangeSpec := { name := "fnExtractStringValuesExact", fn := fun _ => fun
  | [d1, d2, d3, d4, d5, d6, d7, d8] => { results := [.lit (.bool true)], args := [d1, d2, d3, d4, d5, d6, d7, d8] }
  | _ => none }
def fnExtractStringValuesExactRow : OpenClaim := { program := "ytfkamkbkpnnokab", sum := "6bfa34964147db4f2cbfb0247ad849412b1e9590523429275acaf11f2ce11eba", func := "github.com/evanw/esbuild/n011_298.FnExtractStringValuesExact", spec := "fnExtractStringValuesExact", recurses := true, apart := false }
def FnExtractStringValuesExactSaid : Prop := fnExtractStringValuesExactRow.holds Try.pinned (OpenSpec.ofChange fnExtractStringValuesExactSpec)

/-- ITS FALSE NEIGHBOUR: 'it returns false'. Refute it at one input. -/
def fnExtractStringValuesExactWrong : ChangeSpec := { name := "fnExtractStringValuesExact", fn := fun _ => fun
  | [d1, d2, d3, d4, d5, d6, d7, d8] => { results := [.lit (.bool false)], args := [d1, d2, d3, d4, d5, d6, d7, d8] }
  | _ => none }
def FnExtractStringValuesExactWrongFalsely : Prop := fnExtractStringValuesExactRow.holds Try.pinned (OpenSpec.ofChange fnExtractStringValuesExactWrong)

/-- 'n011_107.FnIsUnsightlyPrimitiveIgnoresPayload': WHATEVER THE INPUT: true; the input reads as it did. -/
def fnIsUnsightlyPrimitiveIgnoresPayloadSpec : ChangeSpec := { name := "fnIsUnsightlyPrimitiveIgnoresPayload", fn := fun _ => fun
  | [d1, d2, d3, d4, d5] => { results := [.lit (.bool true)], args := [d1, d2, d3, d4, d5] }
  | _ => none }
def fnIsUnsightlyPrimitiveIgnoresPayloadRow : OpenClaim := { program := "ytfkamkbkpnnokab", sum := "6bfa34964147db4f2cbfb0247ad849412b1e9590523429275acaf11f2ce11eba", func := "github.com/evanw/esbuild/n011_107.FnIsUnsightlyPrimitiveIgnoresPayload", spec := "fnIsUnsightlyPrimitiveIgnoresPayload", apart := false }
def FnIsUnsightlyPrimitiveIgnoresPayloadSaid : Prop := fnIsUnsightlyPrimitiveIgnoresPayloadRow.holds Try.pinned (OpenSpec.ofChange fnIsUnsightlyPrimitiveIgnoresPayloadSpec)

/-- ITS FALSE NEIGHBOUR: 'it returns false'. Refute it at one input. -/
def fnIsUnsightlyPrimitiveIgnoresPayloadWrong : ChangeSpec := { name := "fnIsUnsightlyPrimitiveIgnoresPayload", fn := fun _ => fun
  | [d1, d2, d3, d4, d5] => { results := [.lit (.bool false)], args := [d1, d2, d3, d4, d5] }
  | _ => none }
def FnIsUnsightlyPrimitiveIgnoresPayloadWrongFalsely : Prop := fnIsUnsightlyPrimitiveIgnoresPayloadRow.holds Try.pinned (OpenSpec.ofChange fnIsUnsightlyPrimitiveIgnoresPayloadWrong)

/-- 'n011_152.FnTypeofWithoutSideEffectsTable': WHATEVER THE INPUT: true; the input reads as it did. -/
def fnTypeofWithoutSideEffectsTableSpec : ChangeSpec := { name := "fnTypeofWithoutSideEffectsTable", fn := fun _ => fun
  | [d1, d2] => { results := [.lit (.bool true)], args := [d1, d2] }
  | _ => none }
def fnTypeofWithoutSideEffectsTableRow : OpenClaim := { program := "ytfkamkbkpnnokab", sum := "6bfa34964147db4f2cbfb0247ad849412b1e9590523429275acaf11f2ce11eba", func := "github.com/evanw/esbuild/n011_152.FnTypeofWithoutSideEffectsTable", spec := "fnTypeofWithoutSideEffectsTable", recurses := true, apart := false }
def FnTypeofWithoutSideEffectsTableSaid : Prop := fnTypeofWithoutSideEffectsTableRow.holds Try.pinned (OpenSpec.ofChange fnTypeofWithoutSideEffectsTableSpec)

/-- ITS FALSE NEIGHBOUR: 'it returns false'. Refute it at one input. -/
def fnTypeofWithoutSideEffectsTableWrong : ChangeSpec := { name := "fnTypeofWithoutSideEffectsTable", fn := fun _ => fun
  | [d1, d2] => { results := [.lit (.bool false)], args := [d1, d2] }
  | _ => none }
def FnTypeofWithoutSideEffectsTableWrongFalsely : Prop := fnTypeofWithoutSideEffectsTableRow.holds Try.pinned (OpenSpec.ofChange fnTypeofWithoutSideEffectsTableWrong)

/- THE SECOND FORM. 'bulk': how many values and letters a reading holds, each counted each time it is reached (what is shared counts as often as it is met; a slice's spare places count too). A statement '..UptoSaid' is the law's where the arguments, and the package variables that the reading takes, are together of bulk at most 1048576: NARROWER than '..Said'. Prove '..Said' where nothing that the law and all that it calls make is longer than what came in: it says more and counts as full. Else prove '..UptoSaid'. A law counts once. -/
mutual
def uptoBulk {H : Type} : DataW H → Nat
  | .lit (.string bytes) => bytes.length + 1
  | .lit _ => 1
  | .nil => 1
  | .ptr d => uptoBulk d + 1
  | .slice elems spare => uptoBulkAll elems + uptoBulkAll spare + 1
  | .agg parts => uptoBulkAll parts + 1
  | .iface _ d => uptoBulk d + 1
  | .map entries => uptoBulkEntries entries + 1
  | .held _ => 1
def uptoBulkAll {H : Type} : List (DataW H) → Nat
  | [] => 0
  | d :: r => uptoBulk d + uptoBulkAll r
def uptoBulkEntries {H : Type} : List (Lit × DataW H) → Nat
  | [] => 0
  | x :: r => uptoBulkEntry x + uptoBulkEntries r
def uptoBulkEntry {H : Type} : Lit × DataW H → Nat
  | (.string bytes, d) => bytes.length + uptoBulk d + 1
  | (_, d) => uptoBulk d + 1
 end
def uptoSmall : (H : Type) → List (DataW H) → Bool := fun _ ds => decide (uptoBulkAll ds ≤ 1048576)
def OpenSpec.upto (s : _root_.Go.ChangeSpec) : _root_.Go.OpenSpec := { _root_.Go.OpenSpec.ofChange s with cond := some uptoSmall }

/-- 'n011_35.FnIsPropertyAccessAgreesWithSymbolAndChain', WHERE WHAT IT READS IS OF BULK AT MOST 1048576: true; the input reads as it did. -/
def fnIsPropertyAccessAgreesWithSymbolAndChainUptoRow : OpenClaim := { program := "ytfkamkbkpnnokab", sum := "6bfa34964147db4f2cbfb0247ad849412b1e9590523429275acaf11f2ce11eba", func := "github.com/evanw/esbuild/n011_35.FnIsPropertyAccessAgreesWithSymbolAndChain", spec := "fnIsPropertyAccessAgreesWithSymbolAndChain", apart := false, narrowed := true }
def FnIsPropertyAccessAgreesWithSymbolAndChainUptoSaid : Prop := fnIsPropertyAccessAgreesWithSymbolAndChainUptoRow.holds Try.pinned (OpenSpec.upto fnIsPropertyAccessAgreesWithSymbolAndChainSpec)

/-- 'n011_37.FnSymbolInstanceIsPropertyAccess', WHERE WHAT IT READS IS OF BULK AT MOST 1048576: true; the input reads as it did. -/
def fnSymbolInstanceIsPropertyAccessUptoRow : OpenClaim := { program := "ytfkamkbkpnnokab", sum := "6bfa34964147db4f2cbfb0247ad849412b1e9590523429275acaf11f2ce11eba", func := "github.com/evanw/esbuild/n011_37.FnSymbolInstanceIsPropertyAccess", spec := "fnSymbolInstanceIsPropertyAccess", apart := false, narrowed := true }
def FnSymbolInstanceIsPropertyAccessUptoSaid : Prop := fnSymbolInstanceIsPropertyAccessUptoRow.holds Try.pinned (OpenSpec.upto fnSymbolInstanceIsPropertyAccessSpec)

/-- 'n011_47.FnExtractStringValueChainSpec', WHERE WHAT IT READS IS OF BULK AT MOST 1048576: true; the input reads as it did. -/
def fnExtractStringValueChainSpecUptoRow : OpenClaim := { program := "ytfkamkbkpnnokab", sum := "6bfa34964147db4f2cbfb0247ad849412b1e9590523429275acaf11f2ce11eba", func := "github.com/evanw/esbuild/n011_47.FnExtractStringValueChainSpec", spec := "fnExtractStringValueChainSpec", recurses := true, apart := false, narrowed := true }
def FnExtractStringValueChainSpecUptoSaid : Prop := fnExtractStringValueChainSpecUptoRow.holds Try.pinned (OpenSpec.upto fnExtractStringValueChainSpecSpec)

/-- 'n011_298.FnExtractStringValuesExact', WHERE WHAT IT READS IS OF BULK AT MOST 1048576: true; the input reads as it did. -/
def fnExtractStringValuesExactUptoRow : OpenClaim := { program := "ytfkamkbkpnnokab", sum := "6bfa34964147db4f2cbfb0247ad849412b1e9590523429275acaf11f2ce11eba", func := "github.com/evanw/esbuild/n011_298.FnExtractStringValuesExact", spec := "fnExtractStringValuesExact", recurses := true, apart := false, narrowed := true }
def FnExtractStringValuesExactUptoSaid : Prop := fnExtractStringValuesExactUptoRow.holds Try.pinned (OpenSpec.upto fnExtractStringValuesExactSpec)

/-- 'n011_107.FnIsUnsightlyPrimitiveIgnoresPayload', WHERE WHAT IT READS IS OF BULK AT MOST 1048576: true; the input reads as it did. -/
def fnIsUnsightlyPrimitiveIgnoresPayloadUptoRow : OpenClaim := { program := "ytfkamkbkpnnokab", sum := "6bfa34964147db4f2cbfb0247ad849412b1e9590523429275acaf11f2ce11eba", func := "github.com/evanw/esbuild/n011_107.FnIsUnsightlyPrimitiveIgnoresPayload", spec := "fnIsUnsightlyPrimitiveIgnoresPayload", apart := false, narrowed := true }
def FnIsUnsightlyPrimitiveIgnoresPayloadUptoSaid : Prop := fnIsUnsightlyPrimitiveIgnoresPayloadUptoRow.holds Try.pinned (OpenSpec.upto fnIsUnsightlyPrimitiveIgnoresPayloadSpec)

/-- 'n011_152.FnTypeofWithoutSideEffectsTable', WHERE WHAT IT READS IS OF BULK AT MOST 1048576: true; the input reads as it did. -/
def fnTypeofWithoutSideEffectsTableUptoRow : OpenClaim := { program := "ytfkamkbkpnnokab", sum := "6bfa34964147db4f2cbfb0247ad849412b1e9590523429275acaf11f2ce11eba", func := "github.com/evanw/esbuild/n011_152.FnTypeofWithoutSideEffectsTable", spec := "fnTypeofWithoutSideEffectsTable", recurses := true, apart := false, narrowed := true }
def FnTypeofWithoutSideEffectsTableUptoSaid : Prop := fnTypeofWithoutSideEffectsTableUptoRow.holds Try.pinned (OpenSpec.upto fnTypeofWithoutSideEffectsTableSpec)

end Rows
end Go.Proofs.Ytfkamkbkpnnokab
