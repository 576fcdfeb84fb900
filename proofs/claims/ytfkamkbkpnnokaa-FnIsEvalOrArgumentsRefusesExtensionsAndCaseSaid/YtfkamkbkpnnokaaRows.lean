/-
  No cell of these rows narrows 'for every input' (looked for: loops, veiled, ifaces, maps, wideKeys, modest, calm, conditions, laid).
  DERIVED. THE GIVEN ROWS OF THIS SEAT. 5 by the template 'for every input the law returns true; each argument reads behind the call as it read before'; 0 by the template 'total and deterministic' (their statements: YtfkamkbkpnnokaaTotals.lean).
  GIVEN WITH THE SEED: the statements are not yours to turn. If you find one false, say at which input.
  Laid BY PROGRAM, IN A SANDBOX (cutbox-rows.mjs): the forced cells as the released guide's own fill.sh prints them over the translation 38b08ac6040ffd6c… (all of the seat's roots in one cut). By AI agents, Wed Nov 11 2026. No macro, syntax, notation, axiom, sorry.
-/
import Derived.Test.YtfkamkbkpnnokaaChecked
import GoSem.Claim
import GoSem.ClaimJoined
import GoSem.ClaimMapViews
import Derived.JoinedTies
import Derived.KernelRfl
namespace Go.Proofs.Ytfkamkbkpnnokaa
/- THE CELL 'sum', in the pinned program and in every row, IS THE sha256 OF THE DUMP (.gsa) THAT YtfkamkbkpnnokaaProg.lean LOADS. Nothing in Lean hashes anything: it is a label: what it is worth is what the hold of that sum in a sandbox is worth. -/
noncomputable def Try.pinned : Pinned := { name := "ytfkamkbkpnnokaa", sum := "38b08ac6040ffd6c90d620d82d7ce4e45d4bdb0dc28fa29a0b61c3b1b6d282e7", checked := Try.checked }
namespace Rows
def none {H : Type} : Left H := { results := [], args := [] }

/-- 'n011_90.FnCheckEqualityBigIntSymmetricReflexive': WHATEVER THE INPUT: true; the input reads as it did. -/
def fnCheckEqualityBigIntSymmetricReflexiveSpec : ChangeSpec := { name := "fnCheckEqualityBigIntSymmetricReflexive", fn := fun _ => fun
  | [d1, d2] => { results := [.lit (.bool true)], args := [d1, d2] }
  | _ => none }
def fnCheckEqualityBigIntSymmetricReflexiveRow : OpenClaim := { program := "ytfkamkbkpnnokaa", sum := "38b08ac6040ffd6c90d620d82d7ce4e45d4bdb0dc28fa29a0b61c3b1b6d282e7", func := "github.com/evanw/esbuild/n011_90.FnCheckEqualityBigIntSymmetricReflexive", spec := "fnCheckEqualityBigIntSymmetricReflexive", apart := false }
def FnCheckEqualityBigIntSymmetricReflexiveSaid : Prop := fnCheckEqualityBigIntSymmetricReflexiveRow.holds Try.pinned (OpenSpec.ofChange fnCheckEqualityBigIntSymmetricReflexiveSpec)

/-- ITS FALSE NEIGHBOUR: 'it returns false'. Refute it at one input. -/
def fnCheckEqualityBigIntSymmetricReflexiveWrong : ChangeSpec := { name := "fnCheckEqualityBigIntSymmetricReflexive", fn := fun _ => fun
  | [d1, d2] => { results := [.lit (.bool false)], args := [d1, d2] }
  | _ => none }
def FnCheckEqualityBigIntSymmetricReflexiveWrongFalsely : Prop := fnCheckEqualityBigIntSymmetricReflexiveRow.holds Try.pinned (OpenSpec.ofChange fnCheckEqualityBigIntSymmetricReflexiveWrong)

/-- 'n011_298.FnStringCompareUCS2Antisymmetric': WHATEVER THE INPUT: true; the input reads as it did. -/
def fnStringCompareUCS2AntisymmetricSpec : ChangeSpec := { name := "fnStringCompareUCS2Antisymmetric", fn := fun _ => fun
  | [d1, d2] => { results := [.lit (.bool true)], args := [d1, d2] }
  | _ => none }
def fnStringCompareUCS2AntisymmetricRow : OpenClaim := { program := "ytfkamkbkpnnokaa", sum := "38b08ac6040ffd6c90d620d82d7ce4e45d4bdb0dc28fa29a0b61c3b1b6d282e7", func := "github.com/evanw/esbuild/n011_298.FnStringCompareUCS2Antisymmetric", spec := "fnStringCompareUCS2Antisymmetric", apart := false }
def FnStringCompareUCS2AntisymmetricSaid : Prop := fnStringCompareUCS2AntisymmetricRow.holds Try.pinned (OpenSpec.ofChange fnStringCompareUCS2AntisymmetricSpec)

/-- ITS FALSE NEIGHBOUR: 'it returns false'. Refute it at one input. -/
def fnStringCompareUCS2AntisymmetricWrong : ChangeSpec := { name := "fnStringCompareUCS2Antisymmetric", fn := fun _ => fun
  | [d1, d2] => { results := [.lit (.bool false)], args := [d1, d2] }
  | _ => none }
def FnStringCompareUCS2AntisymmetricWrongFalsely : Prop := fnStringCompareUCS2AntisymmetricRow.holds Try.pinned (OpenSpec.ofChange fnStringCompareUCS2AntisymmetricWrong)

/-- 'n011_118.FnIsEvalOrArgumentsRefusesExtensionsAndCase': WHATEVER THE INPUT: true; the input reads as it did. -/
def fnIsEvalOrArgumentsRefusesExtensionsAndCaseSpec : ChangeSpec := { name := "fnIsEvalOrArgumentsRefusesExtensionsAndCase", fn := fun _ => fun
  | [d1, d2] => { results := [.lit (.bool true)], args := [d1, d2] }
  | _ => none }
def fnIsEvalOrArgumentsRefusesExtensionsAndCaseRow : OpenClaim := { program := "ytfkamkbkpnnokaa", sum := "38b08ac6040ffd6c90d620d82d7ce4e45d4bdb0dc28fa29a0b61c3b1b6d282e7", func := "github.com/evanw/esbuild/n011_118.FnIsEvalOrArgumentsRefusesExtensionsAndCase", spec := "fnIsEvalOrArgumentsRefusesExtensionsAndCase", apart := false }
def FnIsEvalOrArgumentsRefusesExtensionsAndCaseSaid : Prop := fnIsEvalOrArgumentsRefusesExtensionsAndCaseRow.holds Try.pinned (OpenSpec.ofChange fnIsEvalOrArgumentsRefusesExtensionsAndCaseSpec)

/-- ITS FALSE NEIGHBOUR: 'it returns false'. Refute it at one input. -/
def fnIsEvalOrArgumentsRefusesExtensionsAndCaseWrong : ChangeSpec := { name := "fnIsEvalOrArgumentsRefusesExtensionsAndCase", fn := fun _ => fun
  | [d1, d2] => { results := [.lit (.bool false)], args := [d1, d2] }
  | _ => none }
def FnIsEvalOrArgumentsRefusesExtensionsAndCaseWrongFalsely : Prop := fnIsEvalOrArgumentsRefusesExtensionsAndCaseRow.holds Try.pinned (OpenSpec.ofChange fnIsEvalOrArgumentsRefusesExtensionsAndCaseWrong)

/-- 'n011_285.FnEDotSameFlagsIsEqualFlagKey': WHATEVER THE INPUT: true; the input reads as it did. -/
def fnEDotSameFlagsIsEqualFlagKeySpec : ChangeSpec := { name := "fnEDotSameFlagsIsEqualFlagKey", fn := fun _ => fun
  | [d1, d2, d3, d4, d5, d6, d7, d8, d9, d10] => { results := [.lit (.bool true)], args := [d1, d2, d3, d4, d5, d6, d7, d8, d9, d10] }
  | _ => none }
def fnEDotSameFlagsIsEqualFlagKeyRow : OpenClaim := { program := "ytfkamkbkpnnokaa", sum := "38b08ac6040ffd6c90d620d82d7ce4e45d4bdb0dc28fa29a0b61c3b1b6d282e7", func := "github.com/evanw/esbuild/n011_285.FnEDotSameFlagsIsEqualFlagKey", spec := "fnEDotSameFlagsIsEqualFlagKey", apart := false }
def FnEDotSameFlagsIsEqualFlagKeySaid : Prop := fnEDotSameFlagsIsEqualFlagKeyRow.holds Try.pinned (OpenSpec.ofChange fnEDotSameFlagsIsEqualFlagKeySpec)

/-- ITS FALSE NEIGHBOUR: 'it returns false'. Refute it at one input. -/
def fnEDotSameFlagsIsEqualFlagKeyWrong : ChangeSpec := { name := "fnEDotSameFlagsIsEqualFlagKey", fn := fun _ => fun
  | [d1, d2, d3, d4, d5, d6, d7, d8, d9, d10] => { results := [.lit (.bool false)], args := [d1, d2, d3, d4, d5, d6, d7, d8, d9, d10] }
  | _ => none }
def FnEDotSameFlagsIsEqualFlagKeyWrongFalsely : Prop := fnEDotSameFlagsIsEqualFlagKeyRow.holds Try.pinned (OpenSpec.ofChange fnEDotSameFlagsIsEqualFlagKeyWrong)

/-- 'n011_294.FnIsInt32OrUint32MatchesStackModel': WHATEVER THE INPUT: true; the input reads as it did. -/
def fnIsInt32OrUint32MatchesStackModelSpec : ChangeSpec := { name := "fnIsInt32OrUint32MatchesStackModel", fn := fun _ => fun
  | [d] => { results := [.lit (.bool true)], args := [d] }
  | _ => none }
def fnIsInt32OrUint32MatchesStackModelRow : OpenClaim := { program := "ytfkamkbkpnnokaa", sum := "38b08ac6040ffd6c90d620d82d7ce4e45d4bdb0dc28fa29a0b61c3b1b6d282e7", func := "github.com/evanw/esbuild/n011_294.FnIsInt32OrUint32MatchesStackModel", spec := "fnIsInt32OrUint32MatchesStackModel", recurses := true, apart := false }
def FnIsInt32OrUint32MatchesStackModelSaid : Prop := fnIsInt32OrUint32MatchesStackModelRow.holds Try.pinned (OpenSpec.ofChange fnIsInt32OrUint32MatchesStackModelSpec)

/-- ITS FALSE NEIGHBOUR: 'it returns false'. Refute it at one input. -/
def fnIsInt32OrUint32MatchesStackModelWrong : ChangeSpec := { name := "fnIsInt32OrUint32MatchesStackModel", fn := fun _ => fun
  | [d] => { results := [.lit (.bool false)], args := [d] }
  | _ => none }
def FnIsInt32OrUint32MatchesStackModelWrongFalsely : Prop := fnIsInt32OrUint32MatchesStackModelRow.holds Try.pinned (OpenSpec.ofChange fnIsInt32OrUint32MatchesStackModelWrong)

/- THE SECOND FORM. 'bulk': how many values and letters a reading holds, each counted each time it is reached (what is shared counts as often as it is met; a slice's spare places count too). A statement '..UptoSaid' is the law's where the arguments, and the package variables that the reading takes, are together of bulk at most 1048576: NARROWER than '..Said'. Prove '..Said' where nothing that the law and all that it calls make is longer than what came in: it says more and counts as full. Else prove '..UptoSaid'. A law counts once. -/
mutual
def uptoBulk {H : Type} : DataW H → Nat
  | .lit (.string bytes) => bytes.length + 1
  | .lit _ => 1
  | .nil => 1
  | .ptr d => uptoBulk d + 1
  | .slice elems spare => uptoBulkAll elems + uptoBulkAll spare + 1
  | .agg parts => uptoBulkAll parts + 1
  | .iface _ d => uptoBulk d + 1
  | .map entries => uptoBulkEntries entries + 1
  | .held _ => 1
def uptoBulkAll {H : Type} : List (DataW H) → Nat
  | [] => 0
  | d :: r => uptoBulk d + uptoBulkAll r
def uptoBulkEntries {H : Type} : List (Lit × DataW H) → Nat
  | [] => 0
  | x :: r => uptoBulkEntry x + uptoBulkEntries r
def uptoBulkEntry {H : Type} : Lit × DataW H → Nat
  | (.string bytes, d) => bytes.length + uptoBulk d + 1
  | (_, d) => uptoBulk d + 1
 end
def uptoSmall : (H : Type) → List (DataW H) → Bool := fun _ ds => decide (uptoBulkAll ds ≤ 1048576)
def OpenSpec.upto (s : _root_.Go.ChangeSpec) : _root_.Go.OpenSpec := { _root_.Go.OpenSpec.ofChange s with cond := some uptoSmall }

/-- 'n011_90.FnCheckEqualityBigIntSymmetricReflexive', WHERE WHAT IT READS IS OF BULK AT MOST 1048576: true; the input reads as it did. -/
def fnCheckEqualityBigIntSymmetricReflexiveUptoRow : OpenClaim := { program := "ytfkamkbkpnnokaa", sum := "38b08ac6040ffd6c90d620d82d7ce4e45d4bdb0dc28fa29a0b61c3b1b6d282e7", func := "github.com/evanw/esbuild/n011_90.FnCheckEqualityBigIntSymmetricReflexive", spec := "fnCheckEqualityBigIntSymmetricReflexive", apart := false, narrowed := true }
def FnCheckEqualityBigIntSymmetricReflexiveUptoSaid : Prop := fnCheckEqualityBigIntSymmetricReflexiveUptoRow.holds Try.pinned (OpenSpec.upto fnCheckEqualityBigIntSymmetricReflexiveSpec)

/-- 'n011_298.FnStringCompareUCS2Antisymmetric', WHERE WHAT IT READS IS OF BULK AT MOST 1048576: true; the input reads as it did. -/
def fnStringCompareUCS2AntisymmetricUptoRow : OpenClaim := { program := "ytfkamkbkpnnokaa", sum := "38b08ac6040ffd6c90d620d82d7ce4e45d4bdb0dc28fa29a0b61c3b1b6d282e7", func := "github.com/evanw/esbuild/n011_298.FnStringCompareUCS2Antisymmetric", spec := "fnStringCompareUCS2Antisymmetric", apart := false, narrowed := true }
def FnStringCompareUCS2AntisymmetricUptoSaid : Prop := fnStringCompareUCS2AntisymmetricUptoRow.holds Try.pinned (OpenSpec.upto fnStringCompareUCS2AntisymmetricSpec)

/-- 'n011_118.FnIsEvalOrArgumentsRefusesExtensionsAndCase', WHERE WHAT IT READS IS OF BULK AT MOST 1048576: true; the input reads as it did. -/
def fnIsEvalOrArgumentsRefusesExtensionsAndCaseUptoRow : OpenClaim := { program := "ytfkamkbkpnnokaa", sum := "38b08ac6040ffd6c90d620d82d7ce4e45d4bdb0dc28fa29a0b61c3b1b6d282e7", func := "github.com/evanw/esbuild/n011_118.FnIsEvalOrArgumentsRefusesExtensionsAndCase", spec := "fnIsEvalOrArgumentsRefusesExtensionsAndCase", apart := false, narrowed := true }
def FnIsEvalOrArgumentsRefusesExtensionsAndCaseUptoSaid : Prop := fnIsEvalOrArgumentsRefusesExtensionsAndCaseUptoRow.holds Try.pinned (OpenSpec.upto fnIsEvalOrArgumentsRefusesExtensionsAndCaseSpec)

/-- 'n011_285.FnEDotSameFlagsIsEqualFlagKey', WHERE WHAT IT READS IS OF BULK AT MOST 1048576: true; the input reads as it did. -/
def fnEDotSameFlagsIsEqualFlagKeyUptoRow : OpenClaim := { program := "ytfkamkbkpnnokaa", sum := "38b08ac6040ffd6c90d620d82d7ce4e45d4bdb0dc28fa29a0b61c3b1b6d282e7", func := "github.com/evanw/esbuild/n011_285.FnEDotSameFlagsIsEqualFlagKey", spec := "fnEDotSameFlagsIsEqualFlagKey", apart := false, narrowed := true }
def FnEDotSameFlagsIsEqualFlagKeyUptoSaid : Prop := fnEDotSameFlagsIsEqualFlagKeyUptoRow.holds Try.pinned (OpenSpec.upto fnEDotSameFlagsIsEqualFlagKeySpec)

/-- 'n011_294.FnIsInt32OrUint32MatchesStackModel', WHERE WHAT IT READS IS OF BULK AT MOST 1048576: true; the input reads as it did. -/
def fnIsInt32OrUint32MatchesStackModelUptoRow : OpenClaim := { program := "ytfkamkbkpnnokaa", sum := "38b08ac6040ffd6c90d620d82d7ce4e45d4bdb0dc28fa29a0b61c3b1b6d282e7", func := "github.com/evanw/esbuild/n011_294.FnIsInt32OrUint32MatchesStackModel", spec := "fnIsInt32OrUint32MatchesStackModel", recurses := true, apart := false, narrowed := true }
def FnIsInt32OrUint32MatchesStackModelUptoSaid : Prop := fnIsInt32OrUint32MatchesStackModelUptoRow.holds Try.pinned (OpenSpec.upto fnIsInt32OrUint32MatchesStackModelSpec)

end Rows
end Go.Proofs.Ytfkamkbkpnnokaa
