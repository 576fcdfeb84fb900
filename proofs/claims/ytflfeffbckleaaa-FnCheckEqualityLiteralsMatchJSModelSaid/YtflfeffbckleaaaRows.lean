/-
  No cell of these rows narrows 'for every input' (looked for: loops, veiled, ifaces, maps, wideKeys, modest, calm, conditions, laid).
  DERIVED. THE GIVEN ROWS OF THIS SEAT. 4 by the template 'for every input the law returns true; each argument reads behind the call as it read before'; 0 by the template 'total and deterministic' (their statements: YtflfeffbckleaaaTotals.lean).
  GIVEN WITH THE SEED: the statements are not yours to turn. If you find one false, say at which input.
  Laid BY PROGRAM, IN A SANDBOX (cutbox-rows.mjs): the forced cells as the released guide's own fill.sh prints them over the translation b29429c9985095c6… (all of the seat's roots in one cut). By AI agents, Wed Nov 11 2026. No macro, syntax, notation, axiom, sorry.
-/
import Derived.Test.YtflfeffbckleaaaChecked
import GoSem.Claim
import GoSem.ClaimJoined
import GoSem.ClaimMapViews
import Derived.JoinedTies
import Derived.KernelRfl
namespace Go.Proofs.Ytflfeffbckleaaa
/- THE CELL 'sum', in the pinned program and in every row, IS THE sha256 OF THE DUMP (.gsa) THAT YtflfeffbckleaaaProg.lean LOADS. Nothing in Lean hashes anything: it is a label: what it is worth is what the hold of that sum in a sandbox is worth. -/
noncomputable def Try.pinned : Pinned := { name := "ytflfeffbckleaaa", sum := "b29429c9985095c6bbe3213d47c23aec2a150dd865d8f6cd1fbcf5c3ba190450", checked := Try.checked }
namespace Rows
def none {H : Type} : Left H := { results := [], args := [] }

/-- 'n011_294.FnToInt32IsOdd': WHATEVER THE INPUT: true; the input reads as it did. -/
def fnToInt32IsOddSpec : ChangeSpec := { name := "fnToInt32IsOdd", fn := fun _ => fun
  | [d] => { results := [.lit (.bool true)], args := [d] }
  | _ => none }
def fnToInt32IsOddRow : OpenClaim := { program := "ytflfeffbckleaaa", sum := "b29429c9985095c6bbe3213d47c23aec2a150dd865d8f6cd1fbcf5c3ba190450", func := "github.com/evanw/esbuild/n011_294.FnToInt32IsOdd", spec := "fnToInt32IsOdd", inPlace := ["math.Float64bits", "math.Float64frombits"], plainKeys := false, apart := false }
def FnToInt32IsOddSaid : Prop := fnToInt32IsOddRow.holds Try.pinned (OpenSpec.ofChange fnToInt32IsOddSpec)

/-- ITS FALSE NEIGHBOUR: 'it returns false'. Refute it at one input. -/
def fnToInt32IsOddWrong : ChangeSpec := { name := "fnToInt32IsOdd", fn := fun _ => fun
  | [d] => { results := [.lit (.bool false)], args := [d] }
  | _ => none }
def FnToInt32IsOddWrongFalsely : Prop := fnToInt32IsOddRow.holds Try.pinned (OpenSpec.ofChange fnToInt32IsOddWrong)

/-- 'n011_120.FnJumpStmtsLookTheSameReflexiveOnJumps': WHATEVER THE INPUT: true; the input reads as it did. -/
def fnJumpStmtsLookTheSameReflexiveOnJumpsSpec : ChangeSpec := { name := "fnJumpStmtsLookTheSameReflexiveOnJumps", fn := fun _ => fun
  | [d1, d2, d3, d4, d5, d6] => { results := [.lit (.bool true)], args := [d1, d2, d3, d4, d5, d6] }
  | _ => none }
def fnJumpStmtsLookTheSameReflexiveOnJumpsRow : OpenClaim := { program := "ytflfeffbckleaaa", sum := "b29429c9985095c6bbe3213d47c23aec2a150dd865d8f6cd1fbcf5c3ba190450", func := "github.com/evanw/esbuild/n011_120.FnJumpStmtsLookTheSameReflexiveOnJumps", spec := "fnJumpStmtsLookTheSameReflexiveOnJumps", inPlace := ["math.Float64bits"], recurses := true, plainKeys := false, apart := false }
def FnJumpStmtsLookTheSameReflexiveOnJumpsSaid : Prop := fnJumpStmtsLookTheSameReflexiveOnJumpsRow.holds Try.pinned (OpenSpec.ofChange fnJumpStmtsLookTheSameReflexiveOnJumpsSpec)

/-- ITS FALSE NEIGHBOUR: 'it returns false'. Refute it at one input. -/
def fnJumpStmtsLookTheSameReflexiveOnJumpsWrong : ChangeSpec := { name := "fnJumpStmtsLookTheSameReflexiveOnJumps", fn := fun _ => fun
  | [d1, d2, d3, d4, d5, d6] => { results := [.lit (.bool false)], args := [d1, d2, d3, d4, d5, d6] }
  | _ => none }
def FnJumpStmtsLookTheSameReflexiveOnJumpsWrongFalsely : Prop := fnJumpStmtsLookTheSameReflexiveOnJumpsRow.holds Try.pinned (OpenSpec.ofChange fnJumpStmtsLookTheSameReflexiveOnJumpsWrong)

/-- 'n011_90.FnCheckEqualityLiteralsMatchJSModel': WHATEVER THE INPUT: true; the input reads as it did. -/
def fnCheckEqualityLiteralsMatchJSModelSpec : ChangeSpec := { name := "fnCheckEqualityLiteralsMatchJSModel", fn := fun _ => fun
  | [d1, d2, d3, d4, d5, d6, d7, d8, d9, d10, d11] => { results := [.lit (.bool true)], args := [d1, d2, d3, d4, d5, d6, d7, d8, d9, d10, d11] }
  | _ => none }
def fnCheckEqualityLiteralsMatchJSModelRow : OpenClaim := { program := "ytflfeffbckleaaa", sum := "b29429c9985095c6bbe3213d47c23aec2a150dd865d8f6cd1fbcf5c3ba190450", func := "github.com/evanw/esbuild/n011_90.FnCheckEqualityLiteralsMatchJSModel", spec := "fnCheckEqualityLiteralsMatchJSModel", recurses := true, plainKeys := false, apart := false }
def FnCheckEqualityLiteralsMatchJSModelSaid : Prop := fnCheckEqualityLiteralsMatchJSModelRow.holds Try.pinned (OpenSpec.ofChange fnCheckEqualityLiteralsMatchJSModelSpec)

/-- ITS FALSE NEIGHBOUR: 'it returns false'. Refute it at one input. -/
def fnCheckEqualityLiteralsMatchJSModelWrong : ChangeSpec := { name := "fnCheckEqualityLiteralsMatchJSModel", fn := fun _ => fun
  | [d1, d2, d3, d4, d5, d6, d7, d8, d9, d10, d11] => { results := [.lit (.bool false)], args := [d1, d2, d3, d4, d5, d6, d7, d8, d9, d10, d11] }
  | _ => none }
def FnCheckEqualityLiteralsMatchJSModelWrongFalsely : Prop := fnCheckEqualityLiteralsMatchJSModelRow.holds Try.pinned (OpenSpec.ofChange fnCheckEqualityLiteralsMatchJSModelWrong)

/-- 'n011_114.FnDefineValueCanBeUsedInAssignTargetTable': WHATEVER THE INPUT: true; the input reads as it did. -/
def fnDefineValueCanBeUsedInAssignTargetTableSpec : ChangeSpec := { name := "fnDefineValueCanBeUsedInAssignTargetTable", fn := fun _ => fun
  | [d1, d2, d3, d4] => { results := [.lit (.bool true)], args := [d1, d2, d3, d4] }
  | _ => none }
def fnDefineValueCanBeUsedInAssignTargetTableRow : OpenClaim := { program := "ytflfeffbckleaaa", sum := "b29429c9985095c6bbe3213d47c23aec2a150dd865d8f6cd1fbcf5c3ba190450", func := "github.com/evanw/esbuild/n011_114.FnDefineValueCanBeUsedInAssignTargetTable", spec := "fnDefineValueCanBeUsedInAssignTargetTable", inPlace := ["(*internal/sync.Mutex).Lock", "internal/race.Disable", "sync/atomic.CompareAndSwapInt32", "internal/race.Enable", "internal/race.Acquire", "(*internal/sync.Mutex).lockSlow", "internal/sync.runtime_canSpin", "internal/sync.runtime_doSpin", "internal/sync.throw", "internal/sync.runtime_nanotime", "internal/sync.runtime_SemacquireMutex", "sync/atomic.AddInt32", "(*internal/sync.Mutex).Unlock", "internal/race.ReleaseMerge", "(*internal/sync.Mutex).unlockSlow", "internal/sync.fatal", "internal/sync.runtime_Semrelease"], unfollowed := true, recurses := true, plainKeys := false, apart := false }
def FnDefineValueCanBeUsedInAssignTargetTableSaid : Prop := fnDefineValueCanBeUsedInAssignTargetTableRow.holds Try.pinned (OpenSpec.ofChange fnDefineValueCanBeUsedInAssignTargetTableSpec)

/-- ITS FALSE NEIGHBOUR: 'it returns false'. Refute it at one input. -/
def fnDefineValueCanBeUsedInAssignTargetTableWrong : ChangeSpec := { name := "fnDefineValueCanBeUsedInAssignTargetTable", fn := fun _ => fun
  | [d1, d2, d3, d4] => { results := [.lit (.bool false)], args := [d1, d2, d3, d4] }
  | _ => none }
def FnDefineValueCanBeUsedInAssignTargetTableWrongFalsely : Prop := fnDefineValueCanBeUsedInAssignTargetTableRow.holds Try.pinned (OpenSpec.ofChange fnDefineValueCanBeUsedInAssignTargetTableWrong)

/- THE SECOND FORM. 'bulk': how many values and letters a reading holds, each counted each time it is reached (what is shared counts as often as it is met; a slice's spare places count too). A statement '..UptoSaid' is the law's where the arguments, and the package variables that the reading takes, are together of bulk at most 1048576: NARROWER than '..Said'. Prove '..Said' where nothing that the law and all that it calls make is longer than what came in: it says more and counts as full. Else prove '..UptoSaid'. A law counts once. -/
mutual
def uptoBulk {H : Type} : DataW H → Nat
  | .lit (.string bytes) => bytes.length + 1
  | .lit _ => 1
  | .nil => 1
  | .ptr d => uptoBulk d + 1
  | .slice elems spare => uptoBulkAll elems + uptoBulkAll spare + 1
  | .agg parts => uptoBulkAll parts + 1
  | .iface _ d => uptoBulk d + 1
  | .map entries => uptoBulkEntries entries + 1
  | .held _ => 1
def uptoBulkAll {H : Type} : List (DataW H) → Nat
  | [] => 0
  | d :: r => uptoBulk d + uptoBulkAll r
def uptoBulkEntries {H : Type} : List (Lit × DataW H) → Nat
  | [] => 0
  | x :: r => uptoBulkEntry x + uptoBulkEntries r
def uptoBulkEntry {H : Type} : Lit × DataW H → Nat
  | (.string bytes, d) => bytes.length + uptoBulk d + 1
  | (_, d) => uptoBulk d + 1
 end
def uptoSmall : (H : Type) → List (DataW H) → Bool := fun _ ds => decide (uptoBulkAll ds ≤ 1048576)
def OpenSpec.upto (s : _root_.Go.ChangeSpec) : _root_.Go.OpenSpec := { _root_.Go.OpenSpec.ofChange s with cond := some uptoSmall }

/-- 'n011_294.FnToInt32IsOdd', WHERE WHAT IT READS IS OF BULK AT MOST 1048576: true; the input reads as it did. -/
def fnToInt32IsOddUptoRow : OpenClaim := { program := "ytflfeffbckleaaa", sum := "b29429c9985095c6bbe3213d47c23aec2a150dd865d8f6cd1fbcf5c3ba190450", func := "github.com/evanw/esbuild/n011_294.FnToInt32IsOdd", spec := "fnToInt32IsOdd", inPlace := ["math.Float64bits", "math.Float64frombits"], plainKeys := false, apart := false, narrowed := true }
def FnToInt32IsOddUptoSaid : Prop := fnToInt32IsOddUptoRow.holds Try.pinned (OpenSpec.upto fnToInt32IsOddSpec)

/-- 'n011_120.FnJumpStmtsLookTheSameReflexiveOnJumps', WHERE WHAT IT READS IS OF BULK AT MOST 1048576: true; the input reads as it did. -/
def fnJumpStmtsLookTheSameReflexiveOnJumpsUptoRow : OpenClaim := { program := "ytflfeffbckleaaa", sum := "b29429c9985095c6bbe3213d47c23aec2a150dd865d8f6cd1fbcf5c3ba190450", func := "github.com/evanw/esbuild/n011_120.FnJumpStmtsLookTheSameReflexiveOnJumps", spec := "fnJumpStmtsLookTheSameReflexiveOnJumps", inPlace := ["math.Float64bits"], recurses := true, plainKeys := false, apart := false, narrowed := true }
def FnJumpStmtsLookTheSameReflexiveOnJumpsUptoSaid : Prop := fnJumpStmtsLookTheSameReflexiveOnJumpsUptoRow.holds Try.pinned (OpenSpec.upto fnJumpStmtsLookTheSameReflexiveOnJumpsSpec)

/-- 'n011_90.FnCheckEqualityLiteralsMatchJSModel', WHERE WHAT IT READS IS OF BULK AT MOST 1048576: true; the input reads as it did. -/
def fnCheckEqualityLiteralsMatchJSModelUptoRow : OpenClaim := { program := "ytflfeffbckleaaa", sum := "b29429c9985095c6bbe3213d47c23aec2a150dd865d8f6cd1fbcf5c3ba190450", func := "github.com/evanw/esbuild/n011_90.FnCheckEqualityLiteralsMatchJSModel", spec := "fnCheckEqualityLiteralsMatchJSModel", recurses := true, plainKeys := false, apart := false, narrowed := true }
def FnCheckEqualityLiteralsMatchJSModelUptoSaid : Prop := fnCheckEqualityLiteralsMatchJSModelUptoRow.holds Try.pinned (OpenSpec.upto fnCheckEqualityLiteralsMatchJSModelSpec)

/-- 'n011_114.FnDefineValueCanBeUsedInAssignTargetTable', WHERE WHAT IT READS IS OF BULK AT MOST 1048576: true; the input reads as it did. -/
def fnDefineValueCanBeUsedInAssignTargetTableUptoRow : OpenClaim := { program := "ytflfeffbckleaaa", sum := "b29429c9985095c6bbe3213d47c23aec2a150dd865d8f6cd1fbcf5c3ba190450", func := "github.com/evanw/esbuild/n011_114.FnDefineValueCanBeUsedInAssignTargetTable", spec := "fnDefineValueCanBeUsedInAssignTargetTable", inPlace := ["(*internal/sync.Mutex).Lock", "internal/race.Disable", "sync/atomic.CompareAndSwapInt32", "internal/race.Enable", "internal/race.Acquire", "(*internal/sync.Mutex).lockSlow", "internal/sync.runtime_canSpin", "internal/sync.runtime_doSpin", "internal/sync.throw", "internal/sync.runtime_nanotime", "internal/sync.runtime_SemacquireMutex", "sync/atomic.AddInt32", "(*internal/sync.Mutex).Unlock", "internal/race.ReleaseMerge", "(*internal/sync.Mutex).unlockSlow", "internal/sync.fatal", "internal/sync.runtime_Semrelease"], unfollowed := true, recurses := true, plainKeys := false, apart := false, narrowed := true }
def FnDefineValueCanBeUsedInAssignTargetTableUptoSaid : Prop := fnDefineValueCanBeUsedInAssignTargetTableUptoRow.holds Try.pinned (OpenSpec.upto fnDefineValueCanBeUsedInAssignTargetTableSpec)

end Rows
end Go.Proofs.Ytflfeffbckleaaa
