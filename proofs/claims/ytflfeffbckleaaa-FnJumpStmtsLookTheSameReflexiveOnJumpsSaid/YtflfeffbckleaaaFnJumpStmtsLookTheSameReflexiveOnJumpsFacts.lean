/- Closed facts of the law 'FnJumpStmtsLookTheSameReflexiveOnJumps': what its row tells of the program. No conditions. -/
import Derived.Test.YtflfeffbckleaaaRows
import Derived.Test.YtflfeffbckleaaaLib
namespace Go.Proofs.Ytflfeffbckleaaa.fnJumpStmtsLookTheSameReflexiveOnJumps
open Go.ChangeShapes Go.WideShapes Go.ChangeAt Go.RowKit Go.Mine
set_option linter.unusedVariables false

theorem closed : joinedFacts Try.prog 4 Try.f4 Rows.fnJumpStmtsLookTheSameReflexiveOnJumpsSpec Rows.fnJumpStmtsLookTheSameReflexiveOnJumpsRow = true := by kernel_rfl
theorem named : Try.prog.funcNamed Rows.fnJumpStmtsLookTheSameReflexiveOnJumpsRow.func = some 4 := by kernel_rfl
theorem inst : Try.f4.isInstance Try.prog Rows.fnJumpStmtsLookTheSameReflexiveOnJumpsRow.origin Rows.fnJumpStmtsLookTheSameReflexiveOnJumpsRow.targs := of_decide_eq_true (by kernel_rfl)
theorem wrapper : Try.f4.isWrapper Try.prog Rows.fnJumpStmtsLookTheSameReflexiveOnJumpsRow.wrapper Rows.fnJumpStmtsLookTheSameReflexiveOnJumpsRow.mainSum := by unfold Func.isWrapper; first | (rw [if_pos (by decide +kernel)]; kernel_rfl) | (rw [if_neg (by decide +kernel)]; exact ⟨rfl, rfl⟩)
theorem own : ownKnob Try.prog.godebug = none := by kernel_rfl
theorem laidOut : laidOutB Try.prog = true := by kernel_rfl
end Go.Proofs.Ytflfeffbckleaaa.fnJumpStmtsLookTheSameReflexiveOnJumps
