/- Closed facts of the law 'FnCheckEqualityLiteralsMatchJSModel': what its row tells of the program. No conditions. -/
import Derived.Test.YtflfeffbckleaaaRows
import Derived.Test.YtflfeffbckleaaaLib
namespace Go.Proofs.Ytflfeffbckleaaa.fnCheckEqualityLiteralsMatchJSModel
open Go.ChangeShapes Go.WideShapes Go.ChangeAt Go.RowKit Go.Mine
set_option linter.unusedVariables false

theorem closed : joinedFacts Try.prog 5 Try.f5 Rows.fnCheckEqualityLiteralsMatchJSModelSpec Rows.fnCheckEqualityLiteralsMatchJSModelRow = true := by kernel_rfl
theorem named : Try.prog.funcNamed Rows.fnCheckEqualityLiteralsMatchJSModelRow.func = some 5 := by kernel_rfl
theorem inst : Try.f5.isInstance Try.prog Rows.fnCheckEqualityLiteralsMatchJSModelRow.origin Rows.fnCheckEqualityLiteralsMatchJSModelRow.targs := of_decide_eq_true (by kernel_rfl)
theorem wrapper : Try.f5.isWrapper Try.prog Rows.fnCheckEqualityLiteralsMatchJSModelRow.wrapper Rows.fnCheckEqualityLiteralsMatchJSModelRow.mainSum := by unfold Func.isWrapper; first | (rw [if_pos (by decide +kernel)]; kernel_rfl) | (rw [if_neg (by decide +kernel)]; exact ⟨rfl, rfl⟩)
theorem own : ownKnob Try.prog.godebug = none := by kernel_rfl
theorem laidOut : laidOutB Try.prog = true := by kernel_rfl
end Go.Proofs.Ytflfeffbckleaaa.fnCheckEqualityLiteralsMatchJSModel
