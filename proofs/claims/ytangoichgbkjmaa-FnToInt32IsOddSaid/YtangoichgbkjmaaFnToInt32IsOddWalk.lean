/- The walk of the law 'FnToInt32IsOdd': it returns true and leaves what was there as it was. No conditions. -/
import Derived.Test.YtangoichgbkjmaaFltB
namespace Go.Proofs.Ytangoichgbkjmaa.fnToInt32IsOdd
open Go.Proofs.Ytangoichgbkjmaa.flt
open Go.ChangeShapes Go.WideShapes Go.ChangeAt Go.RowKit Go.Mine
set_option linter.unusedVariables false
set_option linter.unusedSimpArgs false
set_option maxRecDepth 100000

def Post (w : World) (e : Ending) (w' : World) : Prop := e = .returned (.bool true) ∧ Below w.heap.size w w'
theorem walk (f : Nat) (w : World) (w0 : (Lit.float .f64 f).wf = true) : Calls Try.prog 3 #[.float .f64 f] w (Post w) := by
  have hf : f < 18446744073709551616 := by simpa [Lit.wf] using w0
  have hun : ∀ w, (Op.unary UnOp.neg (.float .f64 f)).run Try.prog w = .ok (.float .f64 (Op.negFloat .f64 f)) w := fun w => rfl
  obtain ⟨h1, h2, h3⟩ := neg_bits f hf
  have hT := tI_neg f _ h1 h2
  have hneg : Op.negFloat .f64 f = f ^^^ 9223372036854775808 := rfl
  have HA := Lib.hid (fun w => c4 (f ^^^ 9223372036854775808) w h3)
  have HB := Lib.hid (fun w => c4 f w hf)
  rw [← hneg] at hT HA
  have hEq : (tI (Op.negFloat .f64 f) == wrap32 (-(tI f))) = true := by rw [hT]; simp
  have HT := Lib.hid hEq
  clear hT h1 h2 h3 hneg hEq
  go_enter Try.func3, Try.ntmps3
  go_wp2_with fail
  refine (HA.out _).mono ?_
  rintro e w1 ⟨rfl, b1⟩
  have B1 := Lib.hid b1
  clear b1
  go_wp2_with fail
  refine (HB.out _).mono ?_
  rintro e w2 ⟨rfl, b2⟩
  have B2 := Lib.hid b2
  clear b2
  go_wp2_with fail
  go_ret
  exact ⟨congrArg (fun b => Ending.returned (.bool b)) HT.out, below2 B1.out B2.out⟩
end Go.Proofs.Ytangoichgbkjmaa.fnToInt32IsOdd
