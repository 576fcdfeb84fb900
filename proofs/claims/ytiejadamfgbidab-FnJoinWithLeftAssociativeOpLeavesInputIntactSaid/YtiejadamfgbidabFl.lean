/- A small whole number as a float equals itself. No conditions beyond its hypothesis. -/
import Derived.Test.YtiejadamfgbidabLib
namespace Go.Proofs.Ytiejadamfgbidab.left
open Go

theorem fl_all : (List.range 12300).all (fun n => FloatKind.f64.format.order (floatOfInt .f64 (n : Int)) (floatOfInt .f64 (n : Int)) == some .eq) = true := by decide +kernel
theorem fl_eq (n : Nat) (h : n < 12300) : (FloatKind.f64.format.order (floatOfInt .f64 (n : Int)) (floatOfInt .f64 (n : Int)) == some .eq) = true := by
  have := List.all_eq_true.1 fl_all n (by simpa using h)
  exact this
end Go.Proofs.Ytiejadamfgbidab.left
