/- The walk of the law 'FnEsmOutputFormatAcceptsTopLevelAwait': it returns true and leaves what was there as it was. No conditions. -/
import Derived.Test.YtlcbaglphhbljaaFmtEsmG
namespace Go.Proofs.YtlcbaglphhbljaaFmt.fnEsmOutputFormatAcceptsTopLevelAwait
open Go.Proofs.YtlcbaglphhbljaaFmt.es
open Go.ChangeShapes Go.WideShapes Go.ChangeAt Go.RowKit Go.Mine
set_option linter.unusedVariables false
set_option linter.unusedSimpArgs false
set_option maxRecDepth 100000

def Post (w : World) (e : Ending) (w' : World) : Prop := e = .returned (.bool true) ∧ Below w.heap.size w w'
set_option maxHeartbeats 4000000 in
theorem walkN (f u : Int) (w : World) (hf : f = 0 ∨ f = 3) (h1 : 0 ≤ u) (h2 : u < 18446744073709551616) : Calls Tryf.prog 3 #[.int .u8 f, .int .u64 u] w (Post w) := by
  have H5 := Lib.hid (fun w' => c5N f _ w' hf (tla_bit u h1 h2))
  clear h1 h2
  rcases hf with rfl | rfl
  all_goals
    go_enter Tryf.func3, Tryf.ntmps3
    go_wp2_with (first | (go_at_call 4; refine (c4 _ _).mono ?_; rintro e w1 ⟨rfl, rfl⟩))
    refine (H5.out _).mono ?_
    rintro e w1 ⟨rfl, b1⟩
    have B1 := Lib.hid b1
    clear b1
    go_wp2_with fail
    refine (c6 _ _).mono ?_
    rintro e w2 ⟨rfl, b2⟩
    have B2 := Lib.hid b2
    clear b2
    go_wp2_with fail
    go_ret
    exact ⟨rfl, below2 B1.out B2.out⟩
set_option maxHeartbeats 4000000 in
theorem walkY (f u : Int) (w : World) (hf : f = 1 ∨ f = 2) (h1 : 0 ≤ u) (h2 : u < 18446744073709551616) : Calls Tryf.prog 3 #[.int .u8 f, .int .u64 u] w (Post w) := by
  have H5 := Lib.hid (fun w' => c5Y f _ w' hf (tla_bit u h1 h2))
  clear h1 h2
  rcases hf with rfl | rfl
  all_goals
    go_enter Tryf.func3, Tryf.ntmps3
    go_wp2_with (first | (go_at_call 4; refine (c4 _ _).mono ?_; rintro e w1 ⟨rfl, rfl⟩))
    refine (H5.out _).mono ?_
    rintro e w1 ⟨g, c, rfl, h6, hg, b1⟩
    have B1 := Lib.hid b1
    clear b1
    go_wp2_with fail
    refine (c6 _ _).mono ?_
    rintro e w2 ⟨rfl, b2⟩
    have k6 := (b2.cell (p := ⟨g, 6, none⟩) hg).trans h6
    have l6 : g < w2.heap.size := Nat.lt_of_lt_of_le hg b2.size
    have B2 := Lib.hid b2
    clear b2 h6
    go_wp2_with fail
    go_ret
    exact ⟨rfl, below2 B1.out B2.out⟩
theorem walkO (f u : Int) (w : World) (h0 : f ≠ 0) (h1 : f ≠ 1) (h2 : f ≠ 2) (h3 : f ≠ 3) : Calls Tryf.prog 3 #[.int .u8 f, .int .u64 u] w (Post w) := by
  have hz : (f == 0 || f == 1 || f == 2 || f == 3) = false := by simp [h0, h1, h2, h3]
  clear h0 h1 h2 h3
  go_enter Tryf.func3, Tryf.ntmps3
  go_wp2_with (first | (go_at_call 4; refine (c4 _ _).mono ?_; rintro e w1 ⟨rfl, rfl⟩; rw [hz]))
  go_ret
  exact ⟨rfl, Below.refl _ _⟩
theorem walk (f u : Int) (w : World) (h1 : 0 ≤ u) (h2 : u < 18446744073709551616) : Calls Tryf.prog 3 #[.int .u8 f, .int .u64 u] w (Post w) := by
  by_cases a0 : f = 0
  · exact walkN f u w (.inl a0) h1 h2
  · by_cases a3 : f = 3
    · exact walkN f u w (.inr a3) h1 h2
    · by_cases a1 : f = 1
      · exact walkY f u w (.inl a1) h1 h2
      · by_cases a2 : f = 2
        · exact walkY f u w (.inr a2) h1 h2
        · exact walkO f u w a0 a1 a2 a3
end Go.Proofs.YtlcbaglphhbljaaFmt.fnEsmOutputFormatAcceptsTopLevelAwait
