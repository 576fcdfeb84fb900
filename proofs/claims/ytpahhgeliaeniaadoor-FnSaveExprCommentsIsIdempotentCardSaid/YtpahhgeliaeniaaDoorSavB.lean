/- The contract of 'CommentTextWithoutIndent' at a text that is no block comment. No conditions beyond the hypotheses. -/
import Derived.Test.YtpahhgeliaeniaaDoorSavA
import Derived.Deep.RegionLaw
import Derived.Deep.RegionWith
import Derived.Deep.DeepCutAuto
import Derived.Deep.CutBlock
namespace Go.Proofs.YtpahhgeliaeniaaDoor.sav
open Go.ChangeShapes Go.WideShapes Go.ChangeAt Go.RowKit Go.Mine
set_option linter.unusedVariables false
set_option linter.unusedSimpArgs false
set_option maxRecDepth 100000

/-- No block comment. -/
def Plain (T : ByteArray) : Prop := T.size < 2 ∨ (2 ≤ T.size ∧ ((T.extract 0 2).toList == [47, 42]) = false)
set_option maxHeartbeats 4000000 in
theorem text12 (p s l : Nat) (c : ByteArray) (w : World) (hc : w.cell? ⟨p, 60, none⟩ = some (.string c)) (hz : c.size ≤ 65536) (hsl : s + l ≤ c.size) (hp : Plain (c.extract s (s + l))) :
    Calls Tryd.prog 12 #[.pointer (some ⟨p, 57, none⟩), .agg #[.int .i32 s, .int .i32 l]] w fun e w' => e = .returned (.string (c.extract s (s + l))) ∧ Below w.heap.size w w' := by
  have hlt : p < w.heap.size := cell_lt hc
  have HE := Lib.hid (fun w' => end13 (s : Int) (l : Int) (by omega) (by omega) (by omega) w')
  have h1 : (w.alloc (.cells #[.int .i32 (s : Int), .int .i32 (l : Int)] 30)).cell? ⟨p, 60, none⟩ = some (.string c) := bcell ((Below.refl _ _).alloc (Nat.le_refl _) _) hc
  go_enter Tryd.func12, Tryd.ntmps12
  go_wp2_with fail
  go_step3
  go_wp2_with fail
  go_cut [5] (fun s5 W => s5 = .string (c.extract s (s + l)) ∧ Hid (Below w.heap.size w W))
  case first =>
    go_region_with (first | (go_at_call 13; (with_reducible refine (HE.out _).mono ?_); rintro e w1 ⟨rfl, rfl⟩))
    all_goals
      go_wp2_with fail
      go_meet
      refine ⟨rfl, Lib.hid ?_⟩
      repeat (first | with_reducible exact Below.refl _ _ | with_reducible refine Below.drew ?_ | with_reducible refine Below.alloc ?_ (by simp <;> omega) _)
  case rest =>
    obtain ⟨rfl, HB⟩ := hcut
    clear h1 HE hlt hc
    have hTz : (c.extract s (s + l)).size ≤ 65536 := by rw [ByteArray.size_extract]; omega
    obtain ⟨T, hTe⟩ : ∃ T, c.extract s (s + l) = T := ⟨_, rfl⟩
    rw [hTe] at hp hTz ⊢
    have HTE := Lib.hid hTe
    clear hTe
    rcases hp with hp | ⟨hp1, hp2⟩
    · go_wp2_with fail
      go_ret
      exact ⟨by rw [HTE.out]; rfl, HB.out⟩
    · have H14 := Lib.hid (fun w' => pre14 T w' (by omega) hp1 hp2)
      unfold star at H14
      clear hp2
      go_wp2_with (first | (go_at_call 14; (with_reducible refine (H14.out _).mono ?_); rintro e w1 ⟨rfl, rfl⟩))
      rw [Exit.noGoto_ret]
      go_ret
      exact ⟨by rw [HTE.out]; rfl, HB.out⟩
end Go.Proofs.YtpahhgeliaeniaaDoor.sav
