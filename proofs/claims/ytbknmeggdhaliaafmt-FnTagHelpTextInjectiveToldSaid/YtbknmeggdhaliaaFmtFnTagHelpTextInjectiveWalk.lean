/- The walk of the law 'FnTagHelpTextInjective': it returns true and leaves what was there as it was; fmt's texts as told. No conditions. -/
import Derived.Test.YtbknmeggdhaliaaFmtTagF
namespace Go.Proofs.YtbknmeggdhaliaaFmt.fnTagHelpTextInjective
open Go.RowKit Go.Kit Go.Extern.Stop Go.Stop Go.Extern Go.Mine
set_option linter.unusedVariables false

theorem bytesY (a b : ByteArray) (w : World) (ha : a.size ≤ 1048576) (hb : b.size ≤ 1048576) (hc : a.size + b.size ≤ 1048576) :
    Calls Tryf.prog 4 #[.string a, .string b] w fun e w' => e = .returned (.bool true) ∧ w = w' := by
  go_enter Tryf.func4, Tryf.ntmps4
  go_wp2
  go_ret
  exact ⟨rfl, rfl⟩
set_option maxHeartbeats 1000000 in
theorem bytesN (a b : ByteArray) (w : World) (ha : a.size ≤ 9223372036854775807) (hb : b.size ≤ 9223372036854775807) (h : ¬ (a.size ≤ 1048576 ∧ b.size ≤ 1048576 ∧ a.size + b.size ≤ 1048576)) :
    Calls Tryf.prog 4 #[.string a, .string b] w fun e w' => e = .returned (.bool false) ∧ w = w' := by
  by_cases h1 : a.size ≤ 1048576
  · by_cases h2 : b.size ≤ 1048576
    · have h3 : ¬ a.size + b.size ≤ 1048576 := fun h3 => h ⟨h1, h2, h3⟩
      clear h
      go_enter Tryf.func4, Tryf.ntmps4
      go_wp2
      go_ret
      exact ⟨rfl, rfl⟩
    · clear h
      go_enter Tryf.func4, Tryf.ntmps4
      go_wp2
      go_ret
      exact ⟨rfl, rfl⟩
  · clear h
    go_enter Tryf.func4, Tryf.ntmps4
    go_wp2
    go_ret
    exact ⟨rfl, rfl⟩
theorem help5 (F : Interp) (s : ByteArray) (w : World) (hs : s.size ≤ 1048576) (hF : F.told.answers w.tape) :
    Calls Tryf.prog 5 #[.string s] w fun e w' => e = .returned (.string (tag.help s)) ∧ Below w.heap.size w w' := by
  go_enter Tryf.func5, Tryf.ntmps5
  go_wp2_with (first | (go_at_call 6; refine (tag.help6 F _ _ hs hF).mono ?_; rintro e w1 ⟨rfl, hb⟩))
  go_ret
  exact ⟨rfl, hb⟩
def Post (w : World) (e : Ending) (w' : World) : Prop := e = .returned (.bool true) ∧ Below w.heap.size w w'
set_option maxHeartbeats 1000000 in
theorem walk (F : Interp) (a0 : ByteArray) (a1 : ByteArray) (w : World) (w0 : a0.size ≤ maxLen) (w1 : a1.size ≤ maxLen) (hF : F.told.answers w.tape) :
    Calls Tryf.prog 3 #[.string a0, .string a1] w (Post w) := by
  unfold maxLen at w0 w1
  by_cases hs : a0.size ≤ 1048576 ∧ a1.size ≤ 1048576 ∧ a0.size + a1.size ≤ 1048576
  · obtain ⟨h1, h2, h3⟩ := hs
    by_cases he : (a0.toList == a1.toList) = true
    · go_enter Tryf.func3, Tryf.ntmps3
      go_wp2_with (first | (go_at_call 4; refine (bytesY _ _ _ (by omega) (by omega) (by omega)).mono ?_; rintro e w1 ⟨rfl, rfl⟩))
      all_goals
        go_ret
        exact ⟨rfl, Below.refl _ _⟩
    · have he' : (a0.toList == a1.toList) = false := by simpa using he
      have hne : ((tag.help a0).toList == (tag.help a1).toList) = false := by
        rw [beq_eq_false_iff_ne]
        intro e
        rw [ByteArray.toList_eq, ByteArray.toList_eq] at e
        have := tag.help_inj (ByteArray.ext (Array.toList_inj.1 e))
        subst this
        simp at he
      have hA : ∀ w', w'.tape = w.tape → Calls Tryf.prog 5 #[.string a0] w' fun e w'' => e = .returned (.string (tag.help a0)) ∧ Below w'.heap.size w' w'' := fun w' ht => help5 F a0 w' h1 (by rw [ht]; exact hF)
      have hB : ∀ w', w'.tape = w.tape → Calls Tryf.prog 5 #[.string a1] w' fun e w'' => e = .returned (.string (tag.help a1)) ∧ Below w'.heap.size w' w'' := fun w' ht => help5 F a1 w' h2 (by rw [ht]; exact hF)
      generalize tag.help a0 = X at hne hA
      generalize tag.help a1 = Y at hne hB
      have HA := Lib.hid hA
      have HB := Lib.hid hB
      clear hA hB he hF
      go_enter Tryf.func3, Tryf.ntmps3
      go_wp2_with (first | (go_at_call 4; refine (bytesY _ _ _ (by omega) (by omega) (by omega)).mono ?_; rintro e w1 ⟨rfl, rfl⟩))
      all_goals try (go_ret; exact ⟨rfl, Below.refl _ _⟩)
      refine (HA.out _ rfl).mono ?_
      rintro e w1 ⟨rfl, b1⟩
      have HT := Lib.hid b1.tape
      have K1 := Lib.hid b1
      clear b1
      go_wp2_with fail
      refine (HB.out _ HT.out).mono ?_
      rintro e w2 ⟨rfl, b2⟩
      have K2 := Lib.hid b2
      clear b2
      go_wp2_with fail
      go_ret
      exact ⟨rfl, below2 K1.out K2.out⟩
  · go_enter Tryf.func3, Tryf.ntmps3
    go_wp2_with (first | (go_at_call 4; refine (bytesN _ _ _ (by omega) (by omega) hs).mono ?_; rintro e w1 ⟨rfl, rfl⟩))
    go_ret
    exact ⟨rfl, Below.refl _ _⟩
end Go.Proofs.YtbknmeggdhaliaaFmt.fnTagHelpTextInjective
