/- The walk of the law 'FnGenerateNameIndexUsesDirectory': it returns true and leaves what was there as it was. No conditions beyond its hypotheses. -/
import Derived.Test.YtifngbfkcpfagaaDoorGenG
import Derived.Test.YtifngbfkcpfagaaDoorGenE
import Derived.Test.YtifngbfkcpfagaaDoorGenF
namespace Go.Proofs.YtifngbfkcpfagaaDoor.gen
open Go.ChangeShapes Go.WideShapes Go.ChangeAt Go.RowKit Go.Mine
set_option linter.unusedVariables false
set_option maxRecDepth 100000

theorem bytesY (a b : ByteArray) (w : World) (ha : a.size ≤ 1048576) (hb : b.size ≤ 1048576) (hc : a.size + b.size ≤ 1048576) :
    Calls Tryd.prog 4 #[.string a, .string b] w fun e w' => e = .returned (.bool true) ∧ w = w' := by
  go_enter Tryd.func4, Tryd.ntmps4
  go_wp2
  go_ret
  exact ⟨rfl, rfl⟩
set_option maxHeartbeats 1000000 in
theorem bytesN (a b : ByteArray) (w : World) (ha : a.size ≤ 9223372036854775807) (hb : b.size ≤ 9223372036854775807) (h : ¬ (a.size ≤ 1048576 ∧ b.size ≤ 1048576 ∧ a.size + b.size ≤ 1048576)) :
    Calls Tryd.prog 4 #[.string a, .string b] w fun e w' => e = .returned (.bool false) ∧ w = w' := by
  by_cases h1 : a.size ≤ 1048576
  · by_cases h2 : b.size ≤ 1048576
    · have h3 : ¬ a.size + b.size ≤ 1048576 := fun h3 => h ⟨h1, h2, h3⟩
      clear h
      go_enter Tryd.func4, Tryd.ntmps4
      go_wp2
      go_ret
      exact ⟨rfl, rfl⟩
    · clear h
      go_enter Tryd.func4, Tryd.ntmps4
      go_wp2
      go_ret
      exact ⟨rfl, rfl⟩
  · clear h
    go_enter Tryd.func4, Tryd.ntmps4
    go_wp2
    go_ret
    exact ⟨rfl, rfl⟩
def Post (w : World) (e : Ending) (w' : World) : Prop := e = .returned (.bool true) ∧ Below w.heap.size w w'
theorem noSep {s : ByteArray} (h : ∀ k, k < s.size → sepB (by8 s k) = false) : ∀ b ∈ s.data.toList, b ≠ 47 ∧ b ≠ 92 ∧ b ≠ 46 := by
  intro b hb
  obtain ⟨k, hk, e⟩ := List.getElem_of_mem hb
  have hk' : k < s.size := by simpa using hk
  have h1 := h k hk'
  rw [by8_eq hk'] at h1
  have e2 : s[k]'hk' = b := by rw [← e]; rfl
  rw [e2] at h1
  unfold sepB at h1
  refine ⟨?_, ?_, ?_⟩ <;> (rintro rfl; exact absurd h1 (by decide))
set_option maxHeartbeats 4000000 in
theorem walk (a0 : ByteArray) (a1 : ByteArray) (w : World) (w0 : a0.size ≤ maxLen) (w1 : a1.size ≤ maxLen) (hT : Lib.Utf8Tabs 1 2 w) :
    Calls Tryd.prog 3 #[.string a0, .string a1] w (Post w) := by
  unfold maxLen at w0 w1
  by_cases hs : a0.size ≤ 1048576 ∧ a1.size ≤ 1048576 ∧ a0.size + a1.size ≤ 1048576
  · obtain ⟨h1, h2, h3⟩ := hs
    by_cases h0 : a1.size = 0
    · go_enter Tryd.func3, Tryd.ntmps3
      go_wp2_with (first | (go_at_call 4; refine (bytesY _ _ _ (by omega) (by omega) (by omega)).mono ?_; rintro e w1 ⟨rfl, rfl⟩))
      all_goals
        go_ret
        exact ⟨rfl, Below.refl _ _⟩
    · have h5 := Lib.hid (has5 a1 w h2)
      have hne : a1.data.toList ≠ [] := fun e => h0 (by have := congrArg List.length e; simpa using this)
      have h7 := Lib.hid (fun (hp : ∀ k, k < a1.size → sepB (by8 a1 k) = false) (P : ByteArray) (hP : P.data.toList = (a0.data.toList ++ 47 :: a1.data.toList) ++ 47 :: idxL) =>
        gen6 a1 P a0.data.toList w hP hne (fun b hb => ⟨(noSep hp b hb).1, (noSep hp b hb).2.1⟩) (fun b hb => (noSep hp b hb).2.2) h2 (by have q := congrArg List.length hP; simp [idxL] at q; omega) hT)
      have h8 := Lib.hid (fun w' => model7 a1 w' h2)
      clear hT hne
      go_enter Tryd.func3, Tryd.ntmps3
      go_wp2_with (first | (go_at_call 4; refine (bytesY _ _ _ (by omega) (by omega) (by omega)).mono ?_; rintro e w1 ⟨rfl, rfl⟩))
      all_goals try (go_ret; exact ⟨rfl, Below.refl _ _⟩)
      refine h5.out.mono ?_
      rintro e w1 ⟨b, rfl, hb, rfl⟩
      cases b
      · have HP := Lib.hid (hb rfl)
        clear hb
        go_wp2_with fail
        refine (h7.out HP.out _ (by simp [idxL])).mono ?_
        rintro e w1 ⟨rfl, b1⟩
        have K1 := Lib.hid b1
        clear b1
        go_wp2_with fail
        refine (h8.out _).mono ?_
        rintro e w2 ⟨rfl, b2⟩
        have K2 := Lib.hid b2
        clear b2
        go_wp2_with fail
        go_ret
        exact ⟨rfl, below2 K1.out K2.out⟩
      · clear hb
        go_wp2_with fail
        go_ret
        exact ⟨rfl, Below.refl _ _⟩
  · go_enter Tryd.func3, Tryd.ntmps3
    go_wp2_with (first | (go_at_call 4; refine (bytesN _ _ _ (by omega) (by omega) hs).mono ?_; rintro e w1 ⟨rfl, rfl⟩))
    go_ret
    exact ⟨rfl, Below.refl _ _⟩
end Go.Proofs.YtifngbfkcpfagaaDoor.gen
