/- The contracts of the law's own helpers: separators, letters, the split-and-join model. No conditions beyond the hypotheses. -/
import Derived.Test.YtifngbfkcpfagaaDoorGenB
import Derived.BigGuardPart
namespace Go.Proofs.YtifngbfkcpfagaaDoor.gen
open Go.ChangeShapes Go.WideShapes Go.ChangeAt Go.RowKit Go.Mine
set_option linter.unusedVariables false
set_option maxRecDepth 100000

/-- A letter or a digit. -/
def alB (c : Int) : Bool := isL c || isD c
set_option maxHeartbeats 1000000 in
theorem letter11 (c : Int) (w : World) (h0 : 0 ≤ c) (h1 : c ≤ 255) : Calls Tryd.prog 11 #[.int .u8 c] w fun e w' => e = .returned (.bool (isL c)) ∧ w = w' := by
  have hc : c < 65 ∨ (65 ≤ c ∧ c ≤ 90) ∨ (91 ≤ c ∧ c ≤ 96) ∨ (97 ≤ c ∧ c ≤ 122) ∨ 123 ≤ c := by omega
  have ht : ∀ b, isL c = b → Ending.returned (.bool b) = .returned (.bool (isL c)) := fun b h => by rw [h]
  rcases hc with h | ⟨h, h'⟩ | ⟨h, h'⟩ | ⟨h, h'⟩ | h
  all_goals
    have hb : ∃ b, isL c = b := ⟨_, rfl⟩
    go_enter Tryd.func11, Tryd.ntmps11
    go_wp2
    all_goals
      go_ret
      exact ⟨ht _ (Bool.eq_iff_iff.2 ⟨fun h => by have := (isL_iff c).1 h; unfold ltrI at this; first | rfl | (exfalso; omega) | exact decide_eq_true (by omega), fun h => (isL_iff c).2 (by unfold ltrI; first | omega | (exact absurd h (by decide)) | (have := of_decide_eq_true h; omega))⟩), rfl⟩
set_option maxHeartbeats 1000000 in
theorem alnum12 (c : Int) (w : World) (h0 : 0 ≤ c) (h1 : c ≤ 255) : Calls Tryd.prog 12 #[.int .u8 c] w fun e w' => e = .returned (.bool (alB c)) ∧ w = w' := by
  have ht : ∀ b, alB c = b → Ending.returned (.bool b) = .returned (.bool (alB c)) := fun b h => by rw [h]
  cases hl : isL c
  · have hd : c < 48 ∨ (48 ≤ c ∧ c ≤ 57) ∨ 58 ≤ c := by omega
    rcases hd with h | ⟨h, h'⟩ | h
    all_goals
      go_enter Tryd.func12, Tryd.ntmps12
      go_wp2_with (first | (go_at_call 11; (with_reducible refine (letter11 _ _ (by omega) (by omega)).mono ?_); rintro e w1 ⟨rfl, rfl⟩; rw [hl]))
      all_goals
        go_ret
        exact ⟨ht _ (by unfold alB; rw [hl, Bool.false_or]; exact Bool.eq_iff_iff.2 ⟨fun h => by have := (isD_iff c).1 h; unfold digI at this; first | rfl | (exfalso; omega) | exact decide_eq_true (by omega), fun h => (isD_iff c).2 (by unfold digI; first | omega | (exact absurd h (by decide)) | (have := of_decide_eq_true h; omega))⟩), rfl⟩
  · go_enter Tryd.func12, Tryd.ntmps12
    go_wp2_with (first | (go_at_call 11; (with_reducible refine (letter11 _ _ (by omega) (by omega)).mono ?_); rintro e w1 ⟨rfl, rfl⟩; rw [hl]))
    go_ret
    exact ⟨ht _ (by unfold alB; rw [hl]; rfl), rfl⟩
def sepB (c : Int) : Bool := c == 47 || c == 92 || c == 46
set_option maxHeartbeats 1000000 in
theorem sep8 (c : Int) (w : World) (h0 : 0 ≤ c) (h1 : c ≤ 255) : Calls Tryd.prog 8 #[.int .u8 c] w fun e w' => e = .returned (.bool (sepB c)) ∧ w = w' := by
  have ht : ∀ b, sepB c = b → Ending.returned (.bool b) = .returned (.bool (sepB c)) := fun b h => by rw [h]
  by_cases e1 : c = 47
  · subst e1
    go_enter Tryd.func8, Tryd.ntmps8
    go_wp2
    go_ret
    exact ⟨rfl, rfl⟩
  · by_cases e2 : c = 92
    · subst e2
      go_enter Tryd.func8, Tryd.ntmps8
      go_wp2
      go_ret
      exact ⟨rfl, rfl⟩
    · have q1 : (c == 47) = false := by simpa using e1
      have q2 : (c == 92) = false := by simpa using e2
      go_enter Tryd.func8, Tryd.ntmps8
      go_wp2
      go_ret
      exact ⟨ht _ (by unfold sepB; rw [q1, q2]; rfl), rfl⟩
def HasSep (s : ByteArray) (w : World) (e : Ending) (w' : World) : Prop := ∃ b, e = .returned (.bool b) ∧ (b = false → ∀ k, k < s.size → sepB (by8 s k) = false) ∧ w = w'
set_option maxHeartbeats 1000000 in
theorem has5 (s : ByteArray) (w : World) (hs : s.size ≤ 1048576) : Calls Tryd.prog 5 #[.string s] w (HasSep s w) := by
  go_enter Tryd.func5, Tryd.ntmps5
  go_wp2
  go_loop [3] (fun s3 => ∃ k : Nat, k ≤ s.size ∧ s3 = .int .i64 k ∧ Hid (∀ j, j < k → sepB (by8 s j) = false)) (fun s3 => s.size - (intOf s3).toNat)
  case atStart => exact ⟨0, Nat.zero_le _, rfl, fun j hj => absurd hj (Nat.not_lt_zero _)⟩
  case round =>
    obtain ⟨k, hk, rfl, hj⟩ := hrel
    by_cases hlt : k < s.size
    · have hb := s[k].toNat_lt
      have hE : Hid (by8 s k = (s[k].toNat : Int)) := Lib.hid (by8_eq hlt)
      have HS := Lib.hid (fun w' => sep8 (s[k].toNat : Int) w' (by omega) (by omega))
      cases hq : sepB (s[k].toNat : Int)
      · rw [hq] at HS
        have HQ := Lib.hid hq
        clear hq
        go_wp2_with (first | (go_at_call 8; (with_reducible refine (HS.out _).mono ?_); rintro e w1 ⟨rfl, rfl⟩))
        go_round
        case rel => exact ⟨k + 1, by omega, by go_num, fun j h => by
          rcases Nat.lt_or_ge j k with h1 | h1
          · exact hj.out j h1
          · obtain rfl : j = k := by omega
            rw [hE.out]
            exact HQ.out⟩
        case measure => simp [intOf]; omega
      · rw [hq] at HS
        clear hq
        go_wp2_with (first | (go_at_call 8; (with_reducible refine (HS.out _).mono ?_); rintro e w1 ⟨rfl, rfl⟩))
        go_ret
        exact ⟨true, rfl, (fun h => by cases h), rfl⟩
    · have e : k = s.size := by omega
      subst e
      go_wp2
      go_ret
      exact ⟨false, rfl, fun _ => hj.out, rfl⟩
end Go.Proofs.YtifngbfkcpfagaaDoor.gen
