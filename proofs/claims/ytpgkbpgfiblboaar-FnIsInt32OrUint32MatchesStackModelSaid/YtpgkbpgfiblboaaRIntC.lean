/- The contracts of 'isInt32OrUint32' and of the stack model of the package n011_294. No conditions beyond their hypotheses. -/
import Derived.Test.YtpgkbpgfiblboaaRIntB
import Derived.Deep.AppendLies
import Derived.Laws.MakeOwn
namespace Go.Proofs.YtpgkbpgfiblboaaR.i32
open Go.ChangeShapes Go.WideShapes Go.ChangeAt Go.RowKit Go.Mine
set_option linter.unusedVariables false
set_option maxRecDepth 100000

theorem opc_cases (k : Int) : (k = 1 ∧ opc k = 25) ∨ (k = 2 ∧ opc k = 31) ∨ (k = 3 ∧ opc k = 32) ∨ (k ≠ 1 ∧ k ≠ 2 ∧ k ≠ 3 ∧ (opc k = 30 ∨ opc k = 11)) := by
  unfold opc
  by_cases h1 : k = 1
  · simp [h1]
  · by_cases h2 : k = 2
    · simp [h2]
    · by_cases h3 : k = 3
      · simp [h3]
      · by_cases h7 : k = 7
        · simp [h7]
        · simp [h1, h2, h3, h7]
set_option maxHeartbeats 1000000 in
theorem is23 : ∀ (t : Tr) (w : World) (B T p : Nat), rep w B t T p → Calls Try.prog 23 #[.iface T (.pointer (some ⟨p, 0, none⟩))] w fun e w' => e = .returned (.bool t.ev) ∧ w' = w
  | .num, w, B, T, p, h => by
    obtain rfl : T = 48 := h
    go_enter Try.func23, Try.ntmps23
    go_wp2_with fail
    go_ret
    exact ⟨rfl, rfl⟩
  | .un _, w, B, T, p, h => by
    obtain rfl : T = 58 := h
    go_enter Try.func23, Try.ntmps23
    go_wp2_with fail
    go_ret
    exact ⟨rfl, rfl⟩
  | .bin k l r, w, B, T, p, h => by
    obtain ⟨rfl, _, c4, Tl, pl, Tr', pr, c0, c2, hl, hr⟩ := h
    have IL := Lib.hid (is23 l w B Tl pl hl)
    have IR := Lib.hid (is23 r w B Tr' pr hr)
    unfold pt at c0 c2
    clear hl hr
    have E : Hid (Tr.ev (.bin k l r) = if k = 1 then true else if k = 2 ∨ k = 3 then l.ev && r.ev else false) := rfl
    rw [E.out]
    clear E
    obtain ⟨a, ha⟩ : ∃ a, a = l.ev := ⟨_, rfl⟩
    obtain ⟨b, hb⟩ : ∃ b, b = r.ev := ⟨_, rfl⟩
    rw [← ha] at IL ⊢
    rw [← hb] at IR ⊢
    clear ha hb
    rcases opc_cases k with ⟨rfl, e⟩ | ⟨rfl, e⟩ | ⟨rfl, e⟩ | ⟨h1, h2, h3, e | e⟩
    · rw [e] at c4
      clear e
      rw [if_pos rfl]
      go_enter Try.func23, Try.ntmps23
      go_wp2_with fail
      go_ret
      exact ⟨rfl, rfl⟩
    · rw [e] at c4
      clear e
      rw [if_neg (by decide), if_pos (.inl rfl)]
      cases a <;> cases b
      all_goals
        go_enter Try.func23, Try.ntmps23
        go_wp2_with (first | (go_at_call 23; (with_reducible refine (IL.out).mono ?_); rintro e w' ⟨rfl, rfl⟩) | (go_at_call 23; (with_reducible refine (IR.out).mono ?_); rintro e w' ⟨rfl, rfl⟩))
        go_ret
        exact ⟨rfl, rfl⟩
    · rw [e] at c4
      clear e
      rw [if_neg (by decide), if_pos (.inr rfl)]
      cases a <;> cases b
      all_goals
        go_enter Try.func23, Try.ntmps23
        go_wp2_with (first | (go_at_call 23; (with_reducible refine (IL.out).mono ?_); rintro e w' ⟨rfl, rfl⟩) | (go_at_call 23; (with_reducible refine (IR.out).mono ?_); rintro e w' ⟨rfl, rfl⟩))
        go_ret
        exact ⟨rfl, rfl⟩
    all_goals
      rw [e] at c4
      rw [if_neg h1, if_neg (by rintro (h | h) <;> contradiction)]
      clear e h1 h2 h3
      go_enter Try.func23, Try.ntmps23
      go_wp2_with fail
      go_ret
      exact ⟨rfl, rfl⟩
  | .tern a0 l r, w, B, T, p, h => by
    obtain ⟨rfl, _, Tl, pl, Tr', pr, c2, c4, hl, hr⟩ := h
    have IL := Lib.hid (is23 l w B Tl pl hl)
    have IR := Lib.hid (is23 r w B Tr' pr hr)
    unfold pt at c2 c4
    clear hl hr
    have E : Hid (Tr.ev (.tern a0 l r) = (l.ev && r.ev)) := rfl
    rw [E.out]
    clear E
    obtain ⟨a, ha⟩ : ∃ a, a = l.ev := ⟨_, rfl⟩
    obtain ⟨b, hb⟩ : ∃ b, b = r.ev := ⟨_, rfl⟩
    rw [← ha] at IL ⊢
    rw [← hb] at IR ⊢
    clear ha hb
    cases a <;> cases b
    all_goals
      go_enter Try.func23, Try.ntmps23
      go_wp2_with (first | (go_at_call 23; (with_reducible refine (IL.out).mono ?_); rintro e w' ⟨rfl, rfl⟩) | (go_at_call 23; (with_reducible refine (IR.out).mono ?_); rintro e w' ⟨rfl, rfl⟩))
      go_ret
      exact ⟨rfl, rfl⟩
end Go.Proofs.YtpgkbpgfiblboaaR.i32
