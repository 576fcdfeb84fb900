/- Contracts of the element-wise comparisons of this seat. No conditions beyond their hypotheses. -/
import Derived.Test.YtfkamkbkpnnokabRows
import Derived.Test.YtfkamkbkpnnokabLib
import Derived.BigQuiet
import Derived.Deep.QuietTactic
namespace Go.Proofs.Ytfkamkbkpnnokab
open Go.ChangeShapes Go.WideShapes Go.ChangeAt Go.RowKit Go.Mine
set_option linter.unusedVariables false
set_option maxRecDepth 100000

theorem eq23 (a0 : Option Addr) (l0 c0 : Nat) (z0 : List Int) (a1 : Option Addr) (l1 c1 : Nat) (z1 : List Int) (w : World) (h0 : IntRow .u16 w a0 l0 c0 z0) (h1 : IntRow .u16 w a1 l1 c1 z1) :
    Calls Try.prog 23 #[.slice a0 l0 c0, .slice a1 l1 c1] w fun e w' => e = .returned (.bool (decide (z0 = z1))) ∧ ∃ n, w' = w.drewN n := by
  have hl0 : l0 ≤ 9223372036854775807 := by have := h0.2.1; have := h0.2.2.1; unfold maxLen at this; omega
  have hl1 : l1 ≤ 9223372036854775807 := by have := h1.2.1; have := h1.2.2.1; unfold maxLen at this; omega
  have hz0 := Lib.hid h0.1
  have hz1 := Lib.hid h1.1
  have H0 := Lib.hid h0
  have H1 := Lib.hid h1
  clear h0 h1
  by_cases hne : l0 = l1
  · subst hne
    have hq : ((l0 : Int) != (l0 : Int)) = false := by simp
    go_enter Try.func23, Try.ntmps23
    go_wp2
    go_loopw [5] (fun i wr => ∃ k n : Nat, k ≤ l0 ∧ i = .int .i64 k ∧ Hid (z0.take k = z1.take k) ∧ wr = w.drewN n) (fun i _ => l0 - (intOf i).toNat)
    case atStart => exact ⟨0, 0, Nat.zero_le _, rfl, rfl, rfl⟩
    case round =>
      obtain ⟨k, n, hk0, rfl, hrel, rfl⟩ := hrel
      by_cases hlt0 : k < l0
      · obtain ⟨b0, o0, e0, hb0, hc0⟩ := H0.out.at hlt0
        obtain ⟨b1, o1, e1, hb1, hc1⟩ := H1.out.at hlt0
        subst e0 e1
        obtain ⟨x, hx⟩ : ∃ x, x = z0.getD k 0 := ⟨_, rfl⟩
        obtain ⟨y, hy⟩ : ∃ y, y = z1.getD k 0 := ⟨_, rfl⟩
        rw [← hx] at hc0
        rw [← hy] at hc1
        have Hx := Lib.hid (And.intro (elt_of H0.out hlt0 hx) (elt_of H1.out hlt0 hy))
        clear hx hy
        by_cases ht : (x != y) = true
        · go_wp2
          go_quiet (fail)
          go_wp2
          go_ret
          obtain ⟨⟨q0, hx⟩, ⟨q1, hy⟩⟩ := Hx.out
          exact ⟨ret_bool2 (ne_of_elt q0 q1 hx hy ht), _, World.drewN_drewN _ _ _⟩
        · have ht : (x != y) = false := by simpa using ht
          go_wp2
          go_quiet (fail)
          go_wp2
          go_roundw
          case rel =>
            obtain ⟨⟨q0, hx⟩, ⟨q1, hy⟩⟩ := Hx.out
            exact ⟨k + 1, _, by omega, by go_num, (by show z0.take (k + 1) = z1.take (k + 1); rw [List.take_succ_eq_append_getElem q0, List.take_succ_eq_append_getElem q1, hrel.out, ← hx, ← hy]; simpa using ht), rfl⟩
          case measure => simp [intOf]; omega
      · have hn : k = l0 := by omega
        subst hn
        go_wp2
        go_ret
        refine ⟨ret_bool2 ?_, _, rfl⟩
        have h := hrel.out
        rw [List.take_of_length_le (by rw [hz0.out]; omega), List.take_of_length_le (by rw [hz1.out]; omega)] at h
        simp [h]
  · have hq : ((l0 : Int) != (l1 : Int)) = true := by simp; omega
    go_enter Try.func23, Try.ntmps23
    go_wp2
    go_ret
    refine ⟨ret_bool2 ?_, 0, rfl⟩
    symm
    rw [decide_eq_false_iff_not]
    intro he
    rw [← hz0.out, ← hz1.out, he] at hne
    exact hne rfl

theorem eq52 (a0 : Option Addr) (l0 c0 : Nat) (z0 : List Int) (a1 : Option Addr) (l1 c1 : Nat) (z1 : List Int) (w : World) (h0 : IntRow .u16 w a0 l0 c0 z0) (h1 : IntRow .u16 w a1 l1 c1 z1) :
    Calls Try.prog 52 #[.slice a0 l0 c0, .slice a1 l1 c1] w fun e w' => e = .returned (.bool (decide (z0 = z1))) ∧ ∃ n, w' = w.drewN n := by
  have hl0 : l0 ≤ 9223372036854775807 := by have := h0.2.1; have := h0.2.2.1; unfold maxLen at this; omega
  have hl1 : l1 ≤ 9223372036854775807 := by have := h1.2.1; have := h1.2.2.1; unfold maxLen at this; omega
  have hz0 := Lib.hid h0.1
  have hz1 := Lib.hid h1.1
  have H0 := Lib.hid h0
  have H1 := Lib.hid h1
  clear h0 h1
  by_cases hne : l0 = l1
  · subst hne
    have hq : ((l0 : Int) != (l0 : Int)) = false := by simp
    go_enter Try.func52, Try.ntmps52
    go_wp2
    go_loopw [5] (fun i wr => ∃ k n : Nat, k ≤ l0 ∧ i = .int .i64 k ∧ Hid (z0.take k = z1.take k) ∧ wr = w.drewN n) (fun i _ => l0 - (intOf i).toNat)
    case atStart => exact ⟨0, 0, Nat.zero_le _, rfl, rfl, rfl⟩
    case round =>
      obtain ⟨k, n, hk0, rfl, hrel, rfl⟩ := hrel
      by_cases hlt0 : k < l0
      · obtain ⟨b0, o0, e0, hb0, hc0⟩ := H0.out.at hlt0
        obtain ⟨b1, o1, e1, hb1, hc1⟩ := H1.out.at hlt0
        subst e0 e1
        obtain ⟨x, hx⟩ : ∃ x, x = z0.getD k 0 := ⟨_, rfl⟩
        obtain ⟨y, hy⟩ : ∃ y, y = z1.getD k 0 := ⟨_, rfl⟩
        rw [← hx] at hc0
        rw [← hy] at hc1
        have Hx := Lib.hid (And.intro (elt_of H0.out hlt0 hx) (elt_of H1.out hlt0 hy))
        clear hx hy
        by_cases ht : (x != y) = true
        · go_wp2
          go_quiet (fail)
          go_wp2
          go_ret
          obtain ⟨⟨q0, hx⟩, ⟨q1, hy⟩⟩ := Hx.out
          exact ⟨ret_bool2 (ne_of_elt q0 q1 hx hy ht), _, World.drewN_drewN _ _ _⟩
        · have ht : (x != y) = false := by simpa using ht
          go_wp2
          go_quiet (fail)
          go_wp2
          go_roundw
          case rel =>
            obtain ⟨⟨q0, hx⟩, ⟨q1, hy⟩⟩ := Hx.out
            exact ⟨k + 1, _, by omega, by go_num, (by show z0.take (k + 1) = z1.take (k + 1); rw [List.take_succ_eq_append_getElem q0, List.take_succ_eq_append_getElem q1, hrel.out, ← hx, ← hy]; simpa using ht), rfl⟩
          case measure => simp [intOf]; omega
      · have hn : k = l0 := by omega
        subst hn
        go_wp2
        go_ret
        refine ⟨ret_bool2 ?_, _, rfl⟩
        have h := hrel.out
        rw [List.take_of_length_le (by rw [hz0.out]; omega), List.take_of_length_le (by rw [hz1.out]; omega)] at h
        simp [h]
  · have hq : ((l0 : Int) != (l1 : Int)) = true := by simp; omega
    go_enter Try.func52, Try.ntmps52
    go_wp2
    go_ret
    refine ⟨ret_bool2 ?_, 0, rfl⟩
    symm
    rw [decide_eq_false_iff_not]
    intro he
    rw [← hz0.out, ← hz1.out, he] at hne
    exact hne rfl

end Go.Proofs.Ytfkamkbkpnnokab
