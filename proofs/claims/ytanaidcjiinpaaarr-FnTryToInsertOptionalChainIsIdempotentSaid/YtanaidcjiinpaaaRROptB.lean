/- The contract of 'ValuesLookTheSame' on two chains. No conditions beyond the hypotheses. -/
import Derived.Test.YtanaidcjiinpaaaRROptA
namespace Go.Proofs.YtanaidcjiinpaaaRR.opt
open Go.ChangeShapes Go.WideShapes Go.ChangeAt Go.RowKit Go.Mine
set_option linter.unusedVariables false
set_option linter.unusedSimpArgs false
set_option maxRecDepth 100000

theorem eqU (a0 : Option Addr) (l0 c0 : Nat) (z0 : List Int) (a1 : Option Addr) (l1 c1 : Nat) (z1 : List Int) (w : World) (h0 : IntRow .u16 w a0 l0 c0 z0) (h1 : IntRow .u16 w a1 l1 c1 z1) :
    Calls Try.prog 22 #[.slice a0 l0 c0, .slice a1 l1 c1] w fun e w' => e = .returned (.bool (decide (z0 = z1))) ∧ w' = w := by
  have hl0 : l0 ≤ 9223372036854775807 := by have := h0.2.1; have := h0.2.2.1; unfold maxLen at this; omega
  have hl1 : l1 ≤ 9223372036854775807 := by have := h1.2.1; have := h1.2.2.1; unfold maxLen at this; omega
  have hz0 := Lib.hid h0.1
  have hz1 := Lib.hid h1.1
  have H0 := Lib.hid h0
  have H1 := Lib.hid h1
  clear h0 h1
  by_cases hne : l0 = l1
  · subst hne
    have hq : ((l0 : Int) == (l0 : Int)) = true := by simp
    go_enter Try.func22, Try.ntmps22
    go_wp2
    go_loop [14] (fun i => ∃ k : Nat, k ≤ l0 ∧ i = .int .i64 k ∧ Hid (z0.take k = z1.take k)) (fun i => l0 - (intOf i).toNat)
    case atStart => exact ⟨0, Nat.zero_le _, rfl, rfl⟩
    case round =>
      obtain ⟨k, hk0, rfl, hrel⟩ := hrel
      by_cases hlt0 : k < l0
      · obtain ⟨b0, o0, e0, hb0, hc0⟩ := H0.out.at hlt0
        obtain ⟨b1, o1, e1, hb1, hc1⟩ := H1.out.at hlt0
        subst e0 e1
        obtain ⟨x, hx⟩ : ∃ x, x = z0.getD k 0 := ⟨_, rfl⟩
        obtain ⟨y, hy⟩ : ∃ y, y = z1.getD k 0 := ⟨_, rfl⟩
        rw [← hx] at hc0
        rw [← hy] at hc1
        have Hx := Lib.hid (And.intro (elt_of H0.out hlt0 hx) (elt_of H1.out hlt0 hy))
        clear hx hy
        by_cases ht : (x != y) = true
        · go_wp2
          go_ret
          obtain ⟨⟨q0, hx⟩, ⟨q1, hy⟩⟩ := Hx.out
          exact ⟨ret_bool2 (ne_of_elt q0 q1 hx hy ht), rfl⟩
        · have ht : (x != y) = false := by simpa using ht
          go_wp2
          go_round
          case rel =>
            obtain ⟨⟨q0, hx⟩, ⟨q1, hy⟩⟩ := Hx.out
            exact ⟨k + 1, by omega, by go_num, (by show z0.take (k + 1) = z1.take (k + 1); rw [List.take_succ_eq_append_getElem q0, List.take_succ_eq_append_getElem q1, hrel.out, ← hx, ← hy]; simpa using ht)⟩
          case measure => simp [intOf]; omega
      · have hn : k = l0 := by omega
        subst hn
        go_wp2
        go_ret
        refine ⟨ret_bool2 ?_, rfl⟩
        have h := hrel.out
        rw [List.take_of_length_le (by rw [hz0.out]; omega), List.take_of_length_le (by rw [hz1.out]; omega)] at h
        simp [h]
  · have hq : ((l0 : Int) == (l1 : Int)) = false := by simp; omega
    go_enter Try.func22, Try.ntmps22
    go_wp2
    go_ret
    refine ⟨ret_bool2 ?_, rfl⟩
    symm
    rw [decide_eq_false_iff_not]
    intro he
    rw [← hz0.out, ← hz1.out, he] at hne
    exact hne rfl
theorem ceNo (T T2 : Nat) (v v2 : Value) (w : World) (hT : T = 47 ∨ T = 42 ∨ T = 43 ∨ T = 44) (h2 : T2 = 47 ∨ T2 = 42 ∨ T2 = 43 ∨ T2 = 44) :
    Calls Try.prog 18 #[.iface T v, .iface T2 v2, .int .u8 1] w fun e w' => e = .returned (.tuple #[.bool false, .bool false]) ∧ w = w' := by
  have hne : T2 ≠ 68 := by omega
  clear h2
  rcases hT with rfl | rfl | rfl | rfl
  all_goals
    go_enter Try.func18, Try.ntmps18
    go_wp2
    go_ret2
    exact ⟨rfl, rfl⟩
theorem ceStr (p q : Nat) (la ra : Option Addr) (l0 c0 l1 c1 : Nat) (lz rz : List Int) (w : World) (hl : w.cell? ⟨p, 0, none⟩ = some (.slice la l0 c0)) (hsl : IntRow .u16 w la l0 c0 lz) (hr : w.cell? ⟨q, 0, none⟩ = some (.slice ra l1 c1)) (hsr : IntRow .u16 w ra l1 c1 rz) :
    Calls Try.prog 18 #[ifp 55 p, ifp 55 q, .int .u8 1] w fun e w' => e = .returned (.tuple #[.bool (decide (lz = rz)), .bool true]) ∧ ∃ n, w' = w.drewN n := by
  have H := Lib.hid fun m => eqU la l0 c0 lz ra l1 c1 rz (w.drewN m) (hsl.same ((Same.refl (fun _ => False) w).drewN m) (fun _ _ h => h)) (hsr.same ((Same.refl (fun _ => False) w).drewN m) (fun _ _ h => h))
  clear hsl hsr
  go_enter Try.func18, Try.ntmps18
  go_wp2_with fail
  go_quiet ((go_at_call 22; exact Calls.quiet_of_same (H.out _)))
  go_wp2
  go_ret2
  exact ⟨rfl, _, rfl⟩
def fb (a b : Int) : Bool := a == b
theorem hsD (p q : Nat) (o1 o2 : Int) (w : World)
    (c1 : w.cell? ⟨p, 4, none⟩ = some (.int .u8 o1)) (c2 : w.cell? ⟨p, 5, none⟩ = some (.bool false)) (c3 : w.cell? ⟨p, 6, none⟩ = some (.bool false)) (c4 : w.cell? ⟨p, 7, none⟩ = some (.bool false))
    (e1 : w.cell? ⟨q, 4, none⟩ = some (.int .u8 o2)) (e2 : w.cell? ⟨q, 5, none⟩ = some (.bool false)) (e3 : w.cell? ⟨q, 6, none⟩ = some (.bool false)) (e4 : w.cell? ⟨q, 7, none⟩ = some (.bool false)) :
    Calls Try.prog 14 #[.pointer (some ⟨p, 0, none⟩), .pointer (some ⟨q, 0, none⟩)] w fun e w' => e = .returned (.bool (fb o1 o2)) ∧ ∃ n, w' = w.drewN n := by
  by_cases h1 : (o1 == o2) = true
  · go_enter Try.func14, Try.ntmps14
    go_wp2
    go_quiet (fail)
    go_wp2
    go_ret
    exact ⟨ret_bool2 (by simp [fb, h1]), _, rfl⟩
  · have h1 : (o1 == o2) = false := by simpa using h1
    go_enter Try.func14, Try.ntmps14
    go_wp2
    go_quiet (fail)
    go_wp2
    go_ret
    exact ⟨ret_bool2 (by simp [fb, h1]), _, rfl⟩
theorem hsX (p q : Nat) (o1 o2 : Int) (w : World)
    (c1 : w.cell? ⟨p, 5, none⟩ = some (.int .u8 o1)) (c2 : w.cell? ⟨p, 6, none⟩ = some (.bool false)) (c3 : w.cell? ⟨p, 7, none⟩ = some (.bool false)) (c4 : w.cell? ⟨p, 8, none⟩ = some (.bool false))
    (e1 : w.cell? ⟨q, 5, none⟩ = some (.int .u8 o2)) (e2 : w.cell? ⟨q, 6, none⟩ = some (.bool false)) (e3 : w.cell? ⟨q, 7, none⟩ = some (.bool false)) (e4 : w.cell? ⟨q, 8, none⟩ = some (.bool false)) :
    Calls Try.prog 15 #[.pointer (some ⟨p, 0, none⟩), .pointer (some ⟨q, 0, none⟩)] w fun e w' => e = .returned (.bool (fb o1 o2)) ∧ ∃ n, w' = w.drewN n := by
  by_cases h1 : (o1 == o2) = true
  · go_enter Try.func15, Try.ntmps15
    go_wp2
    go_quiet (fail)
    go_wp2
    go_ret
    exact ⟨ret_bool2 (by simp [fb, h1]), _, rfl⟩
  · have h1 : (o1 == o2) = false := by simpa using h1
    go_enter Try.func15, Try.ntmps15
    go_wp2
    go_quiet (fail)
    go_wp2
    go_ret
    exact ⟨ret_bool2 (by simp [fb, h1]), _, rfl⟩
theorem hsC (p q : Nat) (o1 o2 : Int) (w : World)
    (c1 : w.cell? ⟨p, 4, none⟩ = some (.int .u8 o1)) (c2 : w.cell? ⟨p, 5, none⟩ = some (.int .u8 0)) (c3 : w.cell? ⟨p, 7, none⟩ = some (.bool false))
    (e1 : w.cell? ⟨q, 4, none⟩ = some (.int .u8 o2)) (e2 : w.cell? ⟨q, 5, none⟩ = some (.int .u8 0)) (e3 : w.cell? ⟨q, 7, none⟩ = some (.bool false)) :
    Calls Try.prog 16 #[.pointer (some ⟨p, 0, none⟩), .pointer (some ⟨q, 0, none⟩)] w fun e w' => e = .returned (.bool (fb o1 o2)) ∧ ∃ n, w' = w.drewN n := by
  by_cases h1 : (o1 == o2) = true
  · go_enter Try.func16, Try.ntmps16
    go_wp2
    go_quiet (fail)
    go_wp2
    go_ret
    exact ⟨ret_bool2 (by simp [fb, h1]), _, rfl⟩
  · have h1 : (o1 == o2) = false := by simpa using h1
    go_enter Try.func16, Try.ntmps16
    go_wp2
    go_quiet (fail)
    go_wp2
    go_ret
    exact ⟨ret_bool2 (by simp [fb, h1]), _, rfl⟩
end Go.Proofs.YtanaidcjiinpaaaRR.opt
