/- The contracts of the bounds that are looked at ahead of the script. No conditions beyond the hypotheses. -/
import Derived.Test.YtbjebcbdednijaaRows
import Derived.Test.YtbjebcbdednijaaLib
import Derived.Outline
namespace Go.Proofs.Ytbjebcbdednijaa.add
open Go.ChangeShapes Go.WideShapes Go.ChangeAt Go.RowKit Go.Mine
set_option linter.unusedVariables false
set_option linter.unusedSimpArgs false
set_option maxRecDepth 100000

theorem _root_.Go.Mine.RowOf.okAt {w : World} {a : Option Addr} {len cap : Nat} {zs : List ByteArray} (h : StrRow w a len cap zs) {i : Nat} (hi : i < len) : (zs.getD i ByteArray.empty).size ≤ 9223372036854775807 := by
  have hl : i < zs.length := by rw [h.1]; exact hi
  have := h.2.2.2.1 (zs.getD i ByteArray.empty) (by simp [hl])
  unfold maxLen at this
  exact this
/-- What the first look leaves known. -/
structure Small (l0 l1 l2 l3 l4 l5 l6 : Nat) (z4 : List ByteArray) : Prop where
  h0 : l0 ≤ 1048576
  h1 : l1 ≤ 1048576
  h2 : l2 ≤ 1048576
  h3 : l3 ≤ 1048576
  h4 : l4 ≤ 1048576
  h5 : l5 ≤ 1048576
  h6 : l6 ≤ 1048576
  hz : ∀ j, j < l4 → (z4.getD j ByteArray.empty).size ≤ 1048576
def Bytes (l0 l1 l2 l3 l4 l5 l6 : Nat) (z4 : List ByteArray) (w : World) (e : Ending) (w' : World) : Prop :=
  ∃ b : Bool, e = .returned (.bool b) ∧ (b = true → Small l0 l1 l2 l3 l4 l5 l6 z4) ∧ w = w'
set_option maxHeartbeats 8000000 in
theorem bytes4 (a0 a1 a2 a3 a4 a5 a6 : Option Addr) (l0 l1 l2 l3 l4 l5 l6 c0 c1 c2 c3 c4 c5 c6 : Nat) (z4 : List ByteArray) (w : World) (h4 : StrRow w a4 l4 c4 z4)
    (m0 : l0 ≤ 9223372036854775807) (m1 : l1 ≤ 9223372036854775807) (m2 : l2 ≤ 9223372036854775807) (m3 : l3 ≤ 9223372036854775807) (m4 : l4 ≤ 9223372036854775807) (m5 : l5 ≤ 9223372036854775807) (m6 : l6 ≤ 9223372036854775807) :
    Calls Try.prog 4 #[.slice a0 l0 c0, .slice a1 l1 c1, .slice a2 l2 c2, .slice a3 l3 c3, .slice a4 l4 c4, .slice a5 l5 c5, .slice a6 l6 c6] w (Bytes l0 l1 l2 l3 l4 l5 l6 z4 w) := by
  have H4 := Lib.hid h4
  clear h4
  have hno : ∀ b, b = false → Bytes l0 l1 l2 l3 l4 l5 l6 z4 w (.returned (.bool b)) w := fun b hb => ⟨b, rfl, (fun h => absurd (hb.symm.trans h) (by decide)), rfl⟩
  have HN := Lib.hid hno
  clear hno
  go_enter Try.func4, Try.ntmps4
  go_wp2
  all_goals try (go_ret; exact HN.out _ rfl)
  have g0 : l0 ≤ 1048576 := by omega
  have g1 : l1 ≤ 1048576 := by omega
  have g2 : l2 ≤ 1048576 := by omega
  have g3 : l3 ≤ 1048576 := by omega
  have g4 : l4 ≤ 1048576 := by omega
  have gs : l0 + l1 + l2 + l3 + l4 ≤ 1048576 := by omega
  go_loop [15, 16] (fun s15 s16 => ∃ (k : Nat) (t : Int), k ≤ l4 ∧ 0 ≤ t ∧ t ≤ 1048576 ∧ s15 = .int .i64 t ∧ s16 = .int .i64 k ∧ Hid (∀ j, j < k → (z4.getD j ByteArray.empty).size ≤ 1048576)) (fun _ s16 => l4 - (intOf s16).toNat)
  case atStart => exact ⟨0, _, Nat.zero_le _, by omega, by omega, rfl, rfl, fun j hj => absurd hj (Nat.not_lt_zero _)⟩
  case round =>
    obtain ⟨k, t, hk, ht0, ht1, rfl, rfl, hj⟩ := hrel
    by_cases hlt : k < l4
    · obtain ⟨b, off, rfl, hb, hc⟩ := H4.out.at hlt
      have hsm : (z4.getD k ByteArray.empty).size ≤ 9223372036854775807 := H4.out.okAt hlt
      have HJ : Hid ((z4.getD k ByteArray.empty).size ≤ 1048576 → ∀ j, j < k + 1 → (z4.getD j ByteArray.empty).size ≤ 1048576) := Lib.hid fun h j hlt' => by
        rcases Nat.lt_or_ge j k with h1 | h1
        · exact hj.out j h1
        · obtain rfl : j = k := by omega
          exact h
      generalize z4.getD k ByteArray.empty = s at hc hsm HJ
      go_wp2
      · go_ret
        exact HN.out _ rfl
      · go_ret
        exact HN.out _ rfl
      · go_round
        case rel => exact ⟨k + 1, _, by omega, by omega, by omega, rfl, by go_num, HJ.out (by omega)⟩
        case measure => simp [intOf]; omega
    · have e : k = l4 := by omega
      subst e
      go_wp2
      all_goals try (go_ret; exact HN.out _ rfl)
      go_ret
      exact ⟨true, rfl, fun _ => ⟨g0, g1, g2, g3, g4, by omega, by omega, hj.out⟩, rfl⟩
theorem strs25 (a : Option Addr) (l c : Nat) (z : List ByteArray) (w : World) (h : StrRow w a l c z) (hl : l ≤ 1048576) (hz : ∀ j, j < l → (z.getD j ByteArray.empty).size ≤ 1048576) :
    Calls Try.prog 25 #[.slice a l c] w fun e w' => (∃ t : Int, 0 ≤ t ∧ t ≤ 33554432 ∧ e = .returned (.int .i64 t)) ∧ w = w' := by
  have H := Lib.hid h
  have HZ := Lib.hid hz
  clear h hz
  go_enter Try.func25, Try.ntmps25
  go_wp2
  go_loop [3, 4] (fun s3 s4 => ∃ (k : Nat) (t : Int), k ≤ l ∧ 0 ≤ t ∧ t ≤ 16777216 ∧ s3 = .int .i64 t ∧ s4 = .int .i64 k) (fun _ s4 => l - (intOf s4).toNat)
  case atStart => exact ⟨0, _, Nat.zero_le _, by omega, by omega, rfl, rfl⟩
  case round =>
    obtain ⟨k, t, hk, ht0, ht1, rfl, rfl⟩ := hrel
    by_cases hlt : k < l
    · obtain ⟨b, off, rfl, hb, hc⟩ := H.out.at hlt
      have hs := HZ.out k hlt
      generalize z.getD k ByteArray.empty = s at *
      go_wp2
      · go_ret
        exact ⟨⟨_, by omega, by omega, rfl⟩, rfl⟩
      · go_round
        case rel => exact ⟨k + 1, _, by omega, by omega, by omega, rfl, by go_num⟩
        case measure => simp [intOf]; omega
    · go_wp2
      go_ret
      exact ⟨⟨_, by omega, by omega, rfl⟩, rfl⟩
set_option maxHeartbeats 2000000 in
theorem total5 (a0 a1 a2 a3 a4 a5 a6 : Option Addr) (l0 l1 l2 l3 l4 l5 l6 c0 c1 c2 c3 c4 c5 c6 : Nat) (z4 : List ByteArray) (w : World) (h4 : StrRow w a4 l4 c4 z4) (hs : Small l0 l1 l2 l3 l4 l5 l6 z4) :
    Calls Try.prog 5 #[.slice a0 l0 c0, .slice a1 l1 c1, .slice a2 l2 c2, .slice a3 l3 c3, .slice a4 l4 c4, .slice a5 l5 c5, .slice a6 l6 c6] w fun e w' => (∃ t : Int, e = .returned (.int .i64 t)) ∧ w = w' := by
  obtain ⟨h0, h1, h2, h3, hl4, h5, h6, hz⟩ := hs
  have HS := Lib.hid (strs25 a4 l4 c4 z4 w h4 hl4 hz)
  clear h4 hz
  go_enter Try.func5, Try.ntmps5
  go_wp2_with (first | (go_at_call 25; (with_reducible refine HS.out.mono ?_); rintro e w1 ⟨⟨t, t0, t1, rfl⟩, rfl⟩))
  go_ret
  exact ⟨⟨_, rfl⟩, rfl⟩
end Go.Proofs.Ytbjebcbdednijaa.add
