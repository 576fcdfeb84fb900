/- The law's bounds: what 'zzBytes' and 'zzChainBytes' say. No conditions beyond the hypotheses. -/
import Derived.Test.YtanaidcjiinpaaaRROptG
namespace Go.Proofs.YtanaidcjiinpaaaRR.opt
open Go.ChangeShapes Go.WideShapes Go.ChangeAt Go.RowKit Go.Mine
set_option linter.unusedVariables false
set_option linter.unusedSimpArgs false
set_option maxRecDepth 100000

def Small (z : List ByteArray) (l : Nat) : Prop := ∀ j, j < l → (z.getD j ByteArray.empty).size ≤ 1048576
def By (P : Prop) (w : World) (e : Ending) (w' : World) : Prop := (∃ r : Bool, e = .returned (.bool r) ∧ (r = true → P)) ∧ w = w'
theorem small_succ {z : List ByteArray} {k : Nat} (h : Small z k) (hk : (z.getD k ByteArray.empty).size ≤ 1048576) : Small z (k + 1) := fun j hj => by
  by_cases e : j = k
  · subst e; exact hk
  · exact h j (by omega)
set_option maxHeartbeats 4000000 in
theorem bytes4 (r0 r3 : Int) (a1 : Option Addr) (l1 c1 : Nat) (a2 : Option Addr) (l2 c2 : Nat) (z2 : List ByteArray) (a4 : Option Addr) (l4 c4 : Nat) (a5 : Option Addr) (l5 c5 : Nat) (z5 : List ByteArray) (w : World) (h1 : l1 ≤ maxLen) (h2 : StrRow w a2 l2 c2 z2) (h4 : l4 ≤ maxLen) (h5 : StrRow w a5 l5 c5 z5) :
    Calls Try.prog 4 #[.int .u32 r0, .slice a1 l1 c1, .slice a2 l2 c2, .int .u32 r3, .slice a4 l4 c4, .slice a5 l5 c5] w (By (Small z2 l2 ∧ Small z5 l5 ∧ l1 ≤ 1048576 ∧ l2 ≤ 1048576 ∧ l4 ≤ 1048576 ∧ l5 ≤ 1048576) w) := by
  have m2 : l2 ≤ maxLen := Nat.le_trans h2.2.1 h2.2.2.1
  have m5 : l5 ≤ maxLen := Nat.le_trans h5.2.1 h5.2.2.1
  unfold maxLen at h1 m2 h4 m5
  have H2 := Lib.hid h2
  have H5 := Lib.hid h5
  clear h2 h5
  go_enter Try.func4, Try.ntmps4
  by_cases b1 : l1 ≤ 1048576
  case neg =>
    go_wp2
    go_ret
    exact ⟨⟨false, rfl, fun h => by cases h⟩, rfl⟩
  by_cases b2 : l2 ≤ 1048576
  case neg =>
    go_wp2
    go_ret
    exact ⟨⟨false, rfl, fun h => by cases h⟩, rfl⟩
  by_cases b12 : l1 + l2 ≤ 1048576
  case neg =>
    go_wp2
    go_ret
    exact ⟨⟨false, rfl, fun h => by cases h⟩, rfl⟩
  go_wp2
  go_loop [13, 14] (fun n i => ∃ k m : Nat, k ≤ l2 ∧ m ≤ 1048576 ∧ i = .int .i64 (k : Int) ∧ n = .int .i64 (m : Int) ∧ Hid (Small z2 k)) (fun _ i => l2 - (intOf i).toNat)
  case atStart => exact ⟨0, l1 + l2, Nat.zero_le _, b12, rfl, by go_num, fun j hj => by omega⟩
  case round =>
    obtain ⟨k, m, hk, hm, rfl, rfl, hS⟩ := hrel
    by_cases hlt : k < l2
    · obtain ⟨b, off, ea, hb, hc⟩ := H2.out.at hlt
      subst ea
      have SS := Lib.hid fun h => small_succ hS.out h
      generalize z2.getD k ByteArray.empty = s at *
      by_cases hs : s.size ≤ 1048576
      case neg =>
        go_wp2
        go_ret
        exact ⟨⟨false, rfl, fun h => by cases h⟩, rfl⟩
      by_cases hms : m + s.size ≤ 1048576
      case neg =>
        go_wp2
        go_ret
        exact ⟨⟨false, rfl, fun h => by cases h⟩, rfl⟩
      have S1 := Lib.hid (SS.out hs)
      go_wp2
      go_round
      case rel => exact ⟨k + 1, m + s.size, by omega, hms, by go_num, by go_num, S1⟩
      case measure => simp [intOf]; omega
    · obtain rfl : k = l2 := by omega
      clear hlt
      by_cases b4 : l4 ≤ 1048576
      case neg =>
        go_wp2
        go_ret
        exact ⟨⟨false, rfl, fun h => by cases h⟩, rfl⟩
      by_cases b14 : m + l4 ≤ 1048576
      case neg =>
        go_wp2
        go_ret
        exact ⟨⟨false, rfl, fun h => by cases h⟩, rfl⟩
      by_cases b5 : l5 ≤ 1048576
      case neg =>
        go_wp2
        go_ret
        exact ⟨⟨false, rfl, fun h => by cases h⟩, rfl⟩
      by_cases b15 : m + l4 + l5 ≤ 1048576
      case neg =>
        go_wp2
        go_ret
        exact ⟨⟨false, rfl, fun h => by cases h⟩, rfl⟩
      go_wp2
      go_loop [13, 15] (fun n i => ∃ k m : Nat, k ≤ l5 ∧ m ≤ 1048576 ∧ i = .int .i64 (k : Int) ∧ n = .int .i64 (m : Int) ∧ Hid (Small z5 k)) (fun _ i => l5 - (intOf i).toNat)
      case atStart => exact ⟨0, m + l4 + l5, Nat.zero_le _, b15, rfl, by go_num, fun j hj => by omega⟩
      case round =>
        obtain ⟨k5, m5', hk5, hm5, rfl, rfl, hS5⟩ := hrel
        by_cases hlt : k5 < l5
        · obtain ⟨b, off, ea, hb, hc⟩ := H5.out.at hlt
          subst ea
          have SS := Lib.hid fun h => small_succ hS5.out h
          generalize z5.getD k5 ByteArray.empty = s at *
          by_cases hs : s.size ≤ 1048576
          case neg =>
            go_wp2
            go_ret
            exact ⟨⟨false, rfl, fun h => by cases h⟩, rfl⟩
          by_cases hms : m5' + s.size ≤ 1048576
          case neg =>
            go_wp2
            go_ret
            exact ⟨⟨false, rfl, fun h => by cases h⟩, rfl⟩
          have S1 := Lib.hid (SS.out hs)
          go_wp2
          go_round
          case rel => exact ⟨k5 + 1, m5' + s.size, by omega, hms, by go_num, by go_num, S1⟩
          case measure => simp [intOf]; omega
        · obtain rfl : k5 = l5 := by omega
          clear hlt
          go_wp2
          go_ret
          exact ⟨⟨true, rfl, fun _ => by first | exact ⟨hS.out, hS5.out⟩ | exact ⟨hS.out, hS5.out, b1, b2, b4, b5⟩⟩, rfl⟩
def Num (w : World) (e : Ending) (w' : World) : Prop := (∃ n : Nat, n ≤ 1099511627776 ∧ e = .returned (.int .i64 (n : Int))) ∧ w = w'
set_option maxHeartbeats 1000000 in
theorem chain5 (a1 : Option Addr) (l1 c1 : Nat) (a2 : Option Addr) (l2 c2 : Nat) (z2 : List ByteArray) (w : World) (h1 : l1 ≤ 1048576) (h2 : StrRow w a2 l2 c2 z2) (hl : l2 ≤ 1048576) (hs : Small z2 l2) :
    Calls Try.prog 5 #[.slice a1 l1 c1, .slice a2 l2 c2] w (Num w) := by
  have H2 := Lib.hid h2
  have HS := Lib.hid hs
  clear h2 hs
  go_enter Try.func5, Try.ntmps5
  go_wp2
  go_loop [5, 6] (fun n i => ∃ k m : Nat, k ≤ l2 ∧ m ≤ 1073741824 ∧ i = .int .i64 (k : Int) ∧ n = .int .i64 (m : Int)) (fun _ i => l2 - (intOf i).toNat)
  case atStart => exact ⟨0, l1 + 16 * l2, Nat.zero_le _, by omega, rfl, by go_num⟩
  case round =>
    obtain ⟨k, m, hk, hm, rfl, rfl⟩ := hrel
    by_cases hlt : k < l2
    · obtain ⟨b, off, ea, hb, hc⟩ := H2.out.at hlt
      subst ea
      have hz := HS.out k hlt
      generalize z2.getD k ByteArray.empty = s at *
      by_cases hms : m + s.size ≤ 1048576
      case neg =>
        go_wp2
        go_ret
        exact ⟨⟨m + s.size, by omega, by go_num⟩, rfl⟩
      go_wp2
      go_round
      case rel => exact ⟨k + 1, m + s.size, by omega, by omega, by go_num, by go_num⟩
      case measure => simp [intOf]; omega
    · go_wp2
      go_ret
      exact ⟨⟨m, by omega, rfl⟩, rfl⟩
end Go.Proofs.YtanaidcjiinpaaaRR.opt
