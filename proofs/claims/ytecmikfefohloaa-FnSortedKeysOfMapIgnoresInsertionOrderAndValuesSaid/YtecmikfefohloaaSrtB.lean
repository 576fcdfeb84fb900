/- The law's small callees. No conditions beyond the hypotheses. -/
import Derived.Test.YtecmikfefohloaaSrtA
import Derived.Test.YtecmikfefohloaaSrtC
import Derived.Deep.QuietTactic
import Derived.BigQuiet
namespace Go.Proofs.Ytecmikfefohloaa.srt
open Go.ChangeShapes Go.WideShapes Go.ChangeAt Go.RowKit Go.Mine Go.Maps Go.Sort
set_option linter.unusedVariables false
set_option linter.unusedSimpArgs false
set_option maxRecDepth 100000

def Small (z : List ByteArray) (l : Nat) : Prop := ∀ j, j < l → (z.getD j ByteArray.empty).size ≤ 1048576
def By (P : Prop) (w : World) (e : Ending) (w' : World) : Prop := (∃ r : Bool, e = .returned (.bool r) ∧ (r = true → P)) ∧ w = w'
theorem small_succ {z : List ByteArray} {k : Nat} (h : Small z k) (hk : (z.getD k ByteArray.empty).size ≤ 1048576) : Small z (k + 1) := fun j hj => by
  by_cases e : j = k
  · subst e; exact hk
  · exact h j (by omega)
set_option maxHeartbeats 2000000 in
theorem bytesS (a : Option Addr) (l c : Nat) (z : List ByteArray) (w : World) (h : StrRow w a l c z) :
    Calls Try.prog 4 #[.slice a l c] w (By (Small z l) w) := by
  have m2 : l ≤ maxLen := Nat.le_trans h.2.1 h.2.2.1
  unfold maxLen at m2
  have H2 := Lib.hid h
  clear h
  go_enter Try.func4, Try.ntmps4
  by_cases b1 : l ≤ 1048576
  case neg =>
    go_wp2
    go_ret
    exact ⟨⟨false, rfl, fun h => by cases h⟩, rfl⟩
  go_wp2
  go_loop [3, 4] (fun n i => ∃ k m : Nat, k ≤ l ∧ m ≤ 1048576 ∧ i = .int .i64 (k : Int) ∧ n = .int .i64 (m : Int) ∧ Hid (Small z k)) (fun _ i => l - (intOf i).toNat)
  case atStart => exact ⟨0, l, Nat.zero_le _, b1, rfl, by go_num, fun j hj => by omega⟩
  case round =>
    obtain ⟨k, m, hk, hm, rfl, rfl, hS⟩ := hrel
    by_cases hlt : k < l
    · obtain ⟨b, off, ea, hb, hc⟩ := H2.out.at hlt
      subst ea
      have SS := Lib.hid fun h => small_succ hS.out h
      generalize z.getD k ByteArray.empty = s at *
      by_cases hs : s.size ≤ 1048576
      case neg =>
        go_wp2
        go_ret
        exact ⟨⟨false, rfl, fun h => by cases h⟩, rfl⟩
      by_cases hms : m + s.size ≤ 1048576
      case neg =>
        go_wp2
        go_ret
        exact ⟨⟨false, rfl, fun h => by cases h⟩, rfl⟩
      have S1 := Lib.hid (SS.out hs)
      go_wp2
      go_round
      case rel => exact ⟨k + 1, m + s.size, by omega, hms, by go_num, by go_num, S1⟩
      case measure => simp [intOf]; omega
    · obtain rfl : k = l := by omega
      clear hlt
      go_wp2
      go_ret
      exact ⟨⟨true, rfl, fun _ => hS.out⟩, rfl⟩
def Num (w : World) (e : Ending) (w' : World) : Prop := (∃ n : Nat, n ≤ 1099511627776 ∧ e = .returned (.int .i64 (n : Int))) ∧ w = w'
set_option maxHeartbeats 1000000 in
theorem totalS (a : Option Addr) (l c : Nat) (z : List ByteArray) (w : World) (h2 : StrRow w a l c z) (hl : l ≤ 1048576) (hs : Small z l) :
    Calls Try.prog 5 #[.slice a l c] w (Num w) := by
  have H2 := Lib.hid h2
  have HS := Lib.hid hs
  clear h2 hs
  go_enter Try.func5, Try.ntmps5
  go_wp2
  go_loop [3, 4] (fun n i => ∃ k m : Nat, k ≤ l ∧ m ≤ 1073741824 ∧ i = .int .i64 (k : Int) ∧ n = .int .i64 (m : Int)) (fun _ i => l - (intOf i).toNat)
  case atStart => exact ⟨0, 16 * l, Nat.zero_le _, by omega, rfl, by go_num⟩
  case round =>
    obtain ⟨k, m, hk, hm, rfl, rfl⟩ := hrel
    by_cases hlt : k < l
    · obtain ⟨b, off, ea, hb, hc⟩ := H2.out.at hlt
      subst ea
      have hz := HS.out k hlt
      generalize z.getD k ByteArray.empty = s at *
      by_cases hms : m + s.size ≤ 1048576
      case neg =>
        go_wp2
        go_ret
        exact ⟨⟨m + s.size, by omega, by go_num⟩, rfl⟩
      go_wp2
      go_round
      case rel => exact ⟨k + 1, m + s.size, by omega, by omega, by go_num, by go_num⟩
      case measure => simp [intOf]; omega
    · go_wp2
      go_ret
      exact ⟨⟨m, by omega, rfl⟩, rfl⟩
/-- A row of the call's own that holds the strings xs. -/
def SRow (B : Nat) (w : World) (g cap : Nat) (n : Nat) (xs : List (List UInt8)) : Prop := xs.length = n ∧ w.ownsRow B 9 1 (.slice (some ⟨g, 0, none⟩) n cap) n (xs.map encStr)
theorem SRow.at {B : Nat} {w : World} {g cap n : Nat} {xs : List (List UInt8)} (h : SRow B w g cap n xs) {i : Nat} (hi : i < n) : g < w.heap.size ∧ ∃ x, xs[i]? = some x ∧ w.cell? ⟨g, i, none⟩ = some (.string ⟨x.toArray⟩) := by
  have hl := h.1
  have hi' : i < xs.length := by omega
  refine ⟨(h.2.lt g rfl).2, xs[i], by simp [hi'], (h.2.cellAt i (by omega)).trans ?_⟩
  simp [hi', encStr]
theorem SRow.below {B : Nat} {w w' : World} {g cap n : Nat} {xs : List (List UInt8)} (h : SRow B w g cap n xs) (hb : Below w.heap.size w w') : SRow B w' g cap n xs := by
  refine ⟨h.1, ?_⟩
  exact h.2.kept ⟨hb.os, hb.tape, hb.output, hb.size, fun k hk _ => hb.block k hk⟩ (row := none) (.inr (by simp [Value.ownBlock]))
set_option maxHeartbeats 1000000 in
theorem sameS (B1 B2 g1 g2 c1 c2 n : Nat) (xs : List (List UInt8)) (w : World) (h1 : SRow B1 w g1 c1 n xs) (h2 : SRow B2 w g2 c2 n xs) (hn : n ≤ 1048576) :
    Calls Try.prog 8 #[.slice (some ⟨g1, 0, none⟩) n c1, .slice (some ⟨g2, 0, none⟩) n c2] w fun e w' => e = .returned (.bool true) ∧ ∃ m, w' = w.drewN m := by
  have H1 := Lib.hid h1
  have H2 := Lib.hid h2
  clear h1 h2
  have hq : ((n : Int) != (n : Int)) = false := by simp
  go_enter Try.func8, Try.ntmps8
  go_wp2
  go_loopw [5] (fun i wr => ∃ k : Nat, k ≤ n ∧ i = .int .i64 (k : Int) ∧ ∃ m, wr = w.drewN m) (fun i _ => n - (intOf i).toNat)
  case atStart => exact ⟨0, Nat.zero_le _, rfl, 0, rfl⟩
  case round =>
    obtain ⟨k, hk, rfl, m, rfl⟩ := hrel
    by_cases hlt : k < n
    · obtain ⟨l1, x, hx, d1⟩ := H1.out.at hlt
      obtain ⟨l2, y, hy, d2⟩ := H2.out.at hlt
      obtain rfl : y = x := by rw [hx] at hy; exact (Option.some.inj hy).symm
      clear hx hy
      generalize (⟨y.toArray⟩ : ByteArray) = s at *
      have hs : (s.toList != s.toList) = false := by simp
      go_wp2
      go_quiet (fail)
      go_wp2
      go_roundw
      case rel => exact ⟨k + 1, by omega, by go_num, _, rfl⟩
      case measure => simp [intOf]; omega
    · go_wp2
      go_ret
      exact ⟨rfl, m, rfl⟩
end Go.Proofs.Ytecmikfefohloaa.srt
