/- The walk of the law 'FnIsUnsightlyPrimitiveIgnoresPayload': it returns true and leaves what was there as it was. No conditions. -/
import Derived.Test.YtfkamkbkpnnokabRows
import Derived.Test.YtfkamkbkpnnokabLib
import Derived.Test.YtfkamkbkpnnokabAsserts
import Derived.Test.YtfkamkbkpnnokabClones
import Derived.Outline
namespace Go.Proofs.Ytfkamkbkpnnokab.fnIsUnsightlyPrimitiveIgnoresPayload
open Go.ChangeShapes Go.WideShapes Go.ChangeAt Go.RowKit Go.Mine
set_option linter.unusedVariables false
set_option maxRecDepth 100000

theorem bytes_any (a0 : Int) (a1 : Nat) (a2 : Bool) (s : ByteArray) (a : Option Addr) (l c : Nat) (w : World) (hs : s.size ≤ maxLen) (hl : l ≤ maxLen) :
    Calls Try.prog 31 #[.int .u8 a0, .float .f64 a1, .bool a2, .string s, .slice a l c] w fun e w' => (∃ r : Bool, e = .returned (.bool r)) ∧ w = w' := by
  unfold maxLen at hs hl
  go_enter Try.func31, Try.ntmps31
  go_wp2
  all_goals
    go_ret
    exact ⟨⟨_, rfl⟩, rfl⟩

theorem walk (a0 : Int) (a1 : Nat) (a2 : Bool) (a3 : ByteArray) (a4 : Option Addr) (len4 cap4 : Nat) (z4 : List Int) (w : World) (w0 : (Lit.int .u8 a0).wf = true) (w1 : (Lit.float .f64 a1).wf = true) (w3 : a3.size ≤ maxLen) (w4 : IntRow .u16 w a4 len4 cap4 z4) :
    Calls Try.prog 7 #[.int .u8 a0, .float .f64 a1, .bool a2, .string a3, .slice a4 len4 cap4] w fun e w' => e = .returned (.bool true) ∧ Below w.heap.size w w' := by
  have hb0 := bounds_u8 w0
  obtain ⟨b0, b1⟩ := hb0
  have hl : len4 ≤ maxLen := Nat.le_trans w4.2.1 w4.2.2.1
  have hs := w3
  have m0 := hl
  have m1 := hs
  unfold maxLen at m0 m1
  have H4 := Lib.hid w4
  clear w0 w1 w3 w4
  go_enter Try.func7, Try.ntmps7
  go_wp2_with fail
  refine (bytes_any _ _ _ _ _ _ _ _ hs hl).mono ?_
  rintro e w' ⟨⟨r, rfl⟩, rfl⟩
  cases r with
  | false =>
    go_wp2_with fail
    go_ret
    exact ⟨rfl, Below.refl _ _⟩
  | true =>
    go_wp2_with fail
    all_goals try (go_ret; exact ⟨rfl, Below.refl _ _⟩)
    have q0 : len4 ≤ 524288 := by go_light; omega
    refine (clone32 _ _ _ z4 _ H4.out (by omega)).mono ?_
    rintro e w1 ⟨b, rfl, r0, y1, y2, hb⟩
    have B := Lib.hid hb
    clear r0 y1 y2 hb
    have hc : a0 % 5 = 0 ∨ a0 % 5 = 1 ∨ a0 % 5 = 2 ∨ a0 % 5 = 3 ∨ a0 % 5 = 4 := by omega
    rcases hc with h | h | h | h | h
    all_goals
      go_wp2
      go_ret
      refine ⟨rfl, below2 B.out ?_⟩
      go_light
      repeat (first | with_reducible exact Below.refl _ _ | with_reducible refine Below.drew ?_ | with_reducible refine Below.alloc ?_ (by simp <;> omega) _ | with_reducible refine Below.setCell ?_ (by simp <;> omega) _)
end Go.Proofs.Ytfkamkbkpnnokab.fnIsUnsightlyPrimitiveIgnoresPayload
