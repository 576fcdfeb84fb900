/- The walk of the law 'FnCheckEqualityBigIntSymmetricReflexive': it returns true and leaves what was there as it was. No conditions. -/
import Derived.Test.YtfkamkbkpnnokaaRows
import Derived.Test.YtfkamkbkpnnokaaLib
import Derived.WalkLawsBesides
import Derived.WalkSpells
namespace Go.Proofs.Ytfkamkbkpnnokaa.fnCheckEqualityBigIntSymmetricReflexive
open Go.ChangeShapes Go.WideShapes Go.ChangeAt Go.RowKit Go.Mine
set_option linter.unusedVariables false

def rad (a : ByteArray) : Bool := if h : 2 ≤ a.size then (a[0].toNat : Int) == 48 else false
theorem ret2 {a b c d : Bool} (h : a = c) (k : b = d) : Ending.returned (.tuple #[.bool a, .bool b]) = .returned (.tuple #[.bool c, .bool d]) := by rw [h, k]
theorem rad_lt {a : ByteArray} (h : (a.size : Int) < 2) : rad a = false := by simp [rad]; omega
theorem rad_ge {a : ByteArray} (h : 2 ≤ (a.size : Int)) (h' : 0 < a.size) : rad a = ((a[0].toNat : Int) == 48) := by
  unfold rad; rw [dif_pos (by omega)]
theorem check_eq (a : ByteArray) (w : World) (ha : a.size ≤ maxLen) : Calls Try.prog 9 #[.string a, .string a] w fun e w' => e = .returned (.tuple #[.bool true, .bool true]) ∧ w = w' := by
  unfold maxLen at ha
  go_enter Try.func9, Try.ntmps9
  go_wp2
  go_ret2
  exact ⟨rfl, rfl⟩
theorem check_ne (a b : ByteArray) (w : World) (ha : a.size ≤ maxLen) (hb : b.size ≤ maxLen) (h : (a.toList == b.toList) = false) : Calls Try.prog 9 #[.string a, .string b] w fun e w' => e = .returned (.tuple #[.bool false, .bool (!rad a && !rad b)]) ∧ w = w' := by
  unfold maxLen at ha hb
  go_enter Try.func9, Try.ntmps9
  go_wp2
  all_goals
    go_ret2
    refine ⟨ret2 rfl ?_, rfl⟩
    go_light
    first
      | (rw [rad_lt (a := a) ‹_›, rad_lt (a := b) ‹_›]; rfl)
      | (rw [rad_lt (a := a) ‹_›, rad_ge (a := b) ‹_› ‹_›]; clear h; simp_all; done)
      | (rw [rad_lt (a := a) ‹_›, rad_ge (a := b) ‹_› ‹_›]; clear h; simp_all; omega)
      | (rw [rad_ge (a := a) ‹_› ‹_›, rad_lt (a := b) ‹_›]; clear h; simp_all; done)
      | (rw [rad_ge (a := a) ‹_› ‹_›, rad_lt (a := b) ‹_›]; clear h; simp_all; omega)
      | (rw [rad_ge (a := a) ‹_› ‹_›, rad_ge (a := b) ‹_› ‹_›]; clear h; simp_all; done)
      | (rw [rad_ge (a := a) ‹_› ‹_›, rad_ge (a := b) ‹_› ‹_›]; clear h; simp_all; omega)
      | (rw [rad_ge (a := a) ‹_› ‹_›]; clear h; simp_all; done)
      | (rw [rad_ge (a := a) ‹_› ‹_›]; clear h; simp_all; omega)

theorem bytes_any (a b : ByteArray) (w : World) (ha : a.size ≤ maxLen) (hb : b.size ≤ maxLen) : Calls Try.prog 8 #[.string a, .string b] w fun e w' => (∃ r : Bool, e = .returned (.bool r)) ∧ w = w' := by
  unfold maxLen at ha hb
  go_enter Try.func8, Try.ntmps8
  go_wp2
  all_goals
    go_ret
    exact ⟨⟨_, rfl⟩, rfl⟩

theorem walk (a0 : ByteArray) (a1 : ByteArray) (w : World) (w0 : a0.size ≤ maxLen) (w1 : a1.size ≤ maxLen) :
    Calls Try.prog 3 #[.string a0, .string a1] w fun e w' => e = .returned (.bool true) ∧ Below w.heap.size w w' := by
  have s0 := w0
  have s1 := w1
  unfold maxLen at w0 w1
  go_enter Try.func3, Try.ntmps3
  go_wp2_with fail
  refine (bytes_any a0 a1 _ s0 s1).mono ?_
  rintro e w' ⟨⟨r, rfl⟩, rfl⟩
  cases r with
  | false =>
    go_wp2_with fail
    go_ret
    exact ⟨rfl, Below.refl _ _⟩
  | true =>
    by_cases h : a0.toList = a1.toList
    · have e : a0 = a1 := by
        rw [ByteArray.toList_eq, ByteArray.toList_eq] at h
        exact ByteArray.ext (Array.toList_inj.1 h)
      subst e
      clear h
      go_wp2_with (go_at_call 9; refine (check_eq a0 _ s0).mono ?_; rintro e w' ⟨rfl, rfl⟩)
      all_goals (go_ret; exact ⟨rfl, Below.refl _ _⟩)
    · have h1 : (a0.toList == a1.toList) = false := by simpa using h
      have h2 : (a1.toList == a0.toList) = false := by simp; exact fun x => h x.symm
      clear h
      go_wp2_with fail
      all_goals try (go_ret; exact ⟨rfl, Below.refl _ _⟩)
      refine (check_ne a0 a1 _ s0 s1 h1).mono ?_
      rintro e w' ⟨rfl, rfl⟩
      go_wp2_with fail
      refine (check_ne a1 a0 _ s1 s0 h2).mono ?_
      rintro e w' ⟨rfl, rfl⟩
      go_wp2_with fail
      refine (check_eq a0 _ s0).mono ?_
      rintro e w' ⟨rfl, rfl⟩
      go_wp2_with fail
      · go_ret; exact ⟨rfl, Below.refl _ _⟩
      · exact absurd (Bool.and_comm _ _) ‹_›
end Go.Proofs.Ytfkamkbkpnnokaa.fnCheckEqualityBigIntSymmetricReflexive
