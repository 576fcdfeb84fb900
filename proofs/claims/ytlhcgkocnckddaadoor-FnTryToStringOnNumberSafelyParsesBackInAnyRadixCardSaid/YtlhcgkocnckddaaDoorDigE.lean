/- The contract of 'FormatInt' at every base but ten. No conditions beyond the hypotheses. -/
import Derived.Test.YtlhcgkocnckddaaDoorDigD
namespace Go.Proofs.YtlhcgkocnckddaaDoor.dig
open Go.ChangeShapes Go.WideShapes Go.ChangeAt Go.RowKit Go.Mine
set_option linter.unusedVariables false
set_option linter.unusedSimpArgs false
set_option maxRecDepth 100000

theorem str_pos {b : Nat} {k : Int} (h : ¬ k < 0) : str b k = signed false (txt b k.natAbs) := by unfold str signed txt; rw [if_neg h]; rfl
theorem str_neg {b : Nat} {k : Int} (h : k < 0) : str b k = signed true (txt b k.natAbs) := by unfold str signed txt; rw [if_pos h]; rfl
theorem isP_cases {b : Nat} (h : isP b = true) : b = 2 ∨ b = 4 ∨ b = 8 ∨ b = 16 ∨ b = 32 := by
  unfold isP at h
  simp only [Bool.or_eq_true, beq_iff_eq] at h
  omega
theorem bits_all (b : Nat) (k : Int) (w : World) (hb : 2 ≤ b ∧ b ≤ 36) (h10 : b ≠ 10) (hT : Tz w) (hk : -2147483648 ≤ k ∧ k ≤ 2147483647) :
    Calls Tryd.prog 14 #[.slice none 0 0, .int .u64 (IntKind.u64.wrap k), .int .i64 b, .bool (decide (k < 0)), .bool false] w fun e w' => e = .returned (.tuple #[.slice none 0 0, .string ⟨(str b k).toArray⟩]) ∧ Below w.heap.size w w' := by
  obtain ⟨m, hm⟩ : ∃ m, k.natAbs = m := ⟨_, rfl⟩
  by_cases hn : k < 0
  · have e1 : IntKind.u64.wrap k = 18446744073709551616 - (m : Int) := by rw [IntKind.wrap_u64]; omega
    have h1 : 1 ≤ m := by omega
    have h2 : m ≤ 2147483648 := by omega
    rw [str_neg hn, e1, show decide (k < 0) = true by simpa using hn, hm]
    by_cases hp : isP b = true
    · rcases isP_cases hp with rfl | rfl | rfl | rfl | rfl
      · exact bits_2N m w hT h1 h2
      · exact bits_4N m w hT h1 h2
      · exact bits_8N m w hT h1 h2
      · exact bits_16N m w hT h1 h2
      · exact bits_32N m w hT h1 h2
    · exact bits_genN b m w hb h10 (by simpa using hp) h1 h2
  · have e1 : IntKind.u64.wrap k = (m : Int) := by rw [IntKind.wrap_u64]; omega
    have h2 : m ≤ 2147483648 := by omega
    rw [str_pos hn, e1, show decide (k < 0) = false by simpa using hn, hm]
    by_cases hp : isP b = true
    · rcases isP_cases hp with rfl | rfl | rfl | rfl | rfl
      · exact bits_2 m w hT h2
      · exact bits_4 m w hT h2
      · exact bits_8 m w hT h2
      · exact bits_16 m w hT h2
      · exact bits_32 m w hT h2
    · exact bits_gen b m w hb h10 (by simpa using hp) h2
theorem fmt9_n10 (b : Nat) (k : Int) (w : World) (hb : 2 ≤ b ∧ b ≤ 36) (h10 : b ≠ 10) (hT : Tz w) (hk : -2147483648 ≤ k ∧ k ≤ 2147483647) :
    Calls Tryd.prog 9 #[.int .i64 k, .int .i64 b] w fun e w' => e = .returned (.string ⟨(str b k).toArray⟩) ∧ Below w.heap.size w w' := by
  have H := Lib.hid (bits_all b k w hb h10 hT hk)
  have q1 : ((b : Int) == 10) = false := beq_false_of_ne (by omega)
  generalize (str b k).toArray = T at *
  clear hT h10
  go_enter Tryd.func9, Tryd.ntmps9
  go_wp2_with (first | (go_at_call 14; refine H.out.mono ?_; rintro e w1 ⟨rfl, hw⟩))
  go_ret
  exact ⟨rfl, hw⟩
theorem fmt_n10 (b : Nat) (k : Int) (w : World) (hb : 2 ≤ b ∧ b ≤ 36) (h10 : b ≠ 10) (hT : Tz w) (hk : -2147483648 ≤ k ∧ k ≤ 2147483647) :
    Calls Tryd.prog 6 #[.int .i64 k, .int .i64 b] w fun e w' => e = .returned (.string ⟨(str b k).toArray⟩) ∧ Below w.heap.size w w' := by
  have H := Lib.hid (fmt9_n10 b k w hb h10 hT hk)
  clear hT
  go_enter Tryd.func6, Tryd.ntmps6
  go_wp2_with (first | (go_at_call 9; refine H.out.mono ?_; rintro e w1 ⟨rfl, hw⟩))
  go_ret
  exact ⟨rfl, hw⟩
end Go.Proofs.YtlhcgkocnckddaaDoor.dig
