/- The contract of 'TryToStringOnNumberSafely'. No conditions beyond the hypotheses. -/
import Derived.Test.YtlhcgkocnckddaaDoorDigE
import Derived.Test.YtlhcgkocnckddaaDoorFltP
namespace Go.Proofs.YtlhcgkocnckddaaDoor.dig
open Go.Proofs.YtlhcgkocnckddaaDoor.flt
open Go.ChangeShapes Go.WideShapes Go.ChangeAt Go.RowKit Go.Mine
open Ieee
set_option linter.unusedVariables false
set_option linter.unusedSimpArgs false
set_option maxRecDepth 100000

abbrev fl (b : Nat) : Value := .float .f64 b
theorem ord_ff (f : Nat) (hf : f < 18446744073709551616) : double.order f f = if low f ≤ 9218868437227405312 then some .eq else none := by
  unfold Format.order
  rw [read_split f hf]
  by_cases hl : low f < 9218868437227405312
  · rw [if_pos (by omega), read_sg _ hl]
    unfold Datum.order
    simp only [cmp_self]
  · rcases read_big (low f) hl (low_lt f) with ⟨h1, h2⟩ | ⟨t, h1, h2⟩
    · rw [if_pos (by omega), h1]
      unfold Datum.order
      cases ng f <;> rfl
    · rw [if_neg (by omega), h1]
      rfl
theorem neg_bits (f : Nat) (hf : f < 18446744073709551616) : low (f ^^^ 9223372036854775808) = low f ∧ ng (f ^^^ 9223372036854775808) = !ng f ∧ f ^^^ 9223372036854775808 < 18446744073709551616 := by
  have h1 : f ^^^ 9223372036854775808 < 2 ^ 64 := Nat.xor_lt_two_pow (show f < 2 ^ 64 from hf) (by decide)
  have h2 : (f ^^^ 9223372036854775808) % 2 ^ 63 = f % 2 ^ 63 := by
    rw [Nat.xor_mod_two_pow]
    have : (9223372036854775808 : Nat) % 2 ^ 63 = 0 := by decide
    rw [this, Nat.xor_zero]
  have h3 : (f ^^^ 9223372036854775808) / 2 ^ 63 = f / 2 ^ 63 ^^^ 1 := by
    rw [Nat.xor_div_two_pow]
  have e63 : (2 : Nat) ^ 63 = 9223372036854775808 := by decide
  have e64 : (2 : Nat) ^ 64 = 18446744073709551616 := by decide
  rw [e63] at h2 h3
  rw [e64] at h1
  generalize f ^^^ 9223372036854775808 = g at *
  refine ⟨h2, ?_, h1⟩
  unfold ng
  by_cases hn : 9223372036854775808 ≤ f
  · have hq : f / 9223372036854775808 = 1 := by omega
    rw [hq] at h3
    have hg : g / 9223372036854775808 = 0 := h3
    have : ¬ 9223372036854775808 ≤ g := by omega
    simp [hn, this]
  · have hq : f / 9223372036854775808 = 0 := by omega
    rw [hq] at h3
    have hg : g / 9223372036854775808 = 1 := h3
    have : 9223372036854775808 ≤ g := by omega
    simp [hn, this]
theorem toInt_sign (s : Bool) (m : Nat) (i : Int) (n : Int) (h : (Datum.number false m i).toInt .zero = some n) : (Datum.number s m i).toInt .zero = some (if s = true then -n else n) := by
  cases s
  · exact h
  · unfold Datum.toInt Datum.integral at h ⊢
    simp only [Ieee.signed, Bool.false_eq_true, if_false, if_true, Option.some.injEq] at h ⊢
    rw [← h]
    rfl
theorem conv_exact (k : Int) (f : Nat) (hk : -2147483648 ≤ k ∧ k ≤ 2147483647) (hf : f < 18446744073709551616) (h : double.order (FloatKind.f64.nearest k) f = some .eq) : floatToIntVal .f64 f .i32 = some k := by
  obtain ⟨h1, h2, h3, h4⟩ := easy k f hk hf h
  obtain ⟨n, hn, _⟩ := trunc_lt (low f) h1
  have hq : qn (low f) = (n : Int) := by unfold qn; rw [hn]; rfl
  rw [hq] at h2
  have hl : low f < 9218868437227405312 := by unfold Y at h1; omega
  have hr := read_sg (low f) hl
  rw [hr] at hn
  have hd : (FloatKind.f64.decode f).toInt .zero = some k := by
    show (double.read f).toInt .zero = some k
    rw [read_split f hf, hr]
    simp only
    rw [toInt_sign _ _ _ _ hn, h2]
  unfold floatToIntVal
  rw [hd]
  simp only
  rw [if_pos (by
    have e1 : IntKind.i32.min = -2147483648 := rfl
    have e2 : IntKind.i32.max = 2147483647 := rfl
    rw [e1, e2]; exact hk)]
theorem signed_neg (m u : Nat)  : Ieee.signed true m u ≤ 0 := by unfold Ieee.signed; rw [if_pos rfl]; exact Int.neg_nonpos_of_nonneg (Int.natCast_nonneg _)
theorem signed_pos (m u : Nat) : 0 ≤ Ieee.signed false m u := by unfold Ieee.signed; rw [if_neg (by decide)]; exact Int.natCast_nonneg _
theorem cmp_ng {a b : Int} : compare (-a) (-b) = compare b a := by
  rcases Int.lt_trichotomy a b with h | h | h
  · rw [cmp_gt (show -b < -a by omega), cmp_gt h]
  · subst h; rw [cmp_self, cmp_self]
  · rw [cmp_lt (show -a < -b by omega), cmp_lt h]
theorem order_ng (m n : Nat) (i j : Int) : (Datum.number true m i).order (.number true n j) = (Datum.number false n j).order (.number false m i) := by
  unfold Datum.order
  simp only [Ieee.signed, if_true, Bool.false_eq_true, if_false]
  rw [cmp_ng, Int.min_comm]
theorem rMax : double.read 9218868437227405311 = .number false 9007199254740991 971 := by decide
theorem rMin : double.read 18442240474082181119 = .number true 9007199254740991 971 := by decide
theorem cmp_ngt {a b : Int} (h : a ≤ b) : compare a b ≠ .gt := by
  rcases Int.lt_or_eq_of_le h with h | h
  · rw [cmp_lt h]; decide
  · subst h; rw [cmp_self]; decide
theorem cmp_nlt {a b : Int} (h : b ≤ a) : compare a b ≠ .lt := by
  rcases Int.lt_or_eq_of_le h with h | h
  · rw [cmp_gt h]; decide
  · subst h; rw [cmp_self]; decide
theorem gtMax (f : Nat) (hf : f < 18446744073709551616) : (double.order f 9218868437227405311 == some .gt) = (decide (low f = 9218868437227405312) && !ng f) := by
  by_cases hl : low f < 9218868437227405312
  · rw [show decide (low f = 9218868437227405312) = false by simp; omega, Bool.false_and]
    have hne : double.order f 9218868437227405311 ≠ some .gt := by
      unfold Format.order
      rw [read_split f hf, read_sg _ hl, rMax]
      simp only
      cases hn : ng f
      · have : low f = f := by unfold ng at hn; unfold low; simp at hn; omega
        rw [← read_sg _ hl, this, ← rMax]
        show double.order f 9218868437227405311 ≠ _
        by_cases he : f = 9218868437227405311
        · rw [he, order_self (by decide)]; decide
        · rw [order_lt (by omega) (by decide)]; decide
      · unfold Datum.order
        simp only [ne_eq, Option.some.injEq]
        exact cmp_ngt (Int.le_trans (signed_neg _ _) (signed_pos _ _))
    simpa using hne
  · rcases read_big (low f) hl (low_lt f) with ⟨h1, h2⟩ | ⟨t, h1, h2⟩
    · unfold Format.order
      rw [read_split f hf, h1, rMax, h2]
      unfold Datum.order
      cases ng f <;> rfl
    · unfold Format.order
      rw [read_split f hf, h1, rMax, show decide (low f = 9218868437227405312) = false by simpa using h2]
      rfl
theorem ltMin (f : Nat) (hf : f < 18446744073709551616) : (double.order f 18442240474082181119 == some .lt) = (decide (low f = 9218868437227405312) && ng f) := by
  by_cases hl : low f < 9218868437227405312
  · rw [show decide (low f = 9218868437227405312) = false by simp; omega, Bool.false_and]
    have hne : double.order f 18442240474082181119 ≠ some .lt := by
      unfold Format.order
      rw [read_split f hf, read_sg _ hl, rMin]
      simp only
      cases hn : ng f
      · unfold Datum.order
        simp only [ne_eq, Option.some.injEq]
        exact cmp_nlt (Int.le_trans (signed_neg _ _) (signed_pos _ _))
      · rw [order_ng, ← read_sg _ hl, ← rMax]
        show double.order 9218868437227405311 (low f) ≠ _
        by_cases he : low f = 9218868437227405311
        · rw [he, order_self (by decide)]; decide
        · rw [order_gt (by omega) (by decide)]; decide
    simpa using hne
  · rcases read_big (low f) hl (low_lt f) with ⟨h1, h2⟩ | ⟨t, h1, h2⟩
    · unfold Format.order
      rw [read_split f hf, h1, rMin, h2]
      unfold Datum.order
      cases ng f <;> rfl
    · unfold Format.order
      rw [read_split f hf, h1, rMin, show decide (low f = 9218868437227405312) = false by simpa using h2]
      rfl
end Go.Proofs.YtlhcgkocnckddaaDoor.dig
