/- Plain laws of the words of 64 bits: reading, order, the nearest word, one round of 'math.mod' by 2 ^ 32, cutting to a whole number. No conditions beyond the hypotheses. -/
import Derived.Test.YtlhcgkocnckddaaDoorLib
import Derived.Test.YtlhcgkocnckddaaDoorRows
import Derived.Laws.FloatArith
import Derived.Laws.BitsAllLaws
namespace Go.Proofs.YtlhcgkocnckddaaDoor.flt
open Ieee
set_option linter.unusedVariables false

theorem d_binade : double.binade = 4503599627370496 := by decide
theorem d_least : double.leastPlace = -1074 := by decide
theorem d_inf : double.infRung = 9218868437227405312 := by decide
theorem d_sign : double.signWeight = 9223372036854775808 := by decide
theorem d_frac : double.fractionBits = 52 := rfl
theorem read_sub (x : Nat) (h : x < 4503599627370496) : double.read x = .number false x (-1074) := by
  unfold Format.read
  simp only [d_binade, d_least, d_inf, d_sign]
  have h1 : x / 9223372036854775808 % 2 = 0 := by omega
  have h2 : x % 9223372036854775808 = x := by omega
  rw [h1, h2, if_pos h]
  rfl
theorem read_norm (x : Nat) (h1 : 4503599627370496 ≤ x) (h2 : x < 9218868437227405312) : double.read x = .number false (4503599627370496 + x % 4503599627370496) (-1074 + ((x / 4503599627370496 - 1 : Nat) : Int)) := by
  unfold Format.read
  simp only [d_binade, d_least, d_inf, d_sign]
  have h3 : x / 9223372036854775808 % 2 = 0 := by omega
  have h4 : x % 9223372036854775808 = x := by omega
  rw [h3, h4, if_neg (by omega), if_pos h2]
  rfl
theorem cut_zero (way : Toward) (s : Bool) (n : Nat) : way.cut s n 0 = n := by
  unfold Toward.cut
  cases way <;> simp [Nat.mod_one]
theorem log2_le {m b : Nat} (h0 : 0 < m) (h : m < 2 ^ (b + 1)) : m.log2 ≤ b := by
  have := (Nat.log2_lt (Nat.pos_iff_ne_zero.1 h0)).2 h
  omega
theorem kept_bounds (m : Nat) (hm : 0 < m) (hm2 : m < 2 ^ 53) : 4503599627370496 ≤ m * 2 ^ (52 - m.log2) ∧ m * 2 ^ (52 - m.log2) < 9007199254740992 := by
  have hL : m.log2 ≤ 52 := log2_le hm hm2
  constructor
  · have h6 : 2 ^ m.log2 ≤ m := Nat.log2_self_le (Nat.pos_iff_ne_zero.1 hm)
    have h7 : 2 ^ m.log2 * 2 ^ (52 - m.log2) ≤ m * 2 ^ (52 - m.log2) := Nat.mul_le_mul_right _ h6
    rw [← Nat.pow_add] at h7
    have h8 : m.log2 + (52 - m.log2) = 52 := by omega
    rw [h8] at h7
    exact h7
  · have h6 : m < 2 ^ (m.log2 + 1) := Nat.lt_log2_self
    have h7 : m * 2 ^ (52 - m.log2) < 2 ^ (m.log2 + 1) * 2 ^ (52 - m.log2) := Nat.mul_lt_mul_of_pos_right h6 (Nat.pow_pos (by decide))
    rw [← Nat.pow_add] at h7
    have h8 : m.log2 + 1 + (52 - m.log2) = 53 := by omega
    rw [h8] at h7
    exact h7
theorem nearest_exact (s : Bool) (m : Nat) (p : Int) (hm : 0 < m) (hm2 : m < 2 ^ 53) (hp : -1074 ≤ p + m.log2 - 52) (hp2 : p + m.log2 ≤ 1022) :
    double.nearest s m p = double.word s ((p + m.log2 - 52 + 1074).toNat * 4503599627370496 + m * 2 ^ (52 - m.log2)) := by
  have hL : m.log2 ≤ 52 := log2_le hm hm2
  have h5 := (kept_bounds m hm hm2).2
  unfold Format.nearest
  simp only [d_binade, d_least, d_inf, d_frac]
  rw [if_neg (Nat.pos_iff_ne_zero.1 hm)]
  clear hm hm2
  generalize m.log2 = L at *
  have e1 : max (p + (L : Int) - ((52 : Nat) : Int)) (-1074) = p + L - 52 := by clear h5; omega
  rw [e1]
  clear e1
  have e2 : (p - (p + (L : Int) - 52)).toNat = 52 - L := by clear h5; omega
  have e3 : (p + (L : Int) - 52 - p).toNat = 0 := by clear h5 e2; omega
  have e4 : (p + (L : Int) - 52 - -1074).toNat = (p + L - 52 + 1074).toNat := by congr 1
  rw [e2, e3, e4, cut_zero, Nat.shiftLeft_eq]
  clear e2 e3 e4
  generalize m * 2 ^ (52 - L) = X at *
  have e5 : (p + (L : Int) - 52 + 1074).toNat ≤ 2044 := by clear h5; omega
  generalize (p + (L : Int) - 52 + 1074).toNat = K at *
  have e6 : min (K * 4503599627370496 + X) 9218868437227405312 = K * 4503599627370496 + X := Nat.min_eq_left (by omega)
  rw [e6]
/-- The word's sign and what stands below it. -/
def ng (f : Nat) : Bool := decide (9223372036854775808 ≤ f)
def low (f : Nat) : Nat := f % 9223372036854775808
theorem read_split (f : Nat) (hf : f < 18446744073709551616) : double.read f = match double.read (low f) with
    | .number _ m e => .number (ng f) m e
    | .infinity _ => .infinity (ng f)
    | .nan _ t => .nan (ng f) t := by
  unfold Format.read low ng
  simp only [d_binade, d_least, d_inf, d_sign]
  have h1 : (f / 9223372036854775808 % 2 == 1) = decide (9223372036854775808 ≤ f) := by
    by_cases h : 9223372036854775808 ≤ f
    · have : f / 9223372036854775808 % 2 = 1 := by omega
      simp [this, h]
    · have : f / 9223372036854775808 % 2 = 0 := by omega
      simp [this, h]
  have h2 : f % 9223372036854775808 % 9223372036854775808 = f % 9223372036854775808 := by omega
  rw [h1, h2]
  by_cases a1 : f % 9223372036854775808 < 4503599627370496
  · simp only [a1, if_true]
  · by_cases a2 : f % 9223372036854775808 < 9218868437227405312
    · simp only [a1, a2, if_true, if_false]
    · by_cases a3 : f % 9223372036854775808 = 9218868437227405312
      · rw [if_neg a1, if_neg a2, if_pos a3, if_neg a1, if_neg a2, if_pos a3]
      · simp only [a1, a2, a3, if_false]
/-- A finite word that is not negative, read. -/
theorem read_fin (a : Nat) (h : a < 9218868437227405312) : ∃ m i, double.read a = .number false m i ∧ m < 9007199254740992 ∧ (m = 0 → a = 0) := by
  by_cases h1 : a < 4503599627370496
  · exact ⟨_, _, read_sub a h1, by omega, fun h => h⟩
  · exact ⟨_, _, read_norm a (by omega) h, by omega, by omega⟩
/-- Towards zero. -/
theorem trunc_eq (m : Nat) (i : Int) : (Datum.number false m i).toInt .zero = some (if 0 ≤ i then ((m * 2 ^ i.toNat : Nat) : Int) else ((m / 2 ^ (-i).toNat : Nat) : Int)) := by
  unfold Datum.toInt Datum.integral
  simp only [signed, Bool.false_eq_true, if_false, Nat.shiftLeft_zero, Option.some.injEq]
  by_cases hi : 0 ≤ i
  · rw [if_pos hi]
    have e : (-i).toNat = 0 := by omega
    rw [e, cut_zero, Nat.shiftLeft_eq]
  · rw [if_neg hi]
    have e : i.toNat = 0 := by omega
    rw [e, Nat.shiftLeft_zero]
    generalize (-i).toNat = d
    unfold Toward.cut
    simp only [Bool.toNat_false, Nat.add_zero, Nat.shiftLeft_eq, Nat.one_mul]
    by_cases hd : d ≤ m.log2 + 2
    · rw [Nat.min_eq_left hd]
    · rw [Nat.min_eq_right (by omega)]
      have h6 : m < 2 ^ (m.log2 + 1) := Nat.lt_log2_self
      rw [Nat.div_eq_of_lt (Nat.lt_of_lt_of_le h6 (Nat.pow_le_pow_right (by decide) (by omega))), Nat.div_eq_of_lt (Nat.lt_of_lt_of_le h6 (Nat.pow_le_pow_right (by decide) (by omega)))]
/-- The word of 2 ^ 32; one round of 'math.mod' by it. -/
abbrev Y : Nat := 4751297606875873280
def step (a : Nat) : Nat := (double.sub a (a / 4503599627370496 * 4503599627370496)).getD 0
theorem sub_step (a : Nat) (h1 : Y ≤ a) (h2 : a < 9218868437227405312) : double.sub a (a / 4503599627370496 * 4503599627370496) = some (step a) ∧ step a < a / 4503599627370496 * 4503599627370496 := by
  have hb : 4503599627370496 ≤ a / 4503599627370496 * 4503599627370496 := by unfold Y at h1; omega
  have r1 := read_norm a (by unfold Y at h1; omega) h2
  have r2 := read_norm (a / 4503599627370496 * 4503599627370496) hb (by omega)
  have z1 : a / 4503599627370496 * 4503599627370496 % 4503599627370496 = 0 := by omega
  have z2 : a / 4503599627370496 * 4503599627370496 / 4503599627370496 = a / 4503599627370496 := by omega
  rw [z1, z2] at r2
  have hE : 1055 ≤ a / 4503599627370496 ∧ a / 4503599627370496 ≤ 2046 := by unfold Y at h1; omega
  have hF : a % 4503599627370496 < 4503599627370496 := by omega
  have key : double.sub a (a / 4503599627370496 * 4503599627370496) = some (double.nearest false (a % 4503599627370496) (-1074 + ((a / 4503599627370496 - 1 : Nat) : Int))) := by
    unfold Format.sub
    rw [r1, r2]
    clear r1 r2 z1 z2 hb h1 h2
    generalize a / 4503599627370496 = E at *
    generalize a % 4503599627370496 = F at *
    generalize (-1074 + ((E - 1 : Nat) : Int)) = k
    unfold Datum.opposite Datum.sum
    simp only [Int.min_self, Int.sub_self, Int.toNat_zero, signed, Nat.shiftLeft_zero, Bool.not_false, Bool.false_eq_true, if_false, if_true, Option.map_some]
    have e : ((4503599627370496 + F : Nat) : Int) + -((4503599627370496 + 0 : Nat) : Int) = (F : Int) := by omega
    rw [e]
    unfold Format.write
    simp only [Int.natAbs_natCast, Option.some.injEq]
    by_cases hz : F = 0
    · subst hz; rfl
    · rw [if_neg (by omega)]
      have : decide ((F : Int) < 0) = false := by simp
      rw [this]
  have hs : step a = double.nearest false (a % 4503599627370496) (-1074 + ((a / 4503599627370496 - 1 : Nat) : Int)) := by
    unfold step
    rw [key]
    rfl
  refine ⟨by rw [key, hs], ?_⟩
  rw [hs]
  clear hs key r1 r2 z1 z2 hb h1 h2
  generalize a / 4503599627370496 = E at *
  generalize a % 4503599627370496 = F at *
  by_cases hz : F = 0
  · subst hz
    have : double.nearest false 0 (-1074 + ((E - 1 : Nat) : Int)) = 0 := by unfold Format.nearest; rfl
    rw [this]
    omega
  · have hp : 0 < F := by omega
    have hL : F.log2 ≤ 51 := log2_le hp (by omega)
    have hk := (kept_bounds F hp (by omega)).2
    rw [nearest_exact false F _ hp (by omega) (by omega) (by omega)]
    unfold Format.word
    simp only [Bool.false_eq_true, if_false]
    generalize F.log2 = L at *
    generalize F * 2 ^ (52 - L) = X at *
    have e5 : (-1074 + ((E - 1 : Nat) : Int) + (L : Int) - 52 + 1074).toNat + 2 ≤ E := by omega
    generalize (-1074 + ((E - 1 : Nat) : Int) + (L : Int) - 52 + 1074).toNat = K at *
    omega
theorem step_lt (a : Nat) (h1 : Y ≤ a) (h2 : a < 9218868437227405312) : step a < a := by
  have := (sub_step a h1 h2).2
  omega
/-- What 'math.mod' of a finite number by 2 ^ 32 gives. -/
def modR (a : Nat) : Nat := if h : Y ≤ a ∧ step a < a then modR (step a) else a
termination_by a
decreasing_by exact h.2
theorem modR_step (a : Nat) (h1 : Y ≤ a) (h2 : a < 9218868437227405312) : modR a = modR (step a) := by
  rw [modR, dif_pos ⟨h1, step_lt a h1 h2⟩]
theorem modR_done (a : Nat) (h : a < Y) : modR a = a := by
  rw [modR, dif_neg (by intro h'; have := h'.1; omega)]
theorem modR_lt (a : Nat) (h2 : a < 9218868437227405312) : modR a < Y := by
  induction a using Nat.strongRecOn with
  | ind a ih =>
    by_cases h1 : Y ≤ a
    · rw [modR_step a h1 h2]
      have := step_lt a h1 h2
      exact ih _ this (by omega)
    · rw [modR_done a (by omega)]
      omega
/-- A finite word below 2 ^ 32's, cut to a whole number. -/
theorem trunc_lt (a : Nat) (h : a < Y) : ∃ n : Nat, (double.read a).toInt .zero = some (n : Int) ∧ n < 4294967296 := by
  by_cases h1 : a < 4503599627370496
  · rw [read_sub a h1, trunc_eq]
    obtain ⟨d, hd, hd2⟩ : ∃ d, (-(-1074 : Int)).toNat = d ∧ 52 ≤ d := ⟨_, rfl, by decide⟩
    refine ⟨0, by rw [if_neg (by decide), hd, Nat.div_eq_of_lt (Nat.lt_of_lt_of_le h1 (Nat.le_trans (show 4503599627370496 ≤ 2 ^ 52 by decide) (Nat.pow_le_pow_right (by decide) hd2)))], by decide⟩
  · rw [read_norm a (by omega) (by unfold Y at h; omega), trunc_eq]
    have hE : 1 ≤ a / 4503599627370496 ∧ a / 4503599627370496 ≤ 1054 := by unfold Y at h; omega
    have hm : 4503599627370496 + a % 4503599627370496 < 9007199254740992 := by omega
    generalize 4503599627370496 + a % 4503599627370496 = m at *
    generalize a / 4503599627370496 = E at *
    have e : (-(-1074 + ((E - 1 : Nat) : Int))).toNat = 1075 - E := by omega
    refine ⟨m / 2 ^ (1075 - E), by rw [if_neg (by omega), e], ?_⟩
    rw [Nat.div_lt_iff_lt_mul (Nat.pow_pos (by decide))]
    have h3 : 2 ^ 21 ≤ 2 ^ (1075 - E) := Nat.pow_le_pow_right (by decide) (by omega)
    have h4 : 4294967296 * 2 ^ 21 ≤ 4294967296 * 2 ^ (1075 - E) := Nat.mul_le_mul_left _ h3
    have h5 : 4294967296 * 2 ^ 21 = 9007199254740992 := by decide
    omega
theorem trunc_ge (a : Nat) (h1 : Y ≤ a) (h2 : a < 9218868437227405312) : ∃ n : Nat, (double.read a).toInt .zero = some (n : Int) ∧ 4294967296 ≤ n := by
  rw [read_norm a (by unfold Y at h1; omega) h2, trunc_eq]
  have hE : 1055 ≤ a / 4503599627370496 := by unfold Y at h1; omega
  have hm : 4503599627370496 ≤ 4503599627370496 + a % 4503599627370496 := by omega
  generalize 4503599627370496 + a % 4503599627370496 = m at *
  generalize a / 4503599627370496 = E at *
  by_cases hi : 0 ≤ -1074 + ((E - 1 : Nat) : Int)
  · refine ⟨_, by rw [if_pos hi], ?_⟩
    have : 1 ≤ 2 ^ (-1074 + ((E - 1 : Nat) : Int)).toNat := Nat.one_le_two_pow
    have : m * 1 ≤ m * 2 ^ (-1074 + ((E - 1 : Nat) : Int)).toNat := Nat.mul_le_mul_left _ this
    omega
  · refine ⟨_, by rw [if_neg hi], ?_⟩
    have e : (-(-1074 + ((E - 1 : Nat) : Int))).toNat ≤ 20 := by omega
    generalize (-(-1074 + ((E - 1 : Nat) : Int))).toNat = d at *
    rw [Nat.le_div_iff_mul_le (Nat.pow_pos (by decide))]
    have h3 : 2 ^ d ≤ 2 ^ 20 := Nat.pow_le_pow_right (by decide) e
    have h4 : 4294967296 * 2 ^ d ≤ 4294967296 * 2 ^ 20 := Nat.mul_le_mul_left _ h3
    have h5 : 4294967296 * 2 ^ 20 = 4503599627370496 := by decide
    omega
/-- A finite word's significand and binade. -/
def sg (a : Nat) : Nat := if a < 4503599627370496 then a else 4503599627370496 + a % 4503599627370496
theorem read_sg (a : Nat) (h : a < 9218868437227405312) : double.read a = .number false (sg a) (-1074 + ((a / 4503599627370496 - 1 : Nat) : Int)) := by
  unfold sg
  by_cases h1 : a < 4503599627370496
  · rw [if_pos h1, read_sub a h1]
    have : a / 4503599627370496 - 1 = 0 := by omega
    rw [this]
    rfl
  · rw [if_neg h1, read_norm a (by omega) h]
theorem ord_nat (m n : Nat) (i j : Nat) : (Datum.number false m (-1074 + (i : Int))).order (.number false n (-1074 + (j : Int))) = some (compare ((m * 2 ^ (i - min i j) : Nat) : Int) ((n * 2 ^ (j - min i j) : Nat) : Int)) := by
  unfold Datum.order
  simp only [signed, Bool.false_eq_true, if_false, Nat.shiftLeft_eq]
  have e1 : (-1074 + (i : Int) - min (-1074 + (i : Int)) (-1074 + (j : Int))).toNat = i - min i j := by omega
  have e2 : (-1074 + (j : Int) - min (-1074 + (i : Int)) (-1074 + (j : Int))).toNat = j - min i j := by omega
  rw [e1, e2]
theorem sg_lt {a b : Nat} (h : a < b) : sg a < sg b * 2 ^ (b / 4503599627370496 - 1 - (a / 4503599627370496 - 1)) ∧ a / 4503599627370496 - 1 ≤ b / 4503599627370496 - 1 := by
  have hle : a / 4503599627370496 - 1 ≤ b / 4503599627370496 - 1 := by omega
  refine ⟨?_, hle⟩
  by_cases he : a / 4503599627370496 - 1 = b / 4503599627370496 - 1
  · rw [he, Nat.sub_self, Nat.pow_zero, Nat.mul_one]
    unfold sg
    by_cases h1 : a < 4503599627370496
    · rw [if_pos h1]
      by_cases h2 : b < 4503599627370496
      · rw [if_pos h2]; exact h
      · rw [if_neg h2]; omega
    · rw [if_neg h1, if_neg (by omega)]
      omega
  · have hb : 4503599627370496 ≤ sg b := by
      unfold sg
      rw [if_neg (by omega)]
      omega
    have ha : sg a < 9007199254740992 := by
      unfold sg
      split <;> omega
    have hd : 1 ≤ b / 4503599627370496 - 1 - (a / 4503599627370496 - 1) := by omega
    generalize b / 4503599627370496 - 1 - (a / 4503599627370496 - 1) = d at *
    have h3 : 2 ^ 1 ≤ 2 ^ d := Nat.pow_le_pow_right (by decide) hd
    have h4 : sg b * 2 ^ 1 ≤ sg b * 2 ^ d := Nat.mul_le_mul_left _ h3
    omega
theorem cmp_lt {a b : Int} (h : a < b) : compare a b = .lt := by
  simp [compare, compareOfLessAndEq, h]
theorem cmp_gt {a b : Int} (h : b < a) : compare a b = .gt := by
  have h1 : ¬ a < b := by omega
  have h2 : ¬ a = b := by omega
  simp [compare, compareOfLessAndEq, h1, h2]
theorem cmp_self (a : Int) : compare a a = .eq := by
  simp [compare, compareOfLessAndEq]
theorem cmp_eq {a b : Int} (h : compare a b = .eq) : a = b := by
  rcases Int.lt_trichotomy a b with h1 | h1 | h1
  · rw [cmp_lt h1] at h; cases h
  · exact h1
  · rw [cmp_gt h1] at h; cases h
theorem order_lt {a b : Nat} (h : a < b) (hb : b < 9218868437227405312) : double.order a b = some .lt := by
  unfold Format.order
  rw [read_sg a (by omega), read_sg b hb, ord_nat]
  obtain ⟨h1, h2⟩ := sg_lt h
  rw [Nat.min_eq_left h2, Nat.sub_self, Nat.pow_zero, Nat.mul_one, cmp_lt (by exact_mod_cast h1)]
theorem order_gt {a b : Nat} (h : b < a) (ha : a < 9218868437227405312) : double.order a b = some .gt := by
  unfold Format.order
  rw [read_sg a ha, read_sg b (by omega), ord_nat]
  obtain ⟨h1, h2⟩ := sg_lt h
  rw [Nat.min_eq_right h2, Nat.sub_self, Nat.pow_zero, Nat.mul_one, cmp_gt (by exact_mod_cast h1)]
theorem order_self {a : Nat} (ha : a < 9218868437227405312) : double.order a a = some .eq := by
  unfold Format.order
  rw [read_sg a ha, ord_nat, cmp_self]
/-- The words of the integers of 32 bits. -/
theorem near_read (k : Int) (hk : k ≠ 0) (h1 : k.natAbs ≤ 2147483648) : ∃ L : Nat, L ≤ 31 ∧ double.read (FloatKind.f64.nearest k) = .number (decide (k < 0)) (k.natAbs * 2 ^ (52 - L)) ((L : Int) - 52) := by
  have hp : 0 < k.natAbs := by omega
  refine ⟨k.natAbs.log2, log2_le hp (by have : (2:Nat) ^ (31 + 1) = 4294967296 := by decide
                                        omega), ?_⟩
  have hL : k.natAbs.log2 ≤ 31 := log2_le hp (by have : (2:Nat) ^ (31 + 1) = 4294967296 := by decide
                                                 omega)
  have hm : k.natAbs < 2 ^ 53 := by have : (2:Nat) ^ 53 = 9007199254740992 := by decide
                                    omega
  have hkb := kept_bounds k.natAbs hp hm
  have e : FloatKind.f64.nearest k = double.word (decide (k < 0)) ((0 + (k.natAbs.log2 : Int) - 52 + 1074).toNat * 4503599627370496 + k.natAbs * 2 ^ (52 - k.natAbs.log2)) := by
    show double.nearest (decide (k < 0)) k.natAbs 0 = _
    exact nearest_exact _ _ 0 hp hm (by omega) (by omega)
  rw [e]
  clear e hm hp h1
  have eK : (0 + (k.natAbs.log2 : Int) - 52 + 1074).toNat = k.natAbs.log2 + 1022 := by omega
  rw [eK]
  clear eK
  generalize hX : k.natAbs * 2 ^ (52 - k.natAbs.log2) = X at *
  generalize k.natAbs.log2 = L at *
  have hW : (L + 1022) * 4503599627370496 + X < 9218868437227405312 := by omega
  have hr : double.read ((L + 1022) * 4503599627370496 + X) = .number false X ((L : Int) - 52) := by
    rw [read_norm _ (by omega) hW]
    have a1 : ((L + 1022) * 4503599627370496 + X) % 4503599627370496 = X - 4503599627370496 := by omega
    have a2 : ((L + 1022) * 4503599627370496 + X) / 4503599627370496 = L + 1023 := by omega
    rw [a1, a2]
    have a3 : 4503599627370496 + (X - 4503599627370496) = X := by omega
    have a4 : (-1074 + ((L + 1023 - 1 : Nat) : Int)) = (L : Int) - 52 := by omega
    rw [a3, a4]
  generalize (L + 1022) * 4503599627370496 + X = W at *
  unfold Format.word
  rw [d_sign]
  have key : ∀ s : Bool, double.read (if s = true then 9223372036854775808 + W else W) = .number s X ((L : Int) - 52) := by
    intro s
    rw [read_split _ (by split <;> omega)]
    have e1 : low (if s = true then 9223372036854775808 + W else W) = W := by unfold low; split <;> omega
    have e2 : ng (if s = true then 9223372036854775808 + W else W) = s := by
      unfold ng
      cases s
      · simp; omega
      · simp
    rw [e1, e2, hr]
  exact key _
theorem read_big (a : Nat) (h : ¬ a < 9218868437227405312) (h2 : a < 9223372036854775808) : double.read a = .infinity false ∧ a = 9218868437227405312 ∨ ∃ t, double.read a = .nan false t ∧ a ≠ 9218868437227405312 := by
  unfold Format.read
  simp only [d_binade, d_least, d_inf, d_sign]
  have h3 : a / 9223372036854775808 % 2 = 0 := by omega
  have h4 : a % 9223372036854775808 = a := by omega
  rw [h3, h4, if_neg (by omega), if_neg h]
  by_cases e : a = 9218868437227405312
  · rw [if_pos e]; exact .inl ⟨rfl, e⟩
  · rw [if_neg e]; exact .inr ⟨_, rfl, e⟩
theorem eq_parts {s t : Bool} {K m : Nat} {L : Nat} {i : Int} (hL : L ≤ 31) (hK : 0 < K)
    (h : (Datum.number s (K * 2 ^ (52 - L)) ((L : Int) - 52)).order (.number t m i) = some .eq) : s = t ∧ (Datum.number false m i).toInt .zero = some (K : Int) := by
  unfold Datum.order at h
  simp only [Option.some.injEq] at h
  have h := cmp_eq h
  unfold signed at h
  simp only [Nat.shiftLeft_eq] at h
  generalize hu : ((L : Int) - 52 - min ((L : Int) - 52) i).toNat = u at h
  generalize hv : (i - min ((L : Int) - 52) i).toNat = v at h
  have hpos : 0 < K * 2 ^ (52 - L) * 2 ^ u := Nat.mul_pos (Nat.mul_pos hK (Nat.pow_pos (by decide))) (Nat.pow_pos (by decide))
  have hst : s = t ∧ K * 2 ^ (52 - L) * 2 ^ u = m * 2 ^ v := by
    generalize K * 2 ^ (52 - L) * 2 ^ u = A at *
    generalize m * 2 ^ v = B at *
    cases s <;> cases t <;> simp at h ⊢ <;> omega
  refine ⟨hst.1, ?_⟩
  have he := hst.2
  clear h hst hpos
  rw [trunc_eq]
  by_cases hi : 0 ≤ i
  · rw [if_pos hi]
    have hu0 : u = 0 := by omega
    have hvv : v = i.toNat + (52 - L) := by omega
    rw [hu0, hvv, Nat.pow_zero, Nat.mul_one, Nat.pow_add, ← Nat.mul_assoc] at he
    have := Nat.mul_right_cancel (Nat.pow_pos (by decide)) he
    rw [← this]
  · rw [if_neg hi]
    generalize hd : (-i).toNat = d at *
    have hm : m = K * 2 ^ d := by
      by_cases hc : (L : Int) - 52 ≤ i
      · have hu0 : u = 0 := by omega
        have hvv : 52 - L = d + v := by omega
        rw [hu0, hvv, Nat.pow_zero, Nat.mul_one, Nat.pow_add, ← Nat.mul_assoc] at he
        exact (Nat.mul_right_cancel (Nat.pow_pos (by decide)) he).symm
      · have hv0 : v = 0 := by omega
        have hdd : d = 52 - L + u := by omega
        rw [hv0, Nat.pow_zero, Nat.mul_one, Nat.mul_assoc, ← Nat.pow_add, ← hdd] at he
        exact he.symm
    rw [hm, Nat.mul_div_cancel _ (Nat.pow_pos (by decide))]
/-- The whole number that a finite word below 2 ^ 32's is cut to. -/
def qn (b : Nat) : Int := ((double.read b).toInt .zero).getD 0
theorem low_lt (f : Nat) : low f < 9223372036854775808 := by unfold low; omega
theorem easy (k : Int) (f : Nat) (hk : -2147483648 ≤ k ∧ k ≤ 2147483647) (hf : f < 18446744073709551616) (h : double.order (FloatKind.f64.nearest k) f = some .eq) :
    low f < Y ∧ k = (if ng f = true then -qn (low f) else qn (low f)) ∧ 0 ≤ qn (low f) ∧ qn (low f) ≤ 2147483648 := by
  unfold Format.order at h
  have hlow : low f < 9218868437227405312 := by
    by_cases hl : low f < 9218868437227405312
    · exact hl
    · exfalso
      have hk' : ∃ s m i, double.read (FloatKind.f64.nearest k) = .number s m i := by
        by_cases hz : k = 0
        · subst hz; exact ⟨false, 0, -1074, by decide⟩
        · obtain ⟨L, _, hr⟩ := near_read k hz (by omega)
          exact ⟨_, _, _, hr⟩
      obtain ⟨s, m, i, hr⟩ := hk'
      rw [hr, read_split f hf] at h
      rcases read_big (low f) hl (low_lt f) with ⟨h1, _⟩ | ⟨t, h1, _⟩
      · rw [h1] at h
        unfold Datum.order at h
        cases hn : ng f <;> simp [hn] at h
      · rw [h1] at h
        unfold Datum.order at h
        cases h
  have hs := read_sg (low f) hlow
  have ht : (Datum.number false (sg (low f)) (-1074 + ((low f / 4503599627370496 - 1 : Nat) : Int))).toInt .zero = some (k.natAbs : Int) ∧ (k = if ng f = true then -(k.natAbs : Int) else k.natAbs) := by
    rw [read_split f hf, hs] at h
    simp only at h
    generalize (-1074 + ((low f / 4503599627370496 - 1 : Nat) : Int)) = i at *
    generalize sg (low f) = m at *
    by_cases hz : k = 0
    · subst hz
      have h0 : double.read (FloatKind.f64.nearest 0) = .number false 0 (-1074) := by decide
      rw [h0] at h
      unfold Datum.order at h
      simp only [Option.some.injEq] at h
      have h := cmp_eq h
      unfold signed at h
      simp only [Nat.shiftLeft_eq, Nat.zero_mul, Bool.false_eq_true, if_false] at h
      have hm : m = 0 := by
        have hp : 0 < 2 ^ (i - min (-1074) i).toNat := Nat.pow_pos (by decide)
        rcases Nat.eq_zero_or_pos m with h0 | h0
        · exact h0
        · have := Nat.mul_pos h0 hp
          generalize m * 2 ^ (i - min (-1074) i).toNat = B at *
          exfalso
          split at h <;> omega
      rw [trunc_eq, hm]
      simp
    · obtain ⟨L, hL, hr⟩ := near_read k hz (by omega)
      rw [hr] at h
      obtain ⟨h1, h2⟩ := eq_parts hL (by omega) h
      refine ⟨h2, ?_⟩
      rw [← h1]
      by_cases hneg : k < 0
      · rw [if_pos (by simpa using hneg)]; omega
      · rw [if_neg (by simpa using hneg)]; omega
  have hq : qn (low f) = (k.natAbs : Int) := by
    unfold qn
    rw [hs, ht.1]
    rfl
  refine ⟨?_, by rw [hq]; exact ht.2, by rw [hq]; omega, by rw [hq]; omega⟩
  by_cases hy : low f < Y
  · exact hy
  · exfalso
    obtain ⟨n, h1, h2⟩ := trunc_ge (low f) (by omega) hlow
    rw [hs, ht.1] at h1
    simp only [Option.some.injEq] at h1
    omega
end Go.Proofs.YtlhcgkocnckddaaDoor.flt
