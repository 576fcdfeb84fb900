/- The contracts of package math's functions that the law reaches. No conditions beyond the hypotheses. -/
import Derived.Test.YtangoichgbkjmaaFltP
import Derived.Deep.LoopGhost
namespace Go.Proofs.Ytangoichgbkjmaa.flt
open Go.ChangeShapes Go.WideShapes Go.ChangeAt Go.RowKit Go.Mine
open Ieee
set_option linter.unusedVariables false
set_option linter.unusedSimpArgs false
set_option maxRecDepth 100000

abbrev fl (b : Nat) : Value := .float .f64 b
@[go_sem] theorem call13 (b : Nat) (w : World) : (callFunc 13 #[.float .f64 b]).run Try.prog w = .ok (.value (.int .u64 b)) w :=
  (show _ = ((Go.Extern.MathFloatBits.float64bits #[.float .f64 b]).run Try.prog w).andThen fun v w' => .ok (.value v) w' from run_callFunc_extern Try.func13 (by kernel_rfl) (by kernel_rfl) (by kernel_rfl) (by kernel_rfl) #[.float .f64 b] w).trans rfl
@[go_sem] theorem call12 (b : Nat) (w : World) : (callFunc 12 #[.int .u64 (b : Int)]).run Try.prog w = .ok (.value (.float .f64 b)) w :=
  (show _ = ((Go.Extern.MathFloatBits.float64frombits #[.int .u64 (b : Int)]).run Try.prog w).andThen fun v w' => .ok (.value v) w' from run_callFunc_extern Try.func12 (by kernel_rfl) (by kernel_rfl) (by kernel_rfl) (by kernel_rfl) #[.int .u64 (b : Int)] w).trans rfl
theorem abs_bits (f : Nat) (hf : f < 18446744073709551616) : bits .andNot .u64 (f : Int) 9223372036854775808 = ((low f : Nat) : Int) := by
  rw [u64_andNot (f : Int) 9223372036854775808 (by omega) (by omega) (by decide) (by decide)]
  have e : (18446744073709551615 - (9223372036854775808 : Int).toNat) = 2 ^ 63 - 1 := by decide
  rw [e, Int.toNat_natCast, Nat.and_two_pow_sub_one_eq_mod]
  rfl
theorem c8 (f : Nat) (w : World) (hf : f < 18446744073709551616) : Calls Try.prog 8 #[fl f] w fun e w' => e = .returned (fl (low f)) ∧ w = w' := by
  have hb := abs_bits f hf
  go_enter Try.func8, Try.ntmps8
  go_wp2
  go_ret
  exact ⟨rfl, rfl⟩
theorem c9 (f : Nat) (w : World) (hf : f < 18446744073709551616) : Calls Try.prog 9 #[fl f] w fun e w' => e = .returned (.bool (ng f)) ∧ w = w' := by
  have hw : decide (wrap64 (f : Int) < 0) = ng f := by
    unfold ng
    apply decide_eq_decide.2
    unfold wrap64
    omega
  go_enter Try.func9, Try.ntmps9
  go_wp2
  go_ret
  exact ⟨by rw [← hw]; rfl, rfl⟩
theorem c5 (f : Nat) (w : World) : Calls Try.prog 5 #[fl f] w fun e w' => e = .returned (.bool (double.order f f != some .eq)) ∧ w = w' := by
  go_enter Try.func5, Try.ntmps5
  go_wp2
  go_ret
  exact ⟨rfl, rfl⟩
theorem c6 (f : Nat) (w : World) (hf : f < 18446744073709551616) : Calls Try.prog 6 #[fl f, .int .i64 0] w fun e w' => e = .returned (.bool (double.order (low f) 9218868437227405311 == some .gt)) ∧ w = w' := by
  go_enter Try.func6, Try.ntmps6
  go_wp2_with (first | (go_at_call 8; refine (c8 _ _ hf).mono ?_; rintro e w1 ⟨rfl, rfl⟩))
  go_ret
  exact ⟨rfl, rfl⟩
/-- A word from 2 ^ -1022 on, finite. -/
structure Nm (x : Nat) : Prop where
  lo : 4503599627370496 ≤ x
  hi : x < 9218868437227405312
theorem low_fin {x : Nat} (h : x < 9218868437227405312) : low x = x := by unfold low; omega
theorem c21 (x : Nat) (w : World) (h : Nm x) : Calls Try.prog 21 #[fl x] w fun e w' => e = .returned (.tuple #[fl x, .int .i64 0]) ∧ w = w' := by
  have hl : (FloatKind.f64.format.order x 4503599627370496 == some Ordering.lt) = false := by
    show (double.order x 4503599627370496 == some .lt) = false
    by_cases he : x = 4503599627370496
    · rw [he, order_self (by decide)]; rfl
    · rw [order_gt (by have := h.lo; omega) h.hi]; rfl
  have h2 := low_fin h.hi
  have hx : x < 18446744073709551616 := by have := h.hi; omega
  go_enter Try.func21, Try.ntmps21
  go_wp2_with (first | (go_at_call 8; refine (c8 _ _ hx).mono ?_; rintro e w1 ⟨rfl, rfl⟩; rw [h2]))
  go_ret2
  exact ⟨rfl, rfl⟩
theorem exp_bits (x : Nat) (h : x < 9218868437227405312) : bits .and .u64 ((x : Int) / 4503599627370496) 2047 = ((x / 4503599627370496 : Nat) : Int) := by
  have e0 : ((x : Int) / 4503599627370496) = ((x / 4503599627370496 : Nat) : Int) := by omega
  rw [e0, u64_and _ 2047 (by omega) (by omega) (by decide) (by decide), Int.toNat_natCast]
  have e1 : (2047 : Int).toNat = 2 ^ 11 - 1 := by decide
  rw [e1, Nat.and_two_pow_sub_one_eq_mod]
  congr 1
  have : (2 : Nat) ^ 11 = 2048 := by decide
  omega
theorem frac_nat (x : Nat) (h : x < 9223372036854775808) : x &&& 9227875636482146303 = x % 4503599627370496 := by
  have hx : x &&& (2 ^ 63 - 1) = x := by rw [Nat.and_two_pow_sub_one_eq_mod]; exact Nat.mod_eq_of_lt h
  have e : (2 ^ 63 - 1) &&& (9227875636482146303 : Nat) = 2 ^ 52 - 1 := by decide
  have h1 : x &&& 9227875636482146303 = x &&& (2 ^ 63 - 1) &&& 9227875636482146303 := by rw [hx]
  rw [h1, Nat.and_assoc, e, Nat.and_two_pow_sub_one_eq_mod]
theorem frac_bits (x : Nat) (h : x < 9218868437227405312) : bits .or .u64 (bits .andNot .u64 (x : Int) 9218868437227405312) 4602678819172646912 = ((4602678819172646912 + x % 4503599627370496 : Nat) : Int) := by
  rw [u64_andNot (x : Int) 9218868437227405312 (by omega) (by omega) (by decide) (by decide), Int.toNat_natCast]
  have e1 : (18446744073709551615 - (9218868437227405312 : Int).toNat) = 9227875636482146303 := by decide
  rw [e1, frac_nat x (by omega), u64_or _ 4602678819172646912 (by omega) (by omega) (by decide) (by decide), Int.toNat_natCast]
  congr 1
  have e2 : (4602678819172646912 : Int).toNat = 2 ^ 52 * 1022 := by decide
  have e3 : (4602678819172646912 : Nat) = 2 ^ 52 * 1022 := by decide
  rw [e2, Nat.or_comm, ← Nat.two_pow_add_eq_or_of_lt (by have : (2 : Nat) ^ 52 = 4503599627370496 := by decide
                                                         omega), ← e3]
theorem c18 (x : Nat) (w : World) (h : Nm x) : Calls Try.prog 18 #[fl x] w fun e w' => e = .returned (.tuple #[fl (4602678819172646912 + x % 4503599627370496), .int .i64 ((x / 4503599627370496 : Nat) - 1023 + 1)]) ∧ w = w' := by
  have hx : x < 18446744073709551616 := by have := h.hi; omega
  have h2 := low_fin h.hi
  have hz : (FloatKind.f64.format.order x 0 == some Ordering.eq) = false := by
    show (double.order x 0 == some .eq) = false
    rw [order_gt (by have := h.lo; omega) h.hi]; rfl
  have hi : (double.order x 9218868437227405311 == some Ordering.gt) = false := by
    by_cases he : x = 9218868437227405311
    · rw [he, order_self (by decide)]; rfl
    · rw [order_lt (by have := h.hi; omega) (by decide)]; rfl
  have hn : (double.order x x != some Ordering.eq) = false := by rw [order_self h.hi]; rfl
  have b1 := exp_bits x h.hi
  have b2 := frac_bits x h.hi
  have hE : x / 4503599627370496 < 2048 := by have := h.hi; omega
  generalize 4602678819172646912 + x % 4503599627370496 = G at *
  generalize x / 4503599627370496 = E at *
  go_enter Try.func18, Try.ntmps18
  go_wp2_with (first | (go_at_call 6; refine (c6 _ _ hx).mono ?_; rintro e w1 ⟨rfl, rfl⟩; rw [h2, hi]) | (go_at_call 5; refine (c5 _ _).mono ?_; rintro e w1 ⟨rfl, rfl⟩; rw [hn]) | (go_at_call 21; refine (c21 _ _ h).mono ?_; rintro e w1 ⟨rfl, rfl⟩))
  go_ret2
  exact ⟨rfl, rfl⟩
theorem c15 (x : Nat) (w : World) (h : Nm x) : Calls Try.prog 15 #[fl x] w fun e w' => e = .returned (.tuple #[fl (4602678819172646912 + x % 4503599627370496), .int .i64 ((x / 4503599627370496 : Nat) - 1023 + 1)]) ∧ w = w' := by
  have H := Lib.hid (fun w => c18 x w h)
  generalize 4602678819172646912 + x % 4503599627370496 = G at *
  generalize x / 4503599627370496 = E at *
  go_enter Try.func15, Try.ntmps15
  go_wp2_with (first | (go_at_call 18; refine (H.out _).mono ?_; rintro e w1 ⟨rfl, rfl⟩))
  go_ret2
  exact ⟨rfl, rfl⟩
theorem nmY : Nm 4751297606875873280 := ⟨by decide, by decide⟩
theorem mul_one (E : Nat) (h1 : 1055 ≤ E) (h2 : E ≤ 2046) : double.mul 4607182418800017408 (E * 4503599627370496) = some (E * 4503599627370496) := by
  have r1 := read_norm 4607182418800017408 (by decide) (by decide)
  have r2 := read_norm (E * 4503599627370496) (by omega) (by omega)
  have z1 : E * 4503599627370496 % 4503599627370496 = 0 := by omega
  have z2 : E * 4503599627370496 / 4503599627370496 = E := by omega
  rw [z1, z2] at r2
  have z3 : 4607182418800017408 % 4503599627370496 = 0 := by decide
  have z4 : 4607182418800017408 / 4503599627370496 = 1023 := by decide
  rw [z3, z4] at r1
  unfold Format.mul
  rw [r1, r2]
  simp only [Datum.product, Option.map_some, Format.write, Nat.add_zero, Option.some.injEq, Bool.xor_self]
  have hp : (-1074 + ((1023 - 1 : Nat) : Int) + (-1074 + ((E - 1 : Nat) : Int))) = (E : Int) - 1127 := by omega
  rw [hp]
  unfold Format.nearest
  simp only [d_binade, d_least, d_inf, d_frac]
  have hm : (4503599627370496 * 4503599627370496 : Nat) = 2 ^ 104 := by decide
  have hl : (4503599627370496 * 4503599627370496 : Nat).log2 = 104 := by decide
  rw [if_neg (by decide), hl]
  have e1 : max ((E : Int) - 1127 + ((104 : Nat) : Int) - ((52 : Nat) : Int)) (-1074) = (E : Int) - 1075 := by omega
  rw [e1]
  have e2 : ((E : Int) - 1127 - ((E : Int) - 1075)).toNat = 0 := by omega
  have e3 : ((E : Int) - 1075 - ((E : Int) - 1127)).toNat = 52 := by omega
  have e4 : ((E : Int) - 1075 - -1074).toNat = E - 1 := by omega
  rw [e2, e3, e4]
  have e5 : Toward.even.cut false ((4503599627370496 * 4503599627370496) <<< 0) 52 = 4503599627370496 := by decide
  rw [e5]
  unfold Format.word
  simp only [Bool.false_eq_true, if_false]
  rw [Nat.min_eq_left (by omega)]
  omega
theorem c20 (n : Nat) (w : World) (h : n ≤ 991) : Calls Try.prog 20 #[fl 4751297606875873280, .int .i64 n] w fun e w' => e = .returned (fl ((n + 1055) * 4503599627370496)) ∧ w = w' := by
  have hx : 4751297606875873280 < 18446744073709551616 := by decide
  have h2 : low 4751297606875873280 = 4751297606875873280 := low_fin (by decide)
  have hz : (FloatKind.f64.format.order 4751297606875873280 0 == some Ordering.eq) = false := by
    show (double.order 4751297606875873280 0 == some .eq) = false
    rw [order_gt (by decide) (by decide)]; rfl
  have hi : (double.order 4751297606875873280 9218868437227405311 == some Ordering.gt) = false := by
    rw [order_lt (by decide) (by decide)]; rfl
  have hn : (double.order 4751297606875873280 4751297606875873280 != some Ordering.eq) = false := by rw [order_self (by decide)]; rfl
  have hmul := mul_one (n + 1055) (by omega) (by omega)
  have hA : bits BinOp.and IntKind.i64 1055 2047 = 1055 := by decide
  obtain ⟨M, hM, hM2⟩ : ∃ M : Nat, bits BinOp.or IntKind.u64 (bits BinOp.andNot IntKind.u64 4751297606875873280 9218868437227405312) (((n : Int) + 1055) * 4503599627370496) = (M : Int) ∧ (n + 1055) * 4503599627370496 = M := by
    refine ⟨(n + 1055) * 4503599627370496, ?_, rfl⟩
    have e : bits BinOp.andNot IntKind.u64 4751297606875873280 9218868437227405312 = 0 := by decide
    rw [e, u64_or 0 _ (by decide) (by decide) (by omega) (by omega)]
    have e2 : (0 : Int).toNat = 0 := rfl
    rw [e2, Nat.zero_or]
    omega
  have hM1 : bits BinOp.or IntKind.u64 (bits BinOp.andNot IntKind.u64 4751297606875873280 9218868437227405312) (((n : Int) + 32 + 1023) * 4503599627370496) = (M : Int) := by
    rw [← hM]; congr 1
  rw [hM2] at hmul
  have hmul2 : ∀ w, (binOp .mul 22 (.float .f64 4607182418800017408) (.float .f64 M)).run Try.prog w = .ok (.float .f64 M) w := fun w => run_float_arith w .mul 22 .f64 _ _ _ hmul
  rw [hM2]
  clear hM2 hmul
  go_enter Try.func20, Try.ntmps20
  go_wp2_with (first | (go_at_call 6; refine (c6 _ _ hx).mono ?_; rintro e w1 ⟨rfl, rfl⟩; rw [h2, hi]) | (go_at_call 5; refine (c5 _ _).mono ?_; rintro e w1 ⟨rfl, rfl⟩; rw [hn]) | (go_at_call 21; refine (c21 _ _ nmY).mono ?_; rintro e w1 ⟨rfl, rfl⟩))
  go_ret
  exact ⟨rfl, rfl⟩
theorem c16 (n : Nat) (w : World) (h : n ≤ 991) : Calls Try.prog 16 #[fl 4751297606875873280, .int .i64 n] w fun e w' => e = .returned (fl ((n + 1055) * 4503599627370496)) ∧ w = w' := by
  have H := Lib.hid (fun w => c20 n w h)
  generalize (n + 1055) * 4503599627370496 = G at *
  go_enter Try.func16, Try.ntmps16
  go_wp2_with (first | (go_at_call 20; refine (H.out _).mono ?_; rintro e w1 ⟨rfl, rfl⟩))
  go_ret
  exact ⟨rfl, rfl⟩
/-- 'math.mod' of a finite number that is not negative by 2 ^ 32. -/
theorem c11 (a : Nat) (w : World) (ha : a < 9218868437227405312) : Calls Try.prog 11 #[fl a, fl 4751297606875873280] w fun e w' => e = .returned (fl (modR a)) ∧ w = w' := by
  have hx : a < 18446744073709551616 := by omega
  have hl := low_fin ha
  have hY0 : (FloatKind.f64.format.order 4751297606875873280 0 == some Ordering.eq) = false := by
    show (double.order 4751297606875873280 0 == some .eq) = false
    rw [order_gt (by decide) (by decide)]; rfl
  have hi : (double.order a 9218868437227405311 == some Ordering.gt) = false := by
    by_cases he : a = 9218868437227405311
    · rw [he, order_self (by decide)]; rfl
    · rw [order_lt (by omega) (by decide)]; rfl
  have hn : (double.order a a != some Ordering.eq) = false := by rw [order_self ha]; rfl
  have hnY : (double.order 4751297606875873280 4751297606875873280 != some Ordering.eq) = false := by rw [order_self (by decide)]; rfl
  have hneg : (FloatKind.f64.format.order a 0 == some Ordering.lt) = false := by
    show (double.order a 0 == some .lt) = false
    by_cases he : a = 0
    · rw [he, order_self (by decide)]; rfl
    · rw [order_gt (by omega) ha]; rfl
  have hYx : 4751297606875873280 < 18446744073709551616 := by decide
  have hYl : low 4751297606875873280 = 4751297606875873280 := low_fin (by decide)
  go_enter Try.func11, Try.ntmps11
  go_wp2_with (first | (go_at_call 6; refine (c6 _ _ hx).mono ?_; rintro e w1 ⟨rfl, rfl⟩; rw [hl, hi]) | (go_at_call 5; first | (refine (c5 4751297606875873280 _).mono ?_; rintro e w1 ⟨rfl, rfl⟩; rw [hnY]) | (refine (c5 a _).mono ?_; rintro e w1 ⟨rfl, rfl⟩; rw [hn])) | (go_at_call 8; refine (c8 _ _ hYx).mono ?_; rintro e w1 ⟨rfl, rfl⟩; rw [hYl]) | (go_at_call 15; refine (c15 _ _ nmY).mono ?_; rintro e w1 ⟨rfl, rfl⟩))
  clear hi hn hx hl
  go_loopg [7] a (fun k s7 wr => ∃ r : Nat, s7 = .float .f64 r ∧ Hid (r ≤ k) ∧ Hid (r < 9218868437227405312) ∧ Hid (modR r = modR a) ∧ w = wr)
  case atStart => exact ⟨a, rfl, Lib.hid (Nat.le_refl _), Lib.hid ha, Lib.hid rfl, rfl⟩
  case round =>
    obtain ⟨r, rfl, h1, h2, h3, rfl⟩ := hrel
    by_cases hY : 4751297606875873280 ≤ r
    · have hge : (FloatKind.f64.format.order r 4751297606875873280 == some Ordering.gt || FloatKind.f64.format.order r 4751297606875873280 == some Ordering.eq) = true := by
        show (double.order r 4751297606875873280 == some .gt || double.order r 4751297606875873280 == some .eq) = true
        by_cases he : r = 4751297606875873280
        · rw [he, order_self (by decide)]; rfl
        · rw [order_gt (by omega) h2.out]; rfl
      have hnm : Nm r := ⟨by omega, h2.out⟩
      have H15 := Lib.hid (fun w => c15 r w hnm)
      have hG : (FloatKind.f64.format.order (4602678819172646912 + r % 4503599627370496) 4602678819172646912 == some Ordering.lt) = false := by
        show (double.order (4602678819172646912 + r % 4503599627370496) 4602678819172646912 == some .lt) = false
        by_cases he : r % 4503599627370496 = 0
        · rw [he, Nat.add_zero, order_self (by decide)]; rfl
        · rw [order_gt (by omega) (by omega)]; rfl
      have hsub : ∀ w, (binOp .sub 22 (.float .f64 r) (.float .f64 (r / 4503599627370496 * 4503599627370496))).run Try.prog w = .ok (.float .f64 (step r)) w := fun w => run_float_arith w .sub 22 .f64 _ _ _ (sub_step r hY h2.out).1
      have hE : 1055 ≤ r / 4503599627370496 ∧ r / 4503599627370496 ≤ 2046 := by have := h2.out; omega
      have H16 : Hid (∀ w, Calls Try.prog 16 #[fl 4751297606875873280, .int .i64 (((r / 4503599627370496 : Nat) : Int) - 1023 + 1 - 33)] w fun e w' => e = .returned (fl (r / 4503599627370496 * 4503599627370496)) ∧ w = w') := Lib.hid fun w => by
        have h := c16 (r / 4503599627370496 - 1055) w (by omega)
        have e1 : ((r / 4503599627370496 - 1055 : Nat) : Int) = ((r / 4503599627370496 : Nat) : Int) - 1023 + 1 - 33 := by omega
        have e2 : r / 4503599627370496 - 1055 + 1055 = r / 4503599627370496 := by omega
        rw [e1, e2] at h
        exact h
      have hst := step_lt r hY h2.out
      have H4 := Lib.hid ((modR_step r hY h2.out).symm.trans h3.out)
      generalize step r = S at *
      generalize 4602678819172646912 + r % 4503599627370496 = G at *
      generalize r / 4503599627370496 * 4503599627370496 = M at *
      generalize r / 4503599627370496 = E at *
      clear hY hnm
      go_wp2_with (first | (go_at_call 15; refine (H15.out _).mono ?_; rintro e w1 ⟨rfl, rfl⟩) | (go_at_call 16; refine (H16.out _).mono ?_; rintro e w1 ⟨rfl, rfl⟩))
      go_roundg S
      case measure => have := h1.out; omega
      case rel => exact ⟨S, rfl, Lib.hid (Nat.le_refl _), Lib.hid (by have := h2.out; omega), H4, rfl⟩
    · have hge : (FloatKind.f64.format.order r 4751297606875873280 == some Ordering.gt || FloatKind.f64.format.order r 4751297606875873280 == some Ordering.eq) = false := by
        show (double.order r 4751297606875873280 == some .gt || double.order r 4751297606875873280 == some .eq) = false
        rw [order_lt (by omega) (by decide)]; rfl
      have H4 := Lib.hid (h3.out.symm.trans (modR_done r (show r < 4751297606875873280 by omega)))
      clear h3 h1
      go_wp2_with fail
      go_ret
      exact ⟨by rw [H4.out]; rfl, rfl⟩
theorem c7 (a : Nat) (w : World) (ha : a < 9218868437227405312) : Calls Try.prog 7 #[fl a, fl 4751297606875873280] w fun e w' => e = .returned (fl (modR a)) ∧ w = w' := by
  have H := Lib.hid (fun w => c11 a w ha)
  generalize modR a = R at *
  go_enter Try.func7, Try.ntmps7
  go_wp2_with (first | (go_at_call 11; refine (H.out _).mono ?_; rintro e w1 ⟨rfl, rfl⟩))
  go_ret
  exact ⟨rfl, rfl⟩
/-- What 'ToInt32' gives. -/
def tI (f : Nat) : Int := if low f < 9218868437227405312 then (if ng f = true then wrap32 (-(wrap32 (qn (modR (low f))))) else wrap32 (qn (modR (low f)))) else 0
theorem tI_neg (f : Nat) (g : Nat) (h1 : low g = low f) (h2 : ng g = !ng f) : tI g = wrap32 (-(tI f)) := by
  unfold tI
  rw [h1, h2]
  by_cases hl : low f < 9218868437227405312
  · rw [if_pos hl, if_pos hl]
    cases ng f
    · rfl
    · simp only [Bool.not_true, Bool.false_eq_true, if_false, if_true]
      unfold wrap32
      omega
  · rw [if_neg hl, if_neg hl]
    unfold wrap32
    omega
theorem neg_bits (f : Nat) (hf : f < 18446744073709551616) : low (f ^^^ 9223372036854775808) = low f ∧ ng (f ^^^ 9223372036854775808) = !ng f ∧ f ^^^ 9223372036854775808 < 18446744073709551616 := by
  have h1 : f ^^^ 9223372036854775808 < 2 ^ 64 := Nat.xor_lt_two_pow (show f < 2 ^ 64 from hf) (by decide)
  have h2 : (f ^^^ 9223372036854775808) % 2 ^ 63 = f % 2 ^ 63 := by
    rw [Nat.xor_mod_two_pow]
    have : (9223372036854775808 : Nat) % 2 ^ 63 = 0 := by decide
    rw [this, Nat.xor_zero]
  have h3 : (f ^^^ 9223372036854775808) / 2 ^ 63 = f / 2 ^ 63 ^^^ 1 := by
    rw [Nat.xor_div_two_pow]
  have e63 : (2 : Nat) ^ 63 = 9223372036854775808 := by decide
  have e64 : (2 : Nat) ^ 64 = 18446744073709551616 := by decide
  rw [e63] at h2 h3
  rw [e64] at h1
  generalize f ^^^ 9223372036854775808 = g at *
  refine ⟨h2, ?_, h1⟩
  unfold ng
  by_cases hn : 9223372036854775808 ≤ f
  · have hq : f / 9223372036854775808 = 1 := by omega
    rw [hq] at h3
    have hg : g / 9223372036854775808 = 0 := h3
    have : ¬ 9223372036854775808 ≤ g := by omega
    simp [hn, this]
  · have hq : f / 9223372036854775808 = 0 := by omega
    rw [hq] at h3
    have hg : g / 9223372036854775808 = 1 := h3
    have : 9223372036854775808 ≤ g := by omega
    simp [hn, this]
end Go.Proofs.Ytangoichgbkjmaa.flt
