/- The contract of 'ToInt32'. No conditions beyond the hypotheses. -/
import Derived.Test.YtangoichgbkjmaaFltA
namespace Go.Proofs.Ytangoichgbkjmaa.flt
open Go.ChangeShapes Go.WideShapes Go.ChangeAt Go.RowKit Go.Mine
open Ieee
set_option linter.unusedVariables false
set_option linter.unusedSimpArgs false
set_option maxRecDepth 100000

theorem ord_ff (f : Nat) (hf : f < 18446744073709551616) : double.order f f = if low f ≤ 9218868437227405312 then some .eq else none := by
  unfold Format.order
  rw [read_split f hf]
  by_cases hl : low f < 9218868437227405312
  · rw [if_pos (by omega), read_sg _ hl]
    unfold Datum.order
    simp only [cmp_self]
  · rcases read_big (low f) hl (low_lt f) with ⟨h1, h2⟩ | ⟨t, h1, h2⟩
    · rw [if_pos (by omega), h1]
      unfold Datum.order
      cases ng f <;> rfl
    · rw [if_neg (by omega), h1]
      rfl
theorem conv_i32 (f : Nat) (w : World) : ∃ i w1, (convert 22 21 (.float .f64 f)).run Try.prog w = .ok (.int .i32 i) w1 ∧ (-2147483648 ≤ i ∧ i ≤ 2147483647) ∧ Below w.heap.size w w1 := by
  cases h : floatToIntVal .f64 f .i32 with
  | some n =>
    have hw := floatToIntVal_wf h
    refine ⟨n, w, run_convert_float_int w 22 21 .f64 .i32 f n (by rw [Try.underlying22]; rfl) Try.underlying21 h, by simpa [Lit.wf, IntKind.min, IntKind.max, IntKind.signed, IntKind.bits] using hw, Below.refl _ _⟩
  | none =>
    have key : ∃ i, (convert 22 21 (.float .f64 f)).run Try.prog w = .ok (.int .i32 (IntKind.i32.wrap i)) w.drew := by
      unfold floatToIntVal at h
      cases he : (FloatKind.f64.decode f).toInt .zero with
      | some n =>
        rw [he] at h
        simp only at h
        have hb : ¬ (IntKind.i32.min ≤ n ∧ n ≤ IntKind.i32.max) := by
          intro hb
          rw [if_pos hb] at h
          cases h
        refine ⟨(Question.floatToInt .f64 f .i32).cut (w.tape w.drawn (Question.floatToInt .f64 f .i32)), ?_⟩
        simp [convert, Try.runUnderlying22, Try.runUnderlying21, Conv.floatToInt, he, hb]
        intro hh
        cases hh
      | none =>
        refine ⟨(Question.floatToInt .f64 f .i32).cut (w.tape w.drawn (Question.floatToInt .f64 f .i32)), ?_⟩
        simp [convert, Try.runUnderlying22, Try.runUnderlying21, Conv.floatToInt, he]
        intro hh
        cases hh
    obtain ⟨i, hi⟩ := key
    refine ⟨_, _, hi, ?_, (Below.refl _ _).drew⟩
    rw [IntKind.wrap_i32]
    omega
theorem trunc_u32 (R : Nat) (h : R < Y) (w : World) : (convert 22 26 (.float .f64 R)).run Try.prog w = .ok (.int .u32 (qn R)) w ∧ 0 ≤ qn R ∧ qn R ≤ 4294967295 := by
  obtain ⟨n, h1, h2⟩ := trunc_lt R h
  have hq : qn R = (n : Int) := by
    unfold qn
    rw [h1]
    rfl
  rw [hq]
  refine ⟨run_convert_float_int w 22 26 .f64 .u32 R n (by rw [Try.underlying22]; rfl) Try.underlying26 ?_, by omega, by omega⟩
  unfold floatToIntVal
  have h3 : (FloatKind.f64.decode R).toInt .zero = some (n : Int) := h1
  rw [h3]
  have h4 : IntKind.u32.min ≤ (n : Int) ∧ (n : Int) ≤ IntKind.u32.max := by
    have e1 : IntKind.u32.min = 0 := rfl
    have e2 : IntKind.u32.max = 4294967295 := rfl
    rw [e1, e2]
    omega
  show (if IntKind.u32.min ≤ (n : Int) ∧ (n : Int) ≤ IntKind.u32.max then some (n : Int) else none) = some (n : Int)
  rw [if_pos h4]
theorem tI_easy (k : Int) (f : Nat) (hk : -2147483648 ≤ k ∧ k ≤ 2147483647) (hf : f < 18446744073709551616) (h : double.order (FloatKind.f64.nearest k) f = some .eq) : k = tI f := by
  obtain ⟨h1, h2, h3, h4⟩ := easy k f hk hf h
  unfold tI
  rw [if_pos (by unfold Y at h1; omega), modR_done _ h1]
  by_cases hn : ng f = true
  · rw [if_pos hn] at h2 ⊢
    generalize qn (low f) = q at *
    unfold wrap32
    omega
  · rw [if_neg hn] at h2 ⊢
    generalize qn (low f) = q at *
    unfold wrap32
    omega
set_option maxHeartbeats 1000000 in
theorem c4 (f : Nat) (w : World) (hf : f < 18446744073709551616) : Calls Try.prog 4 #[fl f] w fun e w' => e = .returned (.int .i32 (tI f)) ∧ Below w.heap.size w w' := by
  obtain ⟨i, w1, hconv, hi, hb⟩ := conv_i32 f w
  have HB := Lib.hid hb
  clear hb
  by_cases heq : (FloatKind.f64.format.order (floatOfInt .f64 i) f == some Ordering.eq) = true
  · have hT := Lib.hid (tI_easy i f hi hf (show FloatKind.f64.format.order (floatOfInt .f64 i) f = some .eq by simpa using heq))
    go_enter Try.func4, Try.ntmps4
    go_wp2_with fail
    go_ret
    exact ⟨by rw [← hT.out]; rfl, HB.out⟩
  · have heq' : (FloatKind.f64.format.order (floatOfInt .f64 i) f == some Ordering.eq) = false := by simpa using heq
    clear heq
    have hff := ord_ff f hf
    by_cases hl : low f < 9218868437227405312
    · have hn : (double.order f f != some Ordering.eq) = false := by rw [hff, if_pos (by omega)]; rfl
      have hinf : (double.order (low f) 9218868437227405311 == some Ordering.gt) = false := by
        by_cases he : low f = 9218868437227405311
        · rw [he, order_self (by decide)]; rfl
        · rw [order_lt (by omega) (by decide)]; rfl
      have H7 := Lib.hid (fun w => c7 (low f) w hl)
      have hR := fun w => (trunc_u32 (modR (low f)) (modR_lt _ hl) w).1
      have hq := (trunc_u32 (modR (low f)) (modR_lt _ hl) w).2
      have hT : Hid (tI f = if ng f = true then wrap32 (-(wrap32 (qn (modR (low f))))) else wrap32 (qn (modR (low f)))) := Lib.hid (by unfold tI; rw [if_pos hl])
      have H8 := Lib.hid (fun w => c8 f w hf)
      have H6 := Lib.hid (fun w => c6 f w hf)
      have H9 := Lib.hid (fun w => c9 f w hf)
      generalize tI f = T at *
      generalize modR (low f) = R at *
      generalize qn R = q at *
      generalize low f = a at *
      generalize ng f = s at *
      clear hff hl
      cases s
      · go_enter Try.func4, Try.ntmps4
        go_wp2_with (first | (go_at_call 5; refine (c5 _ _).mono ?_; rintro e w2 ⟨rfl, rfl⟩; rw [hn]) | (go_at_call 6; refine (H6.out _).mono ?_; rintro e w2 ⟨rfl, rfl⟩; rw [hinf]) | (go_at_call 8; refine (H8.out _).mono ?_; rintro e w2 ⟨rfl, rfl⟩) | (go_at_call 7; refine (H7.out _).mono ?_; rintro e w2 ⟨rfl, rfl⟩) | (go_at_call 9; refine (H9.out _).mono ?_; rintro e w2 ⟨rfl, rfl⟩))
        go_ret
        exact ⟨by rw [hT.out]; rfl, HB.out⟩
      · go_enter Try.func4, Try.ntmps4
        go_wp2_with (first | (go_at_call 5; refine (c5 _ _).mono ?_; rintro e w2 ⟨rfl, rfl⟩; rw [hn]) | (go_at_call 6; refine (H6.out _).mono ?_; rintro e w2 ⟨rfl, rfl⟩; rw [hinf]) | (go_at_call 8; refine (H8.out _).mono ?_; rintro e w2 ⟨rfl, rfl⟩) | (go_at_call 7; refine (H7.out _).mono ?_; rintro e w2 ⟨rfl, rfl⟩) | (go_at_call 9; refine (H9.out _).mono ?_; rintro e w2 ⟨rfl, rfl⟩))
        go_ret
        exact ⟨by rw [hT.out]; rfl, HB.out⟩
    · have hT : Hid (tI f = 0) := Lib.hid (by unfold tI; rw [if_neg hl])
      have H6 := Lib.hid (fun w => c6 f w hf)
      by_cases hI : low f = 9218868437227405312
      · have hn : (double.order f f != some Ordering.eq) = false := by rw [hff, if_pos (by omega)]; rfl
        have hinf : (double.order (low f) 9218868437227405311 == some Ordering.gt) = true := by rw [hI]; decide
        generalize tI f = T at *
        clear hff hl hI
        generalize low f = a at *
        go_enter Try.func4, Try.ntmps4
        go_wp2_with (first | (go_at_call 5; refine (c5 _ _).mono ?_; rintro e w2 ⟨rfl, rfl⟩; rw [hn]) | (go_at_call 6; refine (H6.out _).mono ?_; rintro e w2 ⟨rfl, rfl⟩; rw [hinf]))
        go_ret
        exact ⟨by rw [hT.out]; rfl, HB.out⟩
      · have hn : (double.order f f != some Ordering.eq) = true := by rw [hff, if_neg (by omega)]; rfl
        generalize tI f = T at *
        clear hff hl hI
        go_enter Try.func4, Try.ntmps4
        go_wp2_with (first | (go_at_call 5; refine (c5 _ _).mono ?_; rintro e w2 ⟨rfl, rfl⟩; rw [hn]))
        go_ret
        exact ⟨by rw [hT.out]; rfl, HB.out⟩
end Go.Proofs.Ytangoichgbkjmaa.flt
