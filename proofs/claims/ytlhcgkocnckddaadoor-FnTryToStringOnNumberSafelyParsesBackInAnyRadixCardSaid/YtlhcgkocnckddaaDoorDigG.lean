/- The contract of 'TryToStringOnNumberSafely', joined. No conditions beyond the hypotheses. -/
import Derived.Test.YtlhcgkocnckddaaDoorDigF
import Derived.Test.YtlhcgkocnckddaaDoorShelf
namespace Go.Proofs.YtlhcgkocnckddaaDoor.dig
open Go.Proofs.YtlhcgkocnckddaaDoor.flt
open Go.ChangeShapes Go.WideShapes Go.ChangeAt Go.RowKit Go.Mine
open Ieee
set_option linter.unusedVariables false
set_option linter.unusedSimpArgs false
set_option maxRecDepth 100000

def tab64 : List Int := [0, 1, 56, 2, 57, 49, 28, 3, 61, 58, 42, 50, 38, 29, 17, 4, 62, 47, 59, 36, 45, 43, 51, 22, 53, 39, 33, 30, 24, 18, 12, 5, 63, 55, 48, 27, 60, 41, 37, 16, 46, 35, 44, 21, 52, 32, 23, 11, 54, 26, 40, 15, 34, 20, 31, 10, 25, 14, 19, 9, 13, 8, 7, 6]
/-- The two tables of the library that are read. -/
structure Tabs (w : World) : Prop where
  p10 : Lib.TabIs Tryd.prog w "internal/strconv.uint64pow10" .u64 Lib.pow10Tab
  d64 : Lib.TabIs Tryd.prog w "math/bits.deBruijn64tab" .u8 tab64
theorem tabIs_below {P : Program} {w w' : World} {name : String} {k : IntKind} {zs : List Int} (h : Lib.TabIs P w name k zs) (hb : Below w.heap.size w w') : Lib.TabIs P w' name k zs := by
  unfold Lib.TabIs World.var? at *
  cases hg : P.globalNamed name with
  | none => simp [hg] at h
  | some g =>
    simp only [hg, Option.bind_some] at h ⊢
    have hlt : g < w.heap.size := by
      rcases Nat.lt_or_ge g w.heap.size with h' | h'
      · exact h'
      · rw [Array.getElem?_eq_none h'] at h; simp at h
    rw [hb.block g hlt]
    exact h
theorem Tabs.below {w w' : World} (h : Tabs w) (hb : Below w.heap.size w w') : Tabs w' := ⟨tabIs_below h.p10 hb, tabIs_below h.d64 hb⟩
theorem Tabs.tz {w : World} (h : Tabs w) : Tz w := by
  have c := fun i hi => h.d64.cell (g := 3) (by kernel_rfl) i hi
  exact ⟨c 1 (by decide), c 3 (by decide), c 7 (by decide), c 15 (by decide), c 31 (by decide)⟩
theorem fmt_all (b : Nat) (k : Int) (w : World) (hb : 2 ≤ b ∧ b ≤ 36) (hT : Tabs w) (hk : -2147483648 ≤ k ∧ k ≤ 2147483647) :
    Calls Tryd.prog 6 #[.int .i64 k, .int .i64 b] w fun e w' => e = .returned (.string ⟨(str b k).toArray⟩) ∧ Below w.heap.size w w' := by
  by_cases h10 : b = 10
  · subst h10
    refine (Tryd.strconv_FormatInt_10 k (by omega) (by omega) w hT.p10).mono fun e w' ⟨he, kk, os, hw⟩ => ⟨by rw [he, itoa_eq], ?_⟩
    rw [hw]
    refine ⟨rfl, rfl, rfl, ?_, fun i hi => ?_⟩
    · show w.heap.size ≤ (w.heap ++ os).size
      simp
    · show (w.heap ++ os)[i]? = _
      rw [Array.getElem?_append_left hi]
  · exact fmt_n10 b k w hb h10 hT.tz hk
theorem c7 (f : Nat) (w : World) : Calls Tryd.prog 7 #[fl f] w fun e w' => e = .returned (.bool (double.order f f != some .eq)) ∧ w = w' := by
  go_enter Tryd.func7, Tryd.ntmps7
  go_wp2
  go_ret
  exact ⟨rfl, rfl⟩
theorem c8p (f : Nat) (w : World) : Calls Tryd.prog 8 #[fl f, .int .i64 1] w fun e w' => e = .returned (.bool (double.order f 9218868437227405311 == some .gt)) ∧ w = w' := by
  go_enter Tryd.func8, Tryd.ntmps8
  go_wp2_with fail
  go_ret
  exact ⟨rfl, rfl⟩
theorem c8n (f : Nat) (w : World) (hf : f < 18446744073709551616) : Calls Tryd.prog 8 #[fl f, .int .i64 (-1)] w fun e w' => e = .returned (.bool (decide (low f = 9218868437227405312) && ng f)) ∧ w = w' := by
  have hun : ∀ w, (Op.unary UnOp.neg (.float .f64 f)).run Tryd.prog w = .ok (.float .f64 (Op.negFloat .f64 f)) w := fun w => rfl
  obtain ⟨h1, h2, h3⟩ := neg_bits f hf
  have hg := gtMax (f ^^^ 9223372036854775808) h3
  rw [h1, h2, Bool.not_not] at hg
  rw [← hg]
  have hneg : Op.negFloat .f64 f = f ^^^ 9223372036854775808 := rfl
  rw [← hneg]
  clear hg h1 h2 h3 hneg
  go_enter Tryd.func8, Tryd.ntmps8
  go_wp2_with fail
  go_ret
  exact ⟨rfl, rfl⟩
theorem conv_any (f : Nat) (w : World) : ∃ i w1, (convert 22 21 (.float .f64 f)).run Tryd.prog w = .ok (.int .i32 i) w1 ∧ (-2147483648 ≤ i ∧ i ≤ 2147483647) ∧ Below w.heap.size w w1 := by
  cases h : floatToIntVal .f64 f .i32 with
  | some n =>
    have hw := floatToIntVal_wf h
    refine ⟨n, w, run_convert_float_int w 22 21 .f64 .i32 f n (by rw [Tryd.underlying22]; rfl) Tryd.underlying21 h, by simpa [Lit.wf, IntKind.min, IntKind.max, IntKind.signed, IntKind.bits] using hw, Below.refl _ _⟩
  | none =>
    have key : ∃ i, (convert 22 21 (.float .f64 f)).run Tryd.prog w = .ok (.int .i32 (IntKind.i32.wrap i)) w.drew := by
      unfold floatToIntVal at h
      cases he : (FloatKind.f64.decode f).toInt .zero with
      | some n =>
        rw [he] at h
        simp only at h
        have hb : ¬ (IntKind.i32.min ≤ n ∧ n ≤ IntKind.i32.max) := by
          intro hb
          rw [if_pos hb] at h
          cases h
        refine ⟨(Question.floatToInt .f64 f .i32).cut (w.tape w.drawn (Question.floatToInt .f64 f .i32)), ?_⟩
        simp [convert, Tryd.runUnderlying22, Tryd.runUnderlying21, Conv.floatToInt, he, hb]
        intro hh
        cases hh
      | none =>
        refine ⟨(Question.floatToInt .f64 f .i32).cut (w.tape w.drawn (Question.floatToInt .f64 f .i32)), ?_⟩
        simp [convert, Tryd.runUnderlying22, Tryd.runUnderlying21, Conv.floatToInt, he]
        intro hh
        cases hh
    obtain ⟨i, hi⟩ := key
    refine ⟨_, _, hi, ?_, (Below.refl _ _).drew⟩
    rw [IntKind.wrap_i32]
    omega
theorem below2 {a b c : World} (h1 : Below a.heap.size a b) (h2 : Below b.heap.size b c) : Below a.heap.size a c := h1.trans ⟨h2.os, h2.tape, h2.output, h2.size, fun i hi => h2.block i (Nat.lt_of_lt_of_le hi h1.size)⟩
/-- A whole number of 32 bits. -/
theorem tts_int (k : Int) (f b : Nat) (w : World) (hk : -2147483648 ≤ k ∧ k ≤ 2147483647) (hf : f < 18446744073709551616) (h : double.order (FloatKind.f64.nearest k) f = some .eq) (hb : 2 ≤ b ∧ b ≤ 36) (hT : Tabs w) :
    Calls Tryd.prog 4 #[fl f, .int .i64 b] w fun e w' => e = .returned (.tuple #[.string ⟨(str b k).toArray⟩, .bool true]) ∧ Below w.heap.size w w' := by
  have hconv : ∀ w, (convert 22 21 (.float .f64 f)).run Tryd.prog w = .ok (.int .i32 k) w := fun w => run_convert_float_int w 22 21 .f64 .i32 f k (by rw [Tryd.underlying22]; rfl) Tryd.underlying21 (conv_exact k f hk hf h)
  have H := Lib.hid (fmt_all b k w hb hT hk)
  have heq : (FloatKind.f64.format.order (floatOfInt .f64 k) f == some Ordering.eq) = true := by
    rw [show FloatKind.f64.format.order (floatOfInt .f64 k) f = some .eq from h]; rfl
  generalize (str b k).toArray = T at *
  clear hT h
  go_enter Tryd.func4, Tryd.ntmps4
  go_wp2_with (first | (go_at_call 6; refine H.out.mono ?_; rintro e w1 ⟨rfl, hw⟩))
  go_ret2
  exact ⟨rfl, hw⟩
/-- No whole number of 32 bits equals it. -/
def NoInt (f : Nat) : Prop := ∀ k : Int, -2147483648 ≤ k ∧ k ≤ 2147483647 → double.order (FloatKind.f64.nearest k) f ≠ some .eq
def tail (f : Nat) : List UInt8 × Bool :=
  if 9218868437227405312 < low f then ([78, 97, 78], true)
  else if low f = 9218868437227405312 then (if ng f = true then [45, 73, 110, 102, 105, 110, 105, 116, 121] else [73, 110, 102, 105, 110, 105, 116, 121], true)
  else ([], false)
set_option maxHeartbeats 1000000 in
theorem tts_no (f : Nat) (b : Int) (w : World) (hf : f < 18446744073709551616) (h : NoInt f) :
    Calls Tryd.prog 4 #[fl f, .int .i64 b] w fun e w' => e = .returned (.tuple #[.string ⟨(tail f).1.toArray⟩, .bool (tail f).2]) ∧ Below w.heap.size w w' := by
  obtain ⟨i, w1, hconv, hi, hb⟩ := conv_any f w
  have HB := Lib.hid hb
  clear hb
  have heq : (FloatKind.f64.format.order (floatOfInt .f64 i) f == some Ordering.eq) = false := by
    exact beq_eq_false_iff_ne.2 (h i hi)
  have H7 := Lib.hid (fun w => c7 f w)
  have H8 := Lib.hid (fun w => c8p f w)
  have H9 := Lib.hid (fun w => c8n f w hf)
  rw [gtMax f hf] at H8
  rw [ord_ff f hf] at H7
  clear h
  by_cases h1 : 9218868437227405312 < low f
  · rw [show tail f = ([78, 97, 78], true) by unfold tail; rw [if_pos h1]]
    rw [if_neg (by omega)] at H7
    clear H8 H9 h1
    go_enter Tryd.func4, Tryd.ntmps4
    go_wp2_with (first | (go_at_call 7; refine (H7.out _).mono ?_; rintro e w2 ⟨rfl, rfl⟩))
    go_ret2
    exact ⟨rfl, HB.out⟩
  · rw [if_pos (by omega)] at H7
    by_cases h2 : low f = 9218868437227405312
    · rw [h2] at H8 H9
      cases hn : ng f
      · rw [hn] at H8 H9
        rw [show tail f = ([73, 110, 102, 105, 110, 105, 116, 121], true) by unfold tail; rw [if_neg h1, if_pos h2, hn]; rfl]
        clear h1 h2
        go_enter Tryd.func4, Tryd.ntmps4
        go_wp2_with (first | (go_at_call 7; refine (H7.out _).mono ?_; rintro e w2 ⟨rfl, rfl⟩) | (go_at_call 8; refine (H8.out _).mono ?_; rintro e w2 ⟨rfl, rfl⟩))
        go_ret2
        exact ⟨rfl, HB.out⟩
      · rw [hn] at H8 H9
        rw [show tail f = ([45, 73, 110, 102, 105, 110, 105, 116, 121], true) by unfold tail; rw [if_neg h1, if_pos h2, hn]; rfl]
        clear h1 h2
        go_enter Tryd.func4, Tryd.ntmps4
        go_wp2_with (first | (go_at_call 7; refine (H7.out _).mono ?_; rintro e w2 ⟨rfl, rfl⟩) | (go_at_call 8; (first | (with_reducible refine (H8.out _).mono ?_) | (with_reducible refine (H9.out _).mono ?_)); rintro e w2 ⟨rfl, rfl⟩))
        go_ret2
        exact ⟨rfl, HB.out⟩
    · rw [show decide (low f = 9218868437227405312) = false by simpa using h2] at H8 H9
      rw [show tail f = ([], false) by unfold tail; rw [if_neg h1, if_neg h2]]
      clear h1 h2
      go_enter Tryd.func4, Tryd.ntmps4
      go_wp2_with (first | (go_at_call 7; refine (H7.out _).mono ?_; rintro e w2 ⟨rfl, rfl⟩) | (go_at_call 8; (first | (with_reducible refine (H8.out _).mono ?_) | (with_reducible refine (H9.out _).mono ?_)); rintro e w2 ⟨rfl, rfl⟩))
      go_ret2
      exact ⟨rfl, HB.out⟩
end Go.Proofs.YtlhcgkocnckddaaDoor.dig
