/- The walk of the law 'FnTryToStringOnNumberSafelyParsesBackInAnyRadix': it returns true and leaves what was there as it was. No conditions beyond the two tables of the library. -/
import Derived.Test.YtlhcgkocnckddaaDoorDigB
import Derived.Test.YtlhcgkocnckddaaDoorDigG
namespace Go.Proofs.YtlhcgkocnckddaaDoor.fnTryToStringOnNumberSafelyParsesBackInAnyRadix
open Go.Proofs.YtlhcgkocnckddaaDoor.flt
open Go.Proofs.YtlhcgkocnckddaaDoor.dig
open Go.ChangeShapes Go.WideShapes Go.ChangeAt Go.RowKit Go.Mine
set_option linter.unusedVariables false
set_option linter.unusedSimpArgs false
set_option maxRecDepth 100000

theorem digs_one (b : Nat) (hb : 2 ≤ b) (u : Nat) : ∀ d l, digs b u = d :: l → d = 0 → (digs b u).length = 1 := by
  intro d l h h0
  by_cases hu : 0 < u
  · obtain ⟨d', l', h1, h2⟩ := digs_head b hb u hu
    rw [h1] at h
    injection h with h3 h4
    omega
  · rw [digs_small (by omega)]
    rfl
theorem parse_str (b : Nat) (k : Int) (w : World) (hb : 2 ≤ b ∧ b ≤ 36) (hk : -2147483648 ≤ k ∧ k ≤ 2147483647) :
    Calls Tryd.prog 5 #[.string ⟨(str b k).toArray⟩, .int .i64 b] w fun e w' => e = .returned (.tuple #[.int .i64 k, .bool true]) ∧ w = w' := by
  have hl := digs_len b hb.1 31 k.natAbs (by omega)
  have hv := val_digs b hb.1 k.natAbs
  by_cases hn : k < 0
  · have hs : str b k = 45 :: (digs b k.natAbs).map ch := by unfold str; rw [if_pos hn]
    rw [hs]
    have := parseN ⟨(45 :: (digs b k.natAbs).map ch).toArray⟩ b (digs b k.natAbs) w hb ⟨by show (45 :: (digs b k.natAbs).map ch).toArray.size = _; simp; omega, fun j hj => by
        show ((45 :: (digs b k.natAbs).map ch).toArray[1 + j]'_).toNat = _
        simp [Nat.add_comm 1 j], digs_lt b hb.1 _⟩ hl (fun d l h => by
        obtain ⟨d', l', h1, h2⟩ := digs_head b hb.1 k.natAbs (by omega)
        rw [h1] at h
        injection h with h3 h4
        omega) (fun h => rfl) (by rw [hv]; omega)
    rw [hv, show -((k.natAbs : Nat) : Int) = k by omega] at this
    exact this
  · have hs : str b k = (digs b k.natAbs).map ch := by unfold str; rw [if_neg hn]
    rw [hs]
    have := parseP ⟨((digs b k.natAbs).map ch).toArray⟩ b (digs b k.natAbs) w hb ⟨by show ((digs b k.natAbs).map ch).toArray.size = _; simp, fun j hj => by
        show (((digs b k.natAbs).map ch).toArray[0 + j]'_).toNat = _
        simp, digs_lt b hb.1 _⟩ hl (digs_one b hb.1 _) (by rw [hv]; omega)
    rw [hv, show ((k.natAbs : Nat) : Int) = k by omega] at this
    exact this
def Post (w : World) (e : Ending) (w' : World) : Prop := e = .returned (.bool true) ∧ Below w.heap.size w w'
theorem walk_out (f : Nat) (a b : Int) (w : World) (h : a < 2 ∨ 36 < a ∨ b < 2 ∨ 36 < b) : Calls Tryd.prog 3 #[.float .f64 f, .int .i64 a, .int .i64 b] w (Post w) := by
  by_cases h1 : a < 2
  · clear h
    go_enter Tryd.func3, Tryd.ntmps3
    go_wp2_with fail
    go_ret
    exact ⟨rfl, Below.refl _ _⟩
  by_cases h2 : 36 < a
  · clear h
    go_enter Tryd.func3, Tryd.ntmps3
    go_wp2_with fail
    go_ret
    exact ⟨rfl, Below.refl _ _⟩
  by_cases h3 : b < 2
  · clear h
    go_enter Tryd.func3, Tryd.ntmps3
    go_wp2_with fail
    go_ret
    exact ⟨rfl, Below.refl _ _⟩
  have h4 : 36 < b := by omega
  clear h
  go_enter Tryd.func3, Tryd.ntmps3
  go_wp2_with fail
  go_ret
  exact ⟨rfl, Below.refl _ _⟩
set_option maxHeartbeats 1000000 in
theorem walk_int (k : Int) (f a b : Nat) (w : World) (hk : -2147483648 ≤ k ∧ k ≤ 2147483647) (hf : f < 18446744073709551616) (h : Ieee.double.order (FloatKind.f64.nearest k) f = some .eq) (ha : 2 ≤ a ∧ a ≤ 36) (hb : 2 ≤ b ∧ b ≤ 36) (hT : Tabs w) :
    Calls Tryd.prog 3 #[.float .f64 f, .int .i64 a, .int .i64 b] w (Post w) := by
  have H1 := Lib.hid (tts_int k f a w hk hf h ha hT)
  have H2 : Hid (∀ w', Below w.heap.size w w' → Calls Tryd.prog 4 #[fl f, .int .i64 b] w' fun e w'' => e = .returned (.tuple #[.string ⟨(str b k).toArray⟩, .bool true]) ∧ Below w'.heap.size w' w'') := Lib.hid fun w' hb' => tts_int k f b w' hk hf h hb (hT.below hb')
  have P1 := Lib.hid fun w => parse_str a k w ha hk
  have P2 := Lib.hid fun w => parse_str b k w hb hk
  have e1 := (easy k f hk hf h).1
  unfold Y at e1
  have g1 : (Ieee.double.order f f != some Ordering.eq) = false := by rw [ord_ff f hf, if_pos (by omega)]; rfl
  have g2 := gtMax f hf
  have g3 := ltMin f hf
  rw [show decide (low f = 9218868437227405312) = false by simp; omega, Bool.false_and] at g2 g3
  change (FloatKind.f64.format.order f f != some Ordering.eq) = false at g1
  change (FloatKind.f64.format.order f 9218868437227405311 == some Ordering.gt) = false at g2
  change (FloatKind.f64.format.order f 18442240474082181119 == some Ordering.lt) = false at g3
  have heq : (FloatKind.f64.format.order (floatOfInt .f64 k) f == some Ordering.eq) = true := by
    rw [show FloatKind.f64.format.order (floatOfInt .f64 k) f = some .eq from h]; rfl
  generalize (str a k).toArray = S at *
  generalize (str b k).toArray = T at *
  clear hT h e1
  go_enter Tryd.func3, Tryd.ntmps3
  go_wp2_with (first | (go_at_call 4; (with_reducible refine H1.out.mono ?_); rintro e w1 ⟨rfl, hw1⟩; have HW1 := Lib.hid hw1))
  refine (H2.out _ HW1.out).mono ?_
  rintro e w2 ⟨rfl, hw2⟩
  have HW2 := Lib.hid hw2
  clear hw1 hw2
  go_wp2_with fail
  refine (P1.out _).mono ?_
  rintro e w3 ⟨rfl, rfl⟩
  go_wp2_with fail
  refine (P2.out _).mono ?_
  rintro e w4 ⟨rfl, rfl⟩
  go_wp2_with fail
  go_ret
  exact ⟨rfl, dig.below2 HW1.out HW2.out⟩
set_option maxHeartbeats 1000000 in
theorem walk_no (f : Nat) (a b : Int) (w : World) (hf : f < 18446744073709551616) (h : NoInt f) (ha : 2 ≤ a ∧ a ≤ 36) (hb : 2 ≤ b ∧ b ≤ 36) : Calls Tryd.prog 3 #[.float .f64 f, .int .i64 a, .int .i64 b] w (Post w) := by
  have H1 := Lib.hid (fun w => tts_no f a w hf h)
  have H2 := Lib.hid (fun w => tts_no f b w hf h)
  have g1 := ord_ff f hf
  have g2 := gtMax f hf
  have g3 := ltMin f hf
  change (FloatKind.f64.format.order f f) = _ at g1
  change (FloatKind.f64.format.order f 9218868437227405311 == some Ordering.gt) = _ at g2
  change (FloatKind.f64.format.order f 18442240474082181119 == some Ordering.lt) = _ at g3
  have q1 : decide ((a : Int) < 2) = false := by simp; omega
  have q2 : decide ((36 : Int) < a) = false := by simp; omega
  have q3 : decide ((b : Int) < 2) = false := by simp; omega
  have q4 : decide ((36 : Int) < b) = false := by simp; omega
  by_cases h1 : low f < 9218868437227405312
  · rw [show tail f = ([], false) by unfold tail; rw [if_neg (by omega), if_neg (by omega)]] at H1 H2
    clear g1 g2 g3 h h1
    go_enter Tryd.func3, Tryd.ntmps3
    go_wp2_with (first | (go_at_call 4; (with_reducible refine (H1.out _).mono ?_); rintro e w1 ⟨rfl, hw1⟩; have HW1 := Lib.hid hw1))
    refine (H2.out _).mono ?_
    rintro e w2 ⟨rfl, hw2⟩
    have HW2 := Lib.hid hw2
    clear hw1 hw2
    go_wp2_with fail
    go_ret
    exact ⟨rfl, dig.below2 HW1.out HW2.out⟩
  · have ht : (tail f).2 = true := by
      unfold tail
      by_cases h2 : 9218868437227405312 < low f
      · rw [if_pos h2]
      · rw [if_neg h2, if_pos (by omega)]
    rw [ht] at H1 H2
    generalize (tail f).1.toArray = S at *
    have fin : ∀ x1 x2 x3, (x1 || (x2 || x3)) = true → (FloatKind.f64.format.order f f != some Ordering.eq) = x1 → (FloatKind.f64.format.order f 9218868437227405311 == some Ordering.gt) = x2 → (FloatKind.f64.format.order f 18442240474082181119 == some Ordering.lt) = x3 →
        Calls Tryd.prog 3 #[.float .f64 f, .int .i64 a, .int .i64 b] w (Post w) := by
      clear g1 g2 g3 ht h1
      intro x1 x2 x3 hor g1 g2 g3
      cases x1 <;> cases x2 <;> cases x3 <;> first | (exfalso; exact absurd hor (by decide)) | skip
      all_goals
        clear hor
        go_enter Tryd.func3, Tryd.ntmps3
        go_wp2_with (first | (go_at_call 4; (with_reducible refine (H1.out _).mono ?_); rintro e w1 ⟨rfl, hw1⟩; have HW1 := Lib.hid hw1))
        refine (H2.out _).mono ?_
        rintro e w2 ⟨rfl, hw2⟩
        have HW2 := Lib.hid hw2
        clear hw1 hw2
        go_wp2_with fail
        go_ret
        exact ⟨by simp, dig.below2 HW1.out HW2.out⟩
    refine fin _ _ _ ?_ rfl g2 g3
    rw [g1]
    by_cases h2 : 9218868437227405312 < low f
    · rw [if_neg (by omega)]; rfl
    · rw [if_pos (by omega), show decide (low f = 9218868437227405312) = true by simp; omega]
      cases ng f <;> rfl
theorem walk (f : Nat) (a b : Int) (w : World) (w0 : (Lit.float .f64 f).wf = true) (hT : Tabs w) : Calls Tryd.prog 3 #[.float .f64 f, .int .i64 a, .int .i64 b] w (Post w) := by
  have hf : f < 18446744073709551616 := by simpa [Lit.wf] using w0
  by_cases hr : a < 2 ∨ 36 < a ∨ b < 2 ∨ 36 < b
  · exact walk_out f a b w hr
  obtain ⟨a, rfl⟩ : ∃ n : Nat, a = (n : Int) := ⟨a.toNat, by omega⟩
  obtain ⟨b, rfl⟩ : ∃ n : Nat, b = (n : Int) := ⟨b.toNat, by omega⟩
  by_cases hI : ∃ k : Int, (-2147483648 ≤ k ∧ k ≤ 2147483647) ∧ Ieee.double.order (FloatKind.f64.nearest k) f = some .eq
  · obtain ⟨k, hk, h⟩ := hI
    exact walk_int k f a b w hk hf h (by omega) (by omega) hT
  · exact walk_no f a b w hf (fun k hk h => hI ⟨k, hk, h⟩) (by omega) (by omega)
end Go.Proofs.YtlhcgkocnckddaaDoor.fnTryToStringOnNumberSafelyParsesBackInAnyRadix
