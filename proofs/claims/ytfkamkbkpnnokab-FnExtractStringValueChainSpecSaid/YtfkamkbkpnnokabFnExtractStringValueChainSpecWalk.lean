/- The walk of the law 'FnExtractStringValueChainSpec': it returns true and leaves what was there as it was. No conditions. -/
import Derived.Test.YtfkamkbkpnnokabRows
import Derived.Test.YtfkamkbkpnnokabLib
import Derived.Test.YtfkamkbkpnnokabAsserts
import Derived.Test.YtfkamkbkpnnokabClones
import Derived.Test.YtfkamkbkpnnokabEqs
import Derived.Test.YtfkamkbkpnnokabChain
import Derived.Outline
namespace Go.Proofs.Ytfkamkbkpnnokab.fnExtractStringValueChainSpec
open Go.ChangeShapes Go.WideShapes Go.ChangeAt Go.RowKit Go.Mine extract
set_option linter.unusedVariables false
set_option maxRecDepth 100000

theorem bytes_any (a0 : Option Addr) (l0 c0 : Nat) (k : Int) (x : Nat) (a1 : Option Addr) (l1 c1 : Nat) (w : World) (h0 : l0 ≤ maxLen) (h1 : l1 ≤ maxLen) :
    Calls Try.prog 17 #[.slice a0 l0 c0, .int .u8 k, .float .f64 x, .slice a1 l1 c1] w fun e w' => (∃ r : Bool, e = .returned (.bool r)) ∧ w = w' := by
  unfold maxLen at h0 h1
  go_enter Try.func17, Try.ntmps17
  go_wp2
  all_goals
    go_ret
    exact ⟨⟨_, rfl⟩, rfl⟩

theorem walk (a0 : Option Addr) (len0 cap0 : Nat) (z0 : List Int) (a1 : Int) (a2 : Nat) (a3 : Option Addr) (len3 cap3 : Nat) (z3 : List Int) (w : World) (w0 : IntRow .u8 w a0 len0 cap0 z0) (w1 : (Lit.int .u8 a1).wf = true) (w2 : (Lit.float .f64 a2).wf = true) (w3 : IntRow .u16 w a3 len3 cap3 z3) :
    Calls Try.prog 5 #[.slice a0 len0 cap0, .int .u8 a1, .float .f64 a2, .slice a3 len3 cap3] w fun e w' => e = .returned (.bool true) ∧ Below w.heap.size w w' := by
  obtain ⟨b0, b1⟩ := bounds_u8 w1
  have hl0 : len0 ≤ maxLen := Nat.le_trans w0.2.1 w0.2.2.1
  have hl3 : len3 ≤ maxLen := Nat.le_trans w3.2.1 w3.2.2.1
  have m0 := hl0
  have m3 := hl3
  unfold maxLen at m0 m3
  have H0 := Lib.hid w0
  have H3 := Lib.hid w3
  clear w0 w1 w2 w3
  go_enter Try.func5, Try.ntmps5
  go_wp2_with fail
  refine (bytes_any _ _ _ _ _ _ _ _ _ hl0 hl3).mono ?_
  rintro e w' ⟨⟨r, rfl⟩, rfl⟩
  cases r with
  | false =>
    go_wp2_with fail
    go_ret
    exact ⟨rfl, Below.refl _ _⟩
  | true =>
    go_wp2_with fail
    all_goals try (go_ret; exact ⟨rfl, Below.refl _ _⟩)
    have q0 : len0 ≤ 65536 := by go_light; omega
    have q3 : len3 ≤ 65536 := by go_light; omega
    refine (clone18 _ _ _ z0 _ H0.out (by omega)).mono ?_
    rintro e w1 ⟨ba, rfl, r0, y1, y2, hb1⟩
    have R0 := Lib.hid r0
    have B1 := Lib.hid hb1
    have Y0 := Lib.hid y2
    clear r0 y1 y2 hb1 hl0 hl3
    go_wp2_with fail
    refine (clone19 _ _ _ z3 _ (H3.out.below B1.out) (by omega)).mono ?_
    rintro e w2 ⟨bu, rfl, r3, y1, y2, hb2⟩
    have R3 := Lib.hid r3
    have R02 := Lib.hid (R0.out.below hb2)
    have B2 := Lib.hid (below2 B1.out hb2)
    have Y02 : Hid (∀ x, ba = some x → x.block < w2.heap.size) := fun x hx => Nat.lt_of_lt_of_le (Y0.out x hx).2.2.2 hb2.size
    clear r3 y1 y2 hb2
    go_wp2_with fail
    refine (chain20 _ _ z0 _ _ _ _ _ _ R02.out q0 b0 Y02.out).mono ?_
    rintro e w3 ⟨D, rfl, hD, hb3, hs⟩
    have S := Lib.hid hs
    have B3 := Lib.hid (below2 B2.out hb3)
    have R03 := Lib.hid (R02.out.below hb3)
    have R33 := Lib.hid (R3.out.below hb3)
    clear hs hb3
    obtain ⟨tr, htr⟩ : ∃ tr, tr = trans z0 := ⟨_, rfl⟩
    obtain ⟨rr, hrr⟩ : ∃ rr, rr = (a1 % 6 == 1) := ⟨_, rfl⟩
    rw [← htr, ← hrr] at S
    have HT : Hid (∀ w, IntRow .u8 w ba len0 len0 z0 → Calls Try.prog 22 #[.slice ba len0 len0] w fun e w' => e = .returned (.bool tr) ∧ w = w') := by rw [htr]; exact fun w h => trans_any ba len0 z0 w h q0
    have HRR := Lib.hid hrr
    clear htr hrr
    have hnil := fun w => Lib.run_eql_slice_nil (P := Try.prog) w 39 85 bu len3 len3 0 0 Try.underlying39
    have hnil0 := fun w => Lib.run_eql_slice_nil (P := Try.prog) w 39 85 none 0 0 0 0 Try.underlying39
    cases tr <;> cases rr
    · have S' : Hid (Says Try.prog (fun _ => False) 50 #[D] (.tuple #[.slice none 0 0, .bool false]) w3) := S
      clear S HRR
      rcases hD with rfl | ⟨T, v, rfl⟩
      all_goals
        go_wp2_with (first | (go_at_call 21; go_in))
        refine (S'.out _ (Same.of_below ((Below.refl _ _).alloc (Nat.le_refl _) _))).mono ?_
        rintro e w4 ⟨rfl, hb4⟩
        have hb34 : Below w3.heap.size w3 w4 := ((Below.refl _ _).alloc (Nat.le_refl _) _).trans (hb4.mono (by simp))
        have B4 := Lib.hid (below2 B3.out hb34)
        have R04 := Lib.hid (R03.out.below hb34)
        clear hb4 hb34
        go_wp2_with fail
        refine (HT.out _ R04.out).mono ?_
        rintro e w' ⟨rfl, rfl⟩
        go_wp2_with fail
        go_ret
        exact ⟨rfl, B4.out⟩
    · have S' : Hid (Says Try.prog (fun _ => False) 50 #[D] (.tuple #[.slice none 0 0, .bool false]) w3) := S
      clear S HRR
      rcases hD with rfl | ⟨T, v, rfl⟩
      all_goals
        go_wp2_with (first | (go_at_call 21; go_in))
        refine (S'.out _ (Same.of_below ((Below.refl _ _).alloc (Nat.le_refl _) _))).mono ?_
        rintro e w4 ⟨rfl, hb4⟩
        have hb34 : Below w3.heap.size w3 w4 := ((Below.refl _ _).alloc (Nat.le_refl _) _).trans (hb4.mono (by simp))
        have B4 := Lib.hid (below2 B3.out hb34)
        have R04 := Lib.hid (R03.out.below hb34)
        clear hb4 hb34
        go_wp2_with fail
        refine (HT.out _ R04.out).mono ?_
        rintro e w' ⟨rfl, rfl⟩
        go_wp2_with fail
        go_ret
        exact ⟨rfl, B4.out⟩
    · have S' : Hid (Says Try.prog (fun _ => False) 50 #[D] (.tuple #[.slice none 0 0, .bool false]) w3) := S
      have hr6 : (a1 % 6 == 1) = false := HRR.out.symm
      clear S HRR
      rcases hD with rfl | ⟨T, v, rfl⟩
      all_goals
        go_wp2_with (first | (go_at_call 21; go_in))
        refine (S'.out _ (Same.of_below ((Below.refl _ _).alloc (Nat.le_refl _) _))).mono ?_
        rintro e w4 ⟨rfl, hb4⟩
        have hb34 : Below w3.heap.size w3 w4 := ((Below.refl _ _).alloc (Nat.le_refl _) _).trans (hb4.mono (by simp))
        have B4 := Lib.hid (below2 B3.out hb34)
        have R04 := Lib.hid (R03.out.below hb34)
        clear hb4 hb34
        go_wp2_with fail
        refine (HT.out _ R04.out).mono ?_
        rintro e w' ⟨rfl, rfl⟩
        go_wp2_with fail
        go_ret
        exact ⟨rfl, B4.out⟩
    · have S' : Hid (Says Try.prog (fun _ => False) 50 #[D] (.tuple #[.slice bu len3 len3, .bool true]) w3) := S
      have hr6 : (a1 % 6 == 1) = true := HRR.out.symm
      have hbb : (bu.isNone == bu.isNone) = true := beq_self_eq_true _
      clear S HRR
      rcases hD with rfl | ⟨T, v, rfl⟩
      all_goals
        go_wp2_with (first | (go_at_call 21; go_in))
        refine (S'.out _ (Same.of_below ((Below.refl _ _).alloc (Nat.le_refl _) _))).mono ?_
        rintro e w4 ⟨rfl, hb4⟩
        have hb34 : Below w3.heap.size w3 w4 := ((Below.refl _ _).alloc (Nat.le_refl _) _).trans (hb4.mono (by simp))
        have B4 := Lib.hid (below2 B3.out hb34)
        have R04 := Lib.hid (R03.out.below hb34)
        have R34 := Lib.hid (R33.out.below hb34)
        clear hb4 hb34
        go_wp2_with fail
        refine (HT.out _ R04.out).mono ?_
        rintro e w' ⟨rfl, rfl⟩
        go_wp2_with fail
        refine (eq23 _ _ _ z3 _ _ _ z3 _ R34.out R34.out).mono ?_
        rintro e w' ⟨rfl, nd, rfl⟩
        rw [decide_eq_true rfl]
        go_wp2_with fail
        go_ret
        exact ⟨rfl, below_drewN B4.out _⟩
end Go.Proofs.Ytfkamkbkpnnokab.fnExtractStringValueChainSpec
