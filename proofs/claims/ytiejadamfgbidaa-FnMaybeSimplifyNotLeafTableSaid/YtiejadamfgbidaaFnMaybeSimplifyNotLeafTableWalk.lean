/- The walk of the law 'FnMaybeSimplifyNotLeafTable': it returns true and leaves what was there as it was. No conditions. -/
import Derived.Test.YtiejadamfgbidaaRows
import Derived.Test.YtiejadamfgbidaaLib
import Derived.Test.YtiejadamfgbidaaAsserts
import Derived.Test.YtiejadamfgbidaaClones
import Derived.Test.YtiejadamfgbidaaLeafA
import Derived.Test.YtiejadamfgbidaaNotLeaf
import Derived.Test.YtiejadamfgbidaaNotLeafB

namespace Go.Proofs.Ytiejadamfgbidaa.fnMaybeSimplifyNotLeafTable
open Go.ChangeShapes Go.WideShapes Go.ChangeAt Go.RowKit Go.Mine leaf46 notLeaf
set_option linter.unusedVariables false
set_option maxRecDepth 100000

theorem model5 (a0 : Int) (b : Bool) (x : Nat) (a : Option Addr) (l c : Nat) (big : ByteArray) (w : World) (h0 : 0 ≤ a0) (hb : big.size ≤ maxLen) (h : a0 % 11 = 5) :
    Calls Try.prog 13 #[.int .u8 a0, .bool b, .float .f64 x, .slice a l c, .string big] w fun e w' => e = .returned (.tuple #[.bool (big.toList == zeroS), .bool (big.toList == zeroS || !rad big)]) ∧ w = w' := by
  unfold maxLen at hb
  by_cases hz : (big.toList == [48]) = true
  · have HZ : Hid ((big.toList == zeroS) = true) := hz
    go_enter Try.func13, Try.ntmps13
    go_wp2
    go_ret2
    exact ⟨by rw [HZ.out]; rfl, rfl⟩
  · have hz : (big.toList == [48]) = false := Bool.eq_false_iff.2 hz
    have HZ : Hid ((big.toList == zeroS) = false) := hz
    go_enter Try.func13, Try.ntmps13
    go_wp2
    all_goals
      go_ret2
      rw [HZ.out]
      refine ⟨ret2b rfl ?_, rfl⟩
      go_light
      rw [Bool.false_or]
      clear hz HZ
      first
        | (rw [rad_lt (a := big) ‹_›]; rfl)
        | (rw [rad_ge (a := big) ‹_› ‹_›]; simp_all; done)
        | (rw [rad_ge (a := big) ‹_› ‹_›]; simp_all; omega)

set_option maxHeartbeats 2000000 in
theorem model_any (a0 : Int) (b : Bool) (x : Nat) (a : Option Addr) (l c : Nat) (big : ByteArray) (w : World) (h0 : 0 ≤ a0) (hb : big.size ≤ maxLen) (hl : l ≤ 1048576) :
    Calls Try.prog 13 #[.int .u8 a0, .bool b, .float .f64 x, .slice a l c, .string big] w fun e w' => e = .returned (.tuple #[.bool (val (a0 % 11) b x l big), .bool (known (a0 % 11) big)]) ∧ w = w' := by
  have hc : a0 % 11 = 0 ∨ a0 % 11 = 1 ∨ a0 % 11 = 2 ∨ a0 % 11 = 3 ∨ a0 % 11 = 4 ∨ a0 % 11 = 5 ∨ a0 % 11 = 6 ∨ a0 % 11 = 7 ∨ a0 % 11 = 8 ∨ a0 % 11 = 9 ∨ a0 % 11 = 10 := by omega
  rcases hc with h | h | h | h | h | h | h | h | h | h | h
  · have H := Lib.hid h
    go_enter Try.func13, Try.ntmps13
    go_wp2
    go_ret2
    exact ⟨by rw [H.out]; rfl, rfl⟩
  · have H := Lib.hid h
    go_enter Try.func13, Try.ntmps13
    go_wp2
    go_ret2
    exact ⟨by rw [H.out]; rfl, rfl⟩
  · have H := Lib.hid h
    go_enter Try.func13, Try.ntmps13
    go_wp2
    go_ret2
    exact ⟨by rw [H.out]; rfl, rfl⟩
  · have H := Lib.hid h
    go_enter Try.func13, Try.ntmps13
    go_wp2
    all_goals
      go_ret2
      rw [H.out]
      refine ⟨ret2b ?_ rfl, rfl⟩
      go_light
      show _ = (!(ord x 0 == some .lt) && !(ord x 0 == some .gt))
      first | rfl | (rename_i ho; have ho' : ord x 0 = some .lt := ho; rw [ho']; rfl) | (simp_all; done)
  · have H := Lib.hid h
    have eq : ((l : Int) == 0) = decide (l = 0) := by rw [Bool.eq_iff_iff]; simp
    have EQ := Lib.hid eq
    clear eq
    go_enter Try.func13, Try.ntmps13
    go_wp2
    go_ret2
    exact ⟨by rw [H.out]; exact ret2b EQ.out rfl, rfl⟩
  · rw [h]; exact model5 a0 b x a l c big w h0 hb h
  all_goals
    have H := Lib.hid h
    go_enter Try.func13, Try.ntmps13
    go_wp2
    go_ret2
    exact ⟨by rw [H.out]; rfl, rfl⟩

theorem asbool (q : Nat) (w : World) : Calls Try.prog 14 #[.iface 48 (.pointer (some ⟨q, 0, none⟩))] w fun e w' => e = .returned (.pointer (some ⟨q, 0, none⟩)) ∧ w = w' := by
  go_enter Try.func14, Try.ntmps14
  go_wp2
  go_ret
  exact ⟨rfl, rfl⟩

theorem bytes_any (a0 a1 : Int) (b : Bool) (x : Nat) (a : Option Addr) (l c : Nat) (s : ByteArray) (a5 a6 : Int) (w : World) (hs : s.size ≤ maxLen) (hl : l ≤ maxLen) :
    Calls Try.prog 9 #[.int .u8 a0, .int .u8 a1, .bool b, .float .f64 x, .slice a l c, .string s, .int .i32 a5, .int .i32 a6] w fun e w' => (∃ r : Bool, e = .returned (.bool r) ∧ (r = true → l + s.size ≤ 1048576)) ∧ w = w' := by
  unfold maxLen at hs hl
  go_enter Try.func9, Try.ntmps9
  go_wp2
  all_goals
    go_ret
    exact ⟨⟨_, rfl, by simp; try omega⟩, rfl⟩

theorem walk (a0 : Int) (a1 : Int) (a2 : Bool) (a3 : Nat) (a4 : Option Addr) (len4 cap4 : Nat) (z4 : List Int) (a5 : ByteArray) (a6 : Int) (a7 : Int) (w : World) (w0 : (Lit.int .u8 a0).wf = true) (w1 : (Lit.int .u8 a1).wf = true) (w3 : (Lit.float .f64 a3).wf = true) (w4 : IntRow .u16 w a4 len4 cap4 z4) (w5 : a5.size ≤ maxLen) (w6 : (Lit.int .i32 a6).wf = true) (w7 : (Lit.int .i32 a7).wf = true) :
    Calls Try.prog 3 #[.int .u8 a0, .int .u8 a1, .bool a2, .float .f64 a3, .slice a4 len4 cap4, .string a5, .int .i32 a6, .int .i32 a7] w fun e w' => e = .returned (.bool true) ∧ Below w.heap.size w w' := by
  obtain ⟨b0, b1⟩ := bounds_u8 w0
  obtain ⟨b2, b3⟩ := bounds_u8 w1
  have hl : len4 ≤ maxLen := Nat.le_trans w4.2.1 w4.2.2.1
  have m0 := hl
  have m1 := w5
  unfold maxLen at m0 m1
  have H4 := Lib.hid w4
  clear w0 w1 w3 w4 w6 w7
  go_enter Try.func3, Try.ntmps3
  go_wp2_with fail
  refine (bytes_any _ _ _ _ _ _ _ _ _ _ _ w5 hl).mono ?_
  rintro e w' ⟨⟨r, rfl, hr⟩, rfl⟩
  cases r with
  | false =>
    clear hr
    go_wp2_with fail
    go_ret
    exact ⟨rfl, Below.refl _ _⟩
  | true =>
    have hr1 := hr rfl
    clear hr
    go_wp2_with fail
    all_goals try (go_ret; exact ⟨rfl, Below.refl _ _⟩)
    refine (clone10 _ _ _ z4 _ H4.out (by omega)).mono ?_
    rintro e w1 ⟨sb, rfl, r0, y1, y2, hb1⟩
    have B1 := Lib.hid hb1
    clear r0 y1 y2 hb1
    have HM := Lib.hid (fun w => model_any a0 a2 a3 sb len4 len4 a5 w b0 w5 (by omega))
    go_wp2_with fail
    refine (mk_any _ _ _ _ _ _ _ _ _ b0).mono ?_
    rintro e w2 ⟨T, p, q1, q2, q3, rfl, hb2, hp, hc⟩
    have HN := Lib.hid (fun w' (h : Below w2.heap.size w2 w') => not_leaf a7 (by omega) w5 (cases_later hc h))
    have B2 := Lib.hid (below2 B1.out hb2)
    clear hb2 hc
    obtain ⟨vl, hvl⟩ : ∃ vl, vl = val (a0 % 11) a2 a3 len4 a5 := ⟨_, rfl⟩
    obtain ⟨kn, hkn⟩ : ∃ kn, kn = known (a0 % 11) a5 := ⟨_, rfl⟩
    rw [← hvl, ← hkn] at HM HN
    clear hvl hkn
    have hc3 : a1 % 3 = 0 ∨ a1 % 3 = 1 ∨ a1 % 3 = 2 := by omega
    have ha1 : ∀ o, Below w2.heap.size w2 (w2.alloc o) := fun o => (Below.refl _ _).alloc (Nat.le_refl _) _
    have ha2 : ∀ o1 o2, Below w2.heap.size w2 ((w2.alloc o1).alloc o2) := fun o1 o2 => (ha1 o1).alloc (by simp) _
    have A1 := Lib.hid ha1
    have A2 := Lib.hid ha2
    clear ha1 ha2
    rcases hc3 with h | h | h
    · go_wp2_with fail
      refine (HN.out _ (A1.out _)).mono ?_
      rintro e w3 ⟨hb3, hk⟩
      have B3 := Lib.hid (below3 B2.out (A1.out _) hb3)
      clear hb3
      rcases hk with ⟨rfl, q, rfl, hv⟩ | ⟨rfl, rfl⟩
      · have hq : q < w3.heap.size := cell_lt hv
        go_wp2_with fail
        refine (HM.out _).mono ?_
        rintro e w' ⟨rfl, rfl⟩
        go_wp2_with fail
        refine (asbool _ _).mono ?_
        rintro e w' ⟨rfl, rfl⟩
        go_wp2_with fail
        go_ret
        exact ⟨rfl, B3.out.alloc (by have := B3.out.size; omega) _⟩
      · go_wp2_with fail
        refine (HM.out _).mono ?_
        rintro e w' ⟨rfl, rfl⟩
        go_wp2_with fail
        go_ret
        exact ⟨rfl, B3.out.alloc (by have := B3.out.size; omega) _⟩
    · go_wp2_with fail
      refine (not_ann kn vl T p _ a7 a6 _ (fun w' h => HN.out w' (below2 (A2.out _ _) h)) (by simp [go_sem]) (by simp [go_sem])).mono ?_
      rintro e w3 ⟨hb3, hk⟩
      have B3 := Lib.hid (below3 B2.out (A2.out _ _) hb3)
      clear hb3
      rcases hk with ⟨rfl, q, rfl, hv⟩ | ⟨rfl, rfl⟩
      · have hq : q < w3.heap.size := cell_lt hv
        go_wp2_with fail
        refine (HM.out _).mono ?_
        rintro e w' ⟨rfl, rfl⟩
        go_wp2_with fail
        refine (asbool _ _).mono ?_
        rintro e w' ⟨rfl, rfl⟩
        go_wp2_with fail
        go_ret
        exact ⟨rfl, B3.out.alloc (by have := B3.out.size; omega) _⟩
      · go_wp2_with fail
        refine (HM.out _).mono ?_
        rintro e w' ⟨rfl, rfl⟩
        go_wp2_with fail
        go_ret
        exact ⟨rfl, B3.out.alloc (by have := B3.out.size; omega) _⟩
    · go_wp2_with fail
      refine (not_inl kn vl T p _ a7 a6 _ (fun w' h => HN.out w' (below2 (A2.out _ _) h)) (by simp [go_sem]) (by simp [go_sem])).mono ?_
      rintro e w3 ⟨hb3, hk⟩
      have B3 := Lib.hid (below3 B2.out (A2.out _ _) hb3)
      clear hb3
      rcases hk with ⟨rfl, q, rfl, hv⟩ | ⟨rfl, rfl⟩
      · have hq : q < w3.heap.size := cell_lt hv
        go_wp2_with fail
        refine (HM.out _).mono ?_
        rintro e w' ⟨rfl, rfl⟩
        go_wp2_with fail
        refine (asbool _ _).mono ?_
        rintro e w' ⟨rfl, rfl⟩
        go_wp2_with fail
        go_ret
        exact ⟨rfl, B3.out.alloc (by have := B3.out.size; omega) _⟩
      · go_wp2_with fail
        refine (HM.out _).mono ?_
        rintro e w' ⟨rfl, rfl⟩
        go_wp2_with fail
        go_ret
        exact ⟨rfl, B3.out.alloc (by have := B3.out.size; omega) _⟩
end Go.Proofs.Ytiejadamfgbidaa.fnMaybeSimplifyNotLeafTable
