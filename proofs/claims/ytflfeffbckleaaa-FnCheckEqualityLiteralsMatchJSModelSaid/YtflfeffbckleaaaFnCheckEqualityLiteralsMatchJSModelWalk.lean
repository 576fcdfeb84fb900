/- The walk of the law 'FnCheckEqualityLiteralsMatchJSModel': it returns true and leaves what was there as it was. No conditions. -/
import Derived.Test.YtflfeffbckleaaaRows
import Derived.Test.YtflfeffbckleaaaLib
import Derived.Test.YtflfeffbckleaaaAsserts
import Derived.Test.YtflfeffbckleaaaClones
import Derived.Test.YtflfeffbckleaaaLits
import Derived.Test.YtflfeffbckleaaaLitEq
import Derived.Outline
namespace Go.Proofs.Ytflfeffbckleaaa.fnCheckEqualityLiteralsMatchJSModel
open Go.ChangeShapes Go.WideShapes Go.ChangeAt Go.RowKit Go.Mine lits
set_option linter.unusedVariables false
set_option maxRecDepth 100000

set_option maxHeartbeats 8000000 in
theorem walk (a0 : Bool) (a1 : Int) (a2 : Bool) (a3 : Nat) (a4 : ByteArray) (a5 : Option Addr) (len5 cap5 : Nat) (z5 : List Int) (a6 : Int) (a7 : Bool) (a8 : Nat) (a9 : ByteArray) (a10 : Option Addr) (len10 cap10 : Nat) (z10 : List Int) (w : World) (w1 : (Lit.int .u8 a1).wf = true) (w3 : (Lit.float .f64 a3).wf = true) (w4 : a4.size ≤ maxLen) (w5 : IntRow .u16 w a5 len5 cap5 z5) (w6 : (Lit.int .u8 a6).wf = true) (w8 : (Lit.float .f64 a8).wf = true) (w9 : a9.size ≤ maxLen) (w10 : IntRow .u16 w a10 len10 cap10 z10) :
    Calls Try.prog 5 #[.bool a0, .int .u8 a1, .bool a2, .float .f64 a3, .string a4, .slice a5 len5 cap5, .int .u8 a6, .bool a7, .float .f64 a8, .string a9, .slice a10 len10 cap10] w fun e w' => e = .returned (.bool true) ∧ Below w.heap.size w w' := by
  obtain ⟨b0, b1⟩ := bounds_u8 w1
  obtain ⟨c0, c1⟩ := bounds_u8 w6
  have hl5 : len5 ≤ maxLen := Nat.le_trans w5.2.1 w5.2.2.1
  have hl10 : len10 ≤ maxLen := Nat.le_trans w10.2.1 w10.2.2.1
  have m5 := hl5
  have m10 := hl10
  have m4 := w4
  have m9 := w9
  unfold maxLen at m5 m10 m4 m9
  have H5 := Lib.hid w5
  have H10 := Lib.hid w10
  have S4 := Lib.hid w4
  have S9 := Lib.hid w9
  clear w1 w3 w5 w6 w8 w10
  go_enter Try.func5, Try.ntmps5
  go_wp2_with fail
  refine (bytes11 _ _ _ _ _ _ _ _ _ _ _ _ _ _ _ _ w4 hl5 w9 hl10).mono ?_
  rintro e w' ⟨⟨r, rfl⟩, rfl⟩
  clear hl5 hl10 w4 w9
  cases r with
  | false =>
    go_wp2_with fail
    go_ret
    exact ⟨rfl, Below.refl _ _⟩
  | true =>
    go_wp2_with fail
    all_goals try (go_ret; exact ⟨rfl, Below.refl _ _⟩)
    refine (clone12 _ _ _ z5 _ H5.out (by go_light; omega)).mono ?_
    rintro e w2 ⟨u5, rfl, r5, y1, y2, hb2⟩
    have R5 := Lib.hid r5
    have B2 := Lib.hid hb2
    have R10 := Lib.hid (H10.out.below hb2)
    clear r5 y1 y2 hb2
    go_wp2_with fail
    refine (clone12 _ _ _ z10 _ R10.out (by go_light; omega)).mono ?_
    rintro e w3 ⟨u10, rfl, r10, y1, y2, hb3⟩
    have P10 := Lib.hid r10
    have P5 := Lib.hid (R5.out.below hb3)
    have B3 := Lib.hid (below2 B2.out hb3)
    clear r10 y1 y2 hb3 R5 R10 B2 H5 H10
    go_wp2_with fail
    refine (mk_any _ _ _ _ _ _ _ _ b0).mono ?_
    rintro e w4 ⟨T1, p1, rfl, hb4, hp1, k1⟩
    have B4 := Lib.hid (below2 B3.out hb4)
    have K1 := Lib.hid k1
    have Q5 := Lib.hid (P5.out.below hb4)
    have Q10 := Lib.hid (P10.out.below hb4)
    clear hb4 hp1 k1 P5 P10 B3
    go_wp2_with fail
    refine (mk_any _ _ _ _ _ _ _ _ c0).mono ?_
    rintro e w6 ⟨T2, p2, rfl, hb6, hp2, k2⟩
    have d0 : w6.cell? ⟨w4.heap.size, 0, none⟩ = some (.iface T1 (.pointer (some ⟨p1, 0, none⟩))) := bcell hb6 (by simp [go_sem])
    have hb6' : Below w4.heap.size w4 w6 := below2 ((Below.refl _ _).alloc (Nat.le_refl _) _) hb6
    have B6 := Lib.hid (below2 B4.out hb6')
    have K16 := Lib.hid (cases_below K1.out hb6')
    have K2 := Lib.hid k2
    have Q56 := Lib.hid (Q5.out.below hb6')
    have Q106 := Lib.hid (Q10.out.below hb6')
    have hlt := cell_lt d0
    clear hb6 hb6' hp2 k2 K1 Q5 Q10 B4
    have HB : Hid (∀ o, Below w6.heap.size w6 (w6.alloc o)) := fun o => (Below.refl _ _).alloc (Nat.le_refl _) o
    obtain ⟨k, hkk⟩ : ∃ k : Int, k = if a0 then 1 else 0 := ⟨_, rfl⟩
    have HK := Lib.hid fun o m => kind15 a0 ((w6.alloc o).drewN m)
    rw [← hkk] at HK
    have hk := Lib.hid (show (a0 = true ∧ k = 1) ∨ (a0 = false ∧ k = 0) by cases a0 <;> simp [hkk])
    clear hkk
    have HE := Lib.hid fun o m => ce_any k a0 hk.out (w := (w6.alloc o).drewN m) (cases_below K16.out (below_drewN (HB.out o) m)) (cases_below K2.out (below_drewN (HB.out o) m)) S4.out S9.out (Q56.out.below (below_drewN (HB.out o) m)) (Q106.out.below (below_drewN (HB.out o) m))
    have HM := Lib.hid fun o m => mo_any a0 a1 a6 a2 a7 a3 a8 a4 a9 u5 u10 len5 len5 len10 len10 z5 z10 ((w6.alloc o).drewN m) b0 c0 S4.out S9.out (Q56.out.below (below_drewN (HB.out o) m)) (Q106.out.below (below_drewN (HB.out o) m))
    clear hk K16 K2 Q56 Q106 S4 S9
    obtain ⟨R, hR⟩ : ∃ R, R = eqv a0 (a1 % 6) (a6 % 6) a2 a7 a3 a8 a4 a9 z5 z10 := ⟨_, rfl⟩
    rw [← hR] at HE HM
    clear hR
    go_wp2_with fail
    go_quiet ((first | (go_at_call 15; exact Calls.quiet_of_same (HK.out _ _)) | (go_at_call 14; exact Calls.quiet_of (HE.out _ _))))
    go_wp2_with fail
    refine (HM.out _ _).mono ?_
    rintro e w9 ⟨rfl, m, rfl⟩
    go_wp2_with fail
    go_ret
    exact ⟨ret_bool (by simp), below_drewN (below2 B6.out (HB.out _)) _⟩
end Go.Proofs.Ytflfeffbckleaaa.fnCheckEqualityLiteralsMatchJSModel
