/- The walk of the law 'FnDuplicateCaseHashCompound': it returns true and leaves what was there as it was. No conditions. -/
import Derived.Test.YtiejadamfgbidaaRows
import Derived.Test.YtiejadamfgbidaaLib
import Derived.Test.YtiejadamfgbidaaClones
import Derived.Test.YtiejadamfgbidaaHashC
import Derived.Outline
namespace Go.Proofs.Ytiejadamfgbidaa.fnDuplicateCaseHashCompound
open Go.ChangeShapes Go.WideShapes Go.ChangeAt Go.RowKit Go.Mine dup
set_option linter.unusedVariables false
set_option maxRecDepth 100000

theorem bytes_any (a0 a1 : Int) (a2 a3 : Nat) (a4 : Bool) (a5 : Int) (a6 : Option Addr) (l6 c6 : Nat) (a7 : Option Addr) (l7 c7 : Nat) (a8 : ByteArray) (a9 a10 a11 : Bool) (w : World) (h6 : l6 ≤ maxLen) (h7 : l7 ≤ maxLen) (h8 : a8.size ≤ maxLen) :
    Calls Try.prog 37 #[.int .u8 a0, .int .u8 a1, .float .f64 a2, .float .f64 a3, .bool a4, .int .u32 a5, .slice a6 l6 c6, .slice a7 l7 c7, .string a8, .bool a9, .bool a10, .bool a11] w fun e w' => (∃ r : Bool, e = .returned (.bool r)) ∧ w = w' := by
  unfold maxLen at h6 h7 h8
  go_enter Try.func37, Try.ntmps37
  go_wp2
  all_goals
    go_ret
    exact ⟨⟨_, rfl⟩, rfl⟩

def XB (wb : World) (k : Nat) : Prop := k = wb.heap.size ∨ k = wb.heap.size + 1
def Ifc (D : Value) : Prop := D = .nilIface ∨ ∃ T v, D = .iface T v
/-- The two variables, behind wb; all else as it was. -/
def Mid (wb W : World) (D1 L1 D2 L2 : Value) : Prop := Blk W wb.heap.size #[D1, L1] 31 ∧ Blk W (wb.heap.size + 1) #[D2, L2] 31 ∧ Below wb.heap.size wb W ∧ Ifc D1 ∧ Ifc D2
theorem mid_start (wb : World) : Mid wb ((wb.alloc (.cells #[.nilIface, .int .i32 0] 31)).alloc (.cells #[.nilIface, .int .i32 0] 31)) .nilIface (.int .i32 0) .nilIface (.int .i32 0) :=
  ⟨(Blk.new wb _ _).alloc _, blkNew _ _ (by simp), bal (bal (Below.refl _ _) _) _, .inl rfl, .inl rfl⟩
theorem Mid.below {wb W W' : World} {D1 L1 D2 L2 : Value} (h : Mid wb W D1 L1 D2 L2) (hb : Below W.heap.size W W') : Mid wb W' D1 L1 D2 L2 := ⟨h.1.below hb, h.2.1.below hb, below2 h.2.2.1 hb, h.2.2.2⟩
theorem Mid.set1 {wb W : World} {D1 L1 D2 L2 : Value} (h : Mid wb W D1 L1 D2 L2) (T : Nat) (v L : Value) : Mid wb ((W.setCell ⟨wb.heap.size, 0, none⟩ (.iface T v)).setCell ⟨wb.heap.size, 1, none⟩ L) (.iface T v) L D2 L2 := by
  have h1 := (h.1.set 0 (.iface T v)).set 1 L
  rw [set2] at h1
  exact ⟨h1, (h.2.1.setOther (a := ⟨wb.heap.size, 0, none⟩) (by show wb.heap.size + 1 ≠ wb.heap.size; omega) _).setOther (a := ⟨wb.heap.size, 1, none⟩) (by show wb.heap.size + 1 ≠ wb.heap.size; omega) _, (h.2.2.1.setCell (by exact Nat.le_refl _) _).setCell (by exact Nat.le_refl _) _, .inr ⟨_, _, rfl⟩, h.2.2.2.2⟩
theorem Mid.set2 {wb W : World} {D1 L1 D2 L2 : Value} (h : Mid wb W D1 L1 D2 L2) (T : Nat) (v L : Value) : Mid wb ((W.setCell ⟨wb.heap.size + 1, 0, none⟩ (.iface T v)).setCell ⟨wb.heap.size + 1, 1, none⟩ L) D1 L1 (.iface T v) L := by
  have h1 := (h.2.1.set 0 (.iface T v)).set 1 L
  rw [Go.Mine.set2] at h1
  exact ⟨(h.1.setOther (a := ⟨wb.heap.size + 1, 0, none⟩) (by show wb.heap.size ≠ wb.heap.size + 1; omega) _).setOther (a := ⟨wb.heap.size + 1, 1, none⟩) (by show wb.heap.size ≠ wb.heap.size + 1; omega) _, h1, (h.2.2.1.setCell (by exact Nat.le_succ _) _).setCell (by exact Nat.le_succ _) _, h.2.2.2.1, .inr ⟨_, _, rfl⟩⟩
theorem Mid.vars {wb W : World} {D1 L1 D2 L2 : Value} (h : Mid wb W D1 L1 D2 L2) : Vars (XB wb) W := by
  intro k hk
  rcases hk with rfl | rfl
  · refine ⟨h.1.lt, ?_⟩
    rw [h.1.cell 0]
    rcases h.2.2.2.1 with rfl | ⟨T, v, rfl⟩
    · exact .inl rfl
    · exact .inr ⟨T, v, rfl⟩
  · refine ⟨h.2.1.lt, ?_⟩
    rw [h.2.1.cell 0]
    rcases h.2.2.2.2 with rfl | ⟨T, v, rfl⟩
    · exact .inl rfl
    · exact .inr ⟨T, v, rfl⟩
theorem same1 (wb W : World) (u v : Value) : Same (XB wb) W ((W.setCell ⟨wb.heap.size, 0, none⟩ u).setCell ⟨wb.heap.size, 1, none⟩ v) :=
  Same.setCell (X := XB wb) (p := ⟨wb.heap.size, 1, none⟩) (Same.setCell (X := XB wb) (p := ⟨wb.heap.size, 0, none⟩) (Same.refl _ _) (.inl rfl) _) (.inl rfl) _
theorem same2 (wb W : World) (u v : Value) : Same (XB wb) W ((W.setCell ⟨wb.heap.size + 1, 0, none⟩ u).setCell ⟨wb.heap.size + 1, 1, none⟩ v) :=
  Same.setCell (X := XB wb) (p := ⟨wb.heap.size + 1, 1, none⟩) (Same.setCell (X := XB wb) (p := ⟨wb.heap.size + 1, 0, none⟩) (Same.refl _ _) (.inr rfl) _) (.inr rfl) _

set_option maxHeartbeats 4000000 in
theorem main (a0 a1 : Int) (a2 a3 : Nat) (a4 : Bool) (a5 : Int) (a6 : Option Addr) (len6 cap6 : Nat) (z6 : List Int) (a7 : Option Addr) (len7 cap7 : Nat) (z7 : List Int) (a8 : ByteArray) (a9 a10 a11 : Bool) (w : World) (b0 : 0 ≤ a0) (b1 : 0 ≤ a1)
    (w6 : IntRow .u16 w a6 len6 cap6 z6) (w7 : IntRow .u16 w a7 len7 cap7 z7) (q6 : len6 ≤ 524288) (q7 : len7 ≤ 524288) (q8 : a8.size ≤ 1048576) (q9 : 2 * (len6 : Int) + 2 * (len7 : Int) + (a8.size : Int) ≤ 1048576) :
    Calls Try.prog 8 #[.int .u8 a0, .int .u8 a1, .float .f64 a2, .float .f64 a3, .bool a4, .int .u32 a5, .slice a6 len6 cap6, .slice a7 len7 cap7, .string a8, .bool a9, .bool a10, .bool a11] w fun e w' => e = .returned (.bool true) ∧ Below w.heap.size w w' := by
  have hm6 : len6 ≤ maxLen := Nat.le_trans w6.2.1 w6.2.2.1
  have hm7 : len7 ≤ maxLen := Nat.le_trans w7.2.1 w7.2.2.1
  have R6 := Lib.hid w6
  have R7 := Lib.hid w7
  clear w6 w7
  go_enter Try.func8, Try.ntmps8
  go_wp2_with fail
  refine (bytes_any _ _ _ _ _ _ _ _ _ _ _ _ _ _ _ _ _ hm6 hm7 (by unfold maxLen; omega)).mono ?_
  rintro e w' ⟨⟨r, rfl⟩, rfl⟩
  cases r with
  | false =>
    go_wp2_with fail
    go_ret
    exact ⟨rfl, Below.refl _ _⟩
  | true =>
    go_wp2_with fail
    refine (clone32 _ _ _ z6 _ R6.out (by omega)).mono ?_
    rintro e wa ⟨u6, rfl, ra, y1, y2, hba⟩
    have RA := Lib.hid ra
    have BA := Lib.hid hba
    have RB := Lib.hid (R7.out.below hba)
    have Y6 := Lib.hid y2
    clear ra y1 y2 hba R6 R7
    go_wp2_with fail
    refine (clone32 _ _ _ z7 _ RB.out (by omega)).mono ?_
    rintro e wb ⟨u7, rfl, rb, y1, y2, hbb⟩
    have PB := Lib.hid rb
    have PA := Lib.hid (RA.out.below hbb)
    have BB := Lib.hid (below2 BA.out hbb)
    have X6 : Hid (∀ x, u6 = some x → ¬ XB wb x.block) := fun x hx h => by
      have h1 := (Y6.out x hx).2.2.2
      have h2 := hbb.size
      rcases h with h | h <;> omega
    have X7 : Hid (∀ x, u7 = some x → ¬ XB wb x.block) := fun x hx h => by
      have h1 := (y2 x hx).2.2.2
      rcases h with h | h <;> omega
    clear rb y1 y2 hbb RA RB BA Y6
    have M0 := Lib.hid (mid_start wb)
    have hA : (leafOk (a0 % 7) = true ∧ ((a0 % 7) != 6) = true) ∨ (leafOk (a0 % 7) = false ∧ ((a0 % 7) != 6) = false) := by
      unfold leafOk
      by_cases h : a0 % 7 = 6 <;> simp [h]
    have hB : (leafOk (a1 % 7) = true ∧ ((a1 % 7) != 6) = true) ∨ (leafOk (a1 % 7) = false ∧ ((a1 % 7) != 6) = false) := by
      unfold leafOk
      by_cases h : a1 % 7 = 6 <;> simp [h]
    obtain ⟨hLA, eA⟩ : ∃ h, h = leafH (a0 % 7) a2 a4 z6 a5 := ⟨_, rfl⟩
    obtain ⟨hLB, eB⟩ : ∃ h, h = leafH (a1 % 7) a3 a4 z7 a5 := ⟨_, rfl⟩
    obtain ⟨okA, oA⟩ : ∃ o, o = leafOk (a0 % 7) := ⟨_, rfl⟩
    obtain ⟨okB, oB⟩ : ∃ o, o = leafOk (a1 % 7) := ⟨_, rfl⟩
    have CA : Hid (∀ W, Vars (XB wb) W → Below wb.heap.size wb W → Calls Try.prog 34 #[.int .u8 a0, .float .f64 a2, .bool a4, .slice u6 len6 len6, .int .u32 a5] W (Hashes (XB wb) hLA okA W)) := by
      rw [eA, oA]
      exact fun W hv hb => leaf34 (XB wb) a0 a2 a4 u6 len6 len6 z6 a5 W hv X6.out b0 (PA.out.below hb)
    have CB : Hid (∀ W, Vars (XB wb) W → Below wb.heap.size wb W → Calls Try.prog 34 #[.int .u8 a1, .float .f64 a3, .bool a4, .slice u7 len7 len7, .int .u32 a5] W (Hashes (XB wb) hLB okB W)) := by
      rw [eB, oB]
      exact fun W hv hb => leaf34 (XB wb) a1 a3 a4 u7 len7 len7 z7 a5 W hv X7.out b1 (PB.out.below hb)
    rw [← oA] at hA
    rw [← oB] at hB
    clear oA oB eA eB X6 X7 PA PB
    cases a9 with
    | true =>
      go_wp2_with fail
      refine (CA.out _ M0.out.vars M0.out.2.2.1).mono ?_
      rintro e w1 ⟨T1, p1, l1, rfl, hb1, hs1⟩
      have M1 := Lib.hid (M0.out.below hb1)
      have S1 := Lib.hid hs1
      clear hb1 hs1
      go_wp2_with fail
      refine (CB.out _ M1.out.vars M1.out.2.2.1).mono ?_
      rintro e w2 ⟨T2, p2, l2, rfl, hb2, hs2⟩
      have M2 := Lib.hid (M1.out.below hb2)
      have S2 := Lib.hid hs2
      have S1 := Lib.hid (S1.out.later (Same.of_below hb2))
      clear hb2 hs2
      go_wp2_with fail
      refine (idx38 (XB wb) _ _ _ _ _ _ _ _ _ _ _ M2.out.vars S1.out S2.out).mono ?_
      rintro e w3 ⟨T3, p3, l3, rfl, hb3, hs3⟩
      have M3 := Lib.hid (M2.out.below hb3)
      have S3 := Lib.hid hs3
      clear hb3 hs3
      have x0 := M3.out.1.cell 0
      have x1 := M3.out.1.cell 1
      have x2 := M3.out.1.free 0
      have x3 := M3.out.1.free 1
      have x4 := M3.out.1.lt
      have y0 := M3.out.2.1.cell 0
      have y1 := M3.out.2.1.cell 1
      have y2 := M3.out.2.1.free 0
      have y3 := M3.out.2.1.free 1
      have y4 := M3.out.2.1.lt
      have M4 := Lib.hid (M3.out.set1 T3 (.pointer (some ⟨p3, 0, none⟩)) (.int .i32 l3))
      have S3 := Lib.hid (S3.out.later (same1 wb w3 (.iface T3 (.pointer (some ⟨p3, 0, none⟩))) (.int .i32 l3)))
      go_wp2_with fail
      clear x0 x1 x2 x3 x4 y0 y1 y2 y3 y4
      refine (CA.out _ M4.out.vars M4.out.2.2.1).mono ?_
      rintro e w5 ⟨T5, p5, l5, rfl, hb5, hs5⟩
      have M5 := Lib.hid (M4.out.below hb5)
      have S5 := Lib.hid hs5
      have S3 := Lib.hid (S3.out.later (Same.of_below hb5))
      clear hb5 hs5
      go_wp2_with fail
      refine (wrap33 (XB wb) _ _ _ _ _ a10 _ M5.out.vars S5.out).mono ?_
      rintro e w6 ⟨T6, p6, l6, rfl, hb6, hs6⟩
      have M6 := Lib.hid (M5.out.below hb6)
      have S6 := Lib.hid hs6
      have S3 := Lib.hid (S3.out.later (Same.of_below hb6))
      clear hb6 hs6
      go_wp2_with fail
      refine (CB.out _ M6.out.vars M6.out.2.2.1).mono ?_
      rintro e w7 ⟨T7, p7, l7, rfl, hb7, hs7⟩
      have M7 := Lib.hid (M6.out.below hb7)
      have S7 := Lib.hid hs7
      have S3 := Lib.hid (S3.out.later (Same.of_below hb7))
      have S6 := Lib.hid (S6.out.later (Same.of_below hb7))
      clear hb7 hs7
      go_wp2_with fail
      refine (wrap33 (XB wb) _ _ _ _ _ a11 _ M7.out.vars S7.out).mono ?_
      rintro e w8 ⟨T8, p8, l8, rfl, hb8, hs8⟩
      have M8 := Lib.hid (M7.out.below hb8)
      have S8 := Lib.hid hs8
      have S3 := Lib.hid (S3.out.later (Same.of_below hb8))
      have S6 := Lib.hid (S6.out.later (Same.of_below hb8))
      clear hb8 hs8
      go_wp2_with fail
      refine (idx38 (XB wb) _ _ _ _ _ _ _ _ _ _ _ M8.out.vars S6.out S8.out).mono ?_
      rintro e w9 ⟨T9, p9, l9, rfl, hb9, hs9⟩
      have M9 := Lib.hid (M8.out.below hb9)
      have S9 := Lib.hid hs9
      have S3 := Lib.hid (S3.out.later (Same.of_below hb9))
      clear hb9 hs9
      have M10 := Lib.hid (M9.out.set2 T9 (.pointer (some ⟨p9, 0, none⟩)) (.int .i32 l9))
      have S9 := Lib.hid (S9.out.later (same2 wb w9 (.iface T9 (.pointer (some ⟨p9, 0, none⟩))) (.int .i32 l9)))
      have S3 := Lib.hid (S3.out.later (same2 wb w9 (.iface T9 (.pointer (some ⟨p9, 0, none⟩))) (.int .i32 l9)))
      have x0 := M9.out.1.cell 0
      have x1 := M9.out.1.cell 1
      have x2 := M9.out.1.free 0
      have x3 := M9.out.1.free 1
      have x4 := M9.out.1.lt
      have y0 := M9.out.2.1.cell 0
      have y1 := M9.out.2.1.cell 1
      have y2 := M9.out.2.1.free 0
      have y3 := M9.out.2.1.free 1
      have y4 := M9.out.2.1.lt
      have K3 := Lib.hid (h40 (XB wb) _ _ _ _ _ _ S3.out)
      have K9 := Lib.hid (h40 (XB wb) _ _ _ _ _ _ S9.out)
      obtain ⟨hE, eE⟩ : ∃ h, h = (idxH hLA okA hLB okB) := ⟨_, rfl⟩
      rw [← eE] at K3 K9
      clear eE S3 S9
      unfold hv at K3 K9
      go_wp2_with fail
      clear x0 x1 x2 x3 x4 y0 y1 y2 y3 y4
      refine (K3.out _ (Same.refl _ _)).mono ?_
      rintro e w11 ⟨rfl, hb11⟩
      have M11 := Lib.hid (M10.out.below hb11)
      have K9 := Lib.hid (K9.out.later (Same.of_below hb11))
      clear hb11
      have x0 := M11.out.1.cell 0
      have x1 := M11.out.1.cell 1
      have x4 := M11.out.1.lt
      have y0 := M11.out.2.1.cell 0
      have y1 := M11.out.2.1.cell 1
      have y4 := M11.out.2.1.lt
      go_wp2_with fail
      clear x0 x1 x4 y0 y1 y4
      refine (K9.out _ (Same.refl _ _)).mono ?_
      rintro e w12 ⟨rfl, hb12⟩
      have M12 := Lib.hid (M11.out.below hb12)
      clear hb12
      have hEE : (hE == hE) = true := by simp
      rcases hA with ⟨rfl, tA⟩ | ⟨rfl, tA⟩ <;> rcases hB with ⟨rfl, tB⟩ | ⟨rfl, tB⟩
      all_goals
        simp only [Bool.and_true, Bool.and_false, Bool.true_and, Bool.false_and]
        go_wp2_with fail
        go_ret
        exact ⟨rfl, below2 BB.out M12.out.2.2.1⟩
    | false =>
      go_wp2_with fail
      refine (CA.out _ M0.out.vars M0.out.2.2.1).mono ?_
      rintro e w1 ⟨T1, p1, l1, rfl, hb1, hs1⟩
      have M1 := Lib.hid (M0.out.below hb1)
      have S1 := Lib.hid hs1
      clear hb1 hs1
      go_wp2_with fail
      refine (dot39 (XB wb) _ _ _ _ _ a8 _ M1.out.vars q8 S1.out).mono ?_
      rintro e w3 ⟨T3, p3, l3, rfl, hb3, hs3⟩
      have M3 := Lib.hid (M1.out.below hb3)
      have S3 := Lib.hid hs3
      clear hb3 hs3
      have x0 := M3.out.1.cell 0
      have x1 := M3.out.1.cell 1
      have x2 := M3.out.1.free 0
      have x3 := M3.out.1.free 1
      have x4 := M3.out.1.lt
      have y0 := M3.out.2.1.cell 0
      have y1 := M3.out.2.1.cell 1
      have y2 := M3.out.2.1.free 0
      have y3 := M3.out.2.1.free 1
      have y4 := M3.out.2.1.lt
      have M4 := Lib.hid (M3.out.set1 T3 (.pointer (some ⟨p3, 0, none⟩)) (.int .i32 l3))
      have S3 := Lib.hid (S3.out.later (same1 wb w3 (.iface T3 (.pointer (some ⟨p3, 0, none⟩))) (.int .i32 l3)))
      go_wp2_with fail
      clear x0 x1 x2 x3 x4 y0 y1 y2 y3 y4
      refine (CA.out _ M4.out.vars M4.out.2.2.1).mono ?_
      rintro e w5 ⟨T5, p5, l5, rfl, hb5, hs5⟩
      have M5 := Lib.hid (M4.out.below hb5)
      have S5 := Lib.hid hs5
      have S3 := Lib.hid (S3.out.later (Same.of_below hb5))
      clear hb5 hs5
      go_wp2_with fail
      refine (wrap33 (XB wb) _ _ _ _ _ a10 _ M5.out.vars S5.out).mono ?_
      rintro e w6 ⟨T6, p6, l6, rfl, hb6, hs6⟩
      have M6 := Lib.hid (M5.out.below hb6)
      have S6 := Lib.hid hs6
      have S3 := Lib.hid (S3.out.later (Same.of_below hb6))
      clear hb6 hs6
      go_wp2_with fail
      refine (dot39 (XB wb) _ _ _ _ _ a8 _ M6.out.vars q8 S6.out).mono ?_
      rintro e w9 ⟨T9, p9, l9, rfl, hb9, hs9⟩
      have M9 := Lib.hid (M6.out.below hb9)
      have S9 := Lib.hid hs9
      have S3 := Lib.hid (S3.out.later (Same.of_below hb9))
      clear hb9 hs9
      have M10 := Lib.hid (M9.out.set2 T9 (.pointer (some ⟨p9, 0, none⟩)) (.int .i32 l9))
      have S9 := Lib.hid (S9.out.later (same2 wb w9 (.iface T9 (.pointer (some ⟨p9, 0, none⟩))) (.int .i32 l9)))
      have S3 := Lib.hid (S3.out.later (same2 wb w9 (.iface T9 (.pointer (some ⟨p9, 0, none⟩))) (.int .i32 l9)))
      have x0 := M9.out.1.cell 0
      have x1 := M9.out.1.cell 1
      have x2 := M9.out.1.free 0
      have x3 := M9.out.1.free 1
      have x4 := M9.out.1.lt
      have y0 := M9.out.2.1.cell 0
      have y1 := M9.out.2.1.cell 1
      have y2 := M9.out.2.1.free 0
      have y3 := M9.out.2.1.free 1
      have y4 := M9.out.2.1.lt
      have K3 := Lib.hid (h40 (XB wb) _ _ _ _ _ _ S3.out)
      have K9 := Lib.hid (h40 (XB wb) _ _ _ _ _ _ S9.out)
      obtain ⟨hE, eE⟩ : ∃ h, h = (dotH hLA okA a8) := ⟨_, rfl⟩
      rw [← eE] at K3 K9
      clear eE S3 S9
      unfold hv at K3 K9
      go_wp2_with fail
      clear x0 x1 x2 x3 x4 y0 y1 y2 y3 y4
      refine (K3.out _ (Same.refl _ _)).mono ?_
      rintro e w11 ⟨rfl, hb11⟩
      have M11 := Lib.hid (M10.out.below hb11)
      have K9 := Lib.hid (K9.out.later (Same.of_below hb11))
      clear hb11
      have x0 := M11.out.1.cell 0
      have x1 := M11.out.1.cell 1
      have x4 := M11.out.1.lt
      have y0 := M11.out.2.1.cell 0
      have y1 := M11.out.2.1.cell 1
      have y4 := M11.out.2.1.lt
      go_wp2_with fail
      clear x0 x1 x4 y0 y1 y4
      refine (K9.out _ (Same.refl _ _)).mono ?_
      rintro e w12 ⟨rfl, hb12⟩
      have M12 := Lib.hid (M11.out.below hb12)
      clear hb12
      have hEE : (hE == hE) = true := by simp
      rcases hA with ⟨rfl, tA⟩ | ⟨rfl, tA⟩
      all_goals
        simp only [Bool.and_true, Bool.and_false, Bool.true_and, Bool.false_and]
        go_wp2_with fail
        go_ret
        exact ⟨rfl, below2 BB.out M12.out.2.2.1⟩
theorem walk (a0 : Int) (a1 : Int) (a2 : Nat) (a3 : Nat) (a4 : Bool) (a5 : Int) (a6 : Option Addr) (len6 cap6 : Nat) (z6 : List Int) (a7 : Option Addr) (len7 cap7 : Nat) (z7 : List Int) (a8 : ByteArray) (a9 : Bool) (a10 : Bool) (a11 : Bool) (w : World) (w0 : (Lit.int .u8 a0).wf = true) (w1 : (Lit.int .u8 a1).wf = true) (w2 : (Lit.float .f64 a2).wf = true) (w3 : (Lit.float .f64 a3).wf = true) (w5 : (Lit.int .u32 a5).wf = true) (w6 : IntRow .u16 w a6 len6 cap6 z6) (w7 : IntRow .u16 w a7 len7 cap7 z7) (w8 : a8.size ≤ maxLen) :
    Calls Try.prog 8 #[.int .u8 a0, .int .u8 a1, .float .f64 a2, .float .f64 a3, .bool a4, .int .u32 a5, .slice a6 len6 cap6, .slice a7 len7 cap7, .string a8, .bool a9, .bool a10, .bool a11] w fun e w' => e = .returned (.bool true) ∧ Below w.heap.size w w' := by
  have b0 := (bounds_u8 w0).1
  have b1 := (bounds_u8 w1).1
  have hm6 : len6 ≤ maxLen := Nat.le_trans w6.2.1 w6.2.2.1
  have hm7 : len7 ≤ maxLen := Nat.le_trans w7.2.1 w7.2.2.1
  by_cases h : len6 ≤ 524288 ∧ len7 ≤ 524288 ∧ a8.size ≤ 1048576 ∧ 2 * (len6 : Int) + 2 * (len7 : Int) + (a8.size : Int) ≤ 1048576
  · exact main a0 a1 a2 a3 a4 a5 a6 len6 cap6 z6 a7 len7 cap7 z7 a8 a9 a10 a11 w b0 b1 w6 w7 h.1 h.2.1 h.2.2.1 h.2.2.2
  · have k6 := hm6
    have k7 := hm7
    have k8 := w8
    unfold maxLen at k6 k7 k8
    have hc : 524288 < len6 ∨ (len6 ≤ 524288 ∧ 524288 < len7) ∨ (len6 ≤ 524288 ∧ len7 ≤ 524288 ∧ 1048576 < a8.size) ∨ (len6 ≤ 524288 ∧ len7 ≤ 524288 ∧ a8.size ≤ 1048576 ∧ 1048576 < 2 * (len6 : Int) + 2 * (len7 : Int) + (a8.size : Int)) := by omega
    clear h w0 w1 w2 w3 w5 w6 w7
    rcases hc with h | ⟨h, h'⟩ | ⟨h, h', h''⟩ | ⟨h, h', h'', h4⟩
    all_goals
      go_enter Try.func8, Try.ntmps8
      go_wp2_with fail
      refine (bytes_any _ _ _ _ _ _ _ _ _ _ _ _ _ _ _ _ _ hm6 hm7 w8).mono ?_
      rintro e w' ⟨⟨r, rfl⟩, rfl⟩
      cases r
      all_goals
        go_wp2_with fail
        go_ret
        exact ⟨rfl, Below.refl _ _⟩
end Go.Proofs.Ytiejadamfgbidaa.fnDuplicateCaseHashCompound
