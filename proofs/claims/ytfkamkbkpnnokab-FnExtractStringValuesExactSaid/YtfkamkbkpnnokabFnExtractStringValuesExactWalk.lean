/- The walk of the law 'FnExtractStringValuesExact': it returns true and leaves what was there as it was. No conditions. -/
import Derived.Test.YtfkamkbkpnnokabRows
import Derived.Test.YtfkamkbkpnnokabLib
import Derived.Test.YtfkamkbkpnnokabClones
import Derived.Test.YtfkamkbkpnnokabWrap27
namespace Go.Proofs.Ytfkamkbkpnnokab.fnExtractStringValuesExact
open Go.ChangeShapes Go.WideShapes Go.ChangeAt Go.RowKit Go.Mine extract
set_option linter.unusedVariables false
set_option maxRecDepth 100000

theorem bytes_any (a0 : Option Addr) (l0 c0 : Nat) (b1 : Bool) (x2 : Nat) (a3 : Option Addr) (l3 c3 : Nat) (a4 : Option Addr) (l4 c4 : Nat) (b5 : Bool) (x6 : Nat) (a7 : Option Addr) (l7 c7 : Nat) (w : World) (h0 : l0 ≤ maxLen) (h3 : l3 ≤ maxLen) (h4 : l4 ≤ maxLen) (h7 : l7 ≤ maxLen) :
    Calls Try.prog 24 #[.slice a0 l0 c0, .bool b1, .float .f64 x2, .slice a3 l3 c3, .slice a4 l4 c4, .bool b5, .float .f64 x6, .slice a7 l7 c7] w fun e w' => (∃ r : Bool, e = .returned (.bool r)) ∧ w = w' := by
  unfold maxLen at h0 h3 h4 h7
  go_enter Try.func24, Try.ntmps24
  go_wp2
  all_goals
    go_ret
    exact ⟨⟨_, rfl⟩, rfl⟩

set_option maxHeartbeats 2000000 in
theorem walk (a0 : Option Addr) (len0 cap0 : Nat) (z0 : List Int) (a1 : Bool) (a2 : Nat) (a3 : Option Addr) (len3 cap3 : Nat) (z3 : List Bool) (a4 : Option Addr) (len4 cap4 : Nat) (z4 : List Int) (a5 : Bool) (a6 : Nat) (a7 : Option Addr) (len7 cap7 : Nat) (z7 : List Bool) (w : World) (w0 : IntRow .u16 w a0 len0 cap0 z0) (w2 : (Lit.float .f64 a2).wf = true) (w3 : BoolRow w a3 len3 cap3 z3) (w4 : IntRow .u16 w a4 len4 cap4 z4) (w6 : (Lit.float .f64 a6).wf = true) (w7 : BoolRow w a7 len7 cap7 z7) :
    Calls Try.prog 6 #[.slice a0 len0 cap0, .bool a1, .float .f64 a2, .slice a3 len3 cap3, .slice a4 len4 cap4, .bool a5, .float .f64 a6, .slice a7 len7 cap7] w fun e w' => e = .returned (.bool true) ∧ Below w.heap.size w w' := by
  have hl0 : len0 ≤ maxLen := Nat.le_trans w0.2.1 w0.2.2.1
  have hl3 : len3 ≤ maxLen := Nat.le_trans w3.2.1 w3.2.2.1
  have hl4 : len4 ≤ maxLen := Nat.le_trans w4.2.1 w4.2.2.1
  have hl7 : len7 ≤ maxLen := Nat.le_trans w7.2.1 w7.2.2.1
  have m0 := hl0
  have m3 := hl3
  have m4 := hl4
  have m7 := hl7
  unfold maxLen at m0 m3 m4 m7
  have H0 := Lib.hid w0
  have H3 := Lib.hid w3
  have H4 := Lib.hid w4
  have H7 := Lib.hid w7
  clear w0 w2 w3 w4 w6 w7
  go_enter Try.func6, Try.ntmps6
  go_wp2_with fail
  refine (bytes_any _ _ _ _ _ _ _ _ _ _ _ _ _ _ _ _ _ hl0 hl3 hl4 hl7).mono ?_
  rintro e w' ⟨⟨r, rfl⟩, rfl⟩
  clear hl0 hl3 hl4 hl7
  cases r with
  | false =>
    go_wp2_with fail
    go_ret
    exact ⟨rfl, Below.refl _ _⟩
  | true =>
    go_wp2_with fail
    all_goals try (go_ret; exact ⟨rfl, Below.refl _ _⟩)
    have q0 : len0 ≤ 131072 := by go_light; omega
    have q4 : len4 ≤ 131072 := by go_light; omega
    have q3 : len3 ≤ 4096 := by go_light; omega
    have q7 : len7 ≤ 4096 := by go_light; omega
    refine (clone25 _ _ _ z0 _ H0.out (by omega)).mono ?_
    rintro e w1 ⟨b0, rfl, r0, y1, y2, hb1⟩
    have R0 := Lib.hid r0
    have B1 := Lib.hid hb1
    clear r0 y1 y2 hb1
    go_wp2_with fail
    refine (clone25 _ _ _ z4 _ (H4.out.below B1.out) (by omega)).mono ?_
    rintro e w2 ⟨b4, rfl, r4, y1, y2, hb2⟩
    have R4 := Lib.hid r4
    have R02 := Lib.hid (R0.out.below hb2)
    have B2 := Lib.hid (below2 B1.out hb2)
    clear r4 y1 y2 hb2 R0
    go_wp2_with fail
    refine (clone26 _ _ _ z3 _ (H3.out.below B2.out) (by omega)).mono ?_
    rintro e w3 ⟨b3, rfl, r3, y1, y2, hb3⟩
    have R3 := Lib.hid r3
    have Y3 := Lib.hid y2
    have R03 := Lib.hid (R02.out.below hb3)
    have R43 := Lib.hid (R4.out.below hb3)
    have B3 := Lib.hid (below2 B2.out hb3)
    clear r3 y1 y2 hb3 R02 R4
    go_wp2_with fail
    refine (clone26 _ _ _ z7 _ (H7.out.below B3.out) (by omega)).mono ?_
    rintro e w4 ⟨b7, rfl, r7, y1, y2, hb4⟩
    have R7 := Lib.hid r7
    have Y7 : Hid (∀ x, b7 = some x → x.block < w4.heap.size) := fun x hx => (y2 x hx).2.2.2
    have Y3' : Hid (∀ x, b3 = some x → x.block < w4.heap.size) := fun x hx => Nat.lt_of_lt_of_le (Y3.out x hx).2.2.2 hb4.size
    have R04 := Lib.hid (R03.out.below hb4)
    have R44 := Lib.hid (R43.out.below hb4)
    have R34 := Lib.hid (R3.out.below hb4)
    have B4 := Lib.hid (below2 B3.out hb4)
    clear r7 y1 y2 hb4 R03 R43 R3 Y3
    go_wp2_with fail
    refine (leaf28 _ _ _ _ _ _).mono ?_
    rintro e w5 ⟨T1, v1, rfl, hb5, hs1⟩
    have R35 := Lib.hid (R34.out.below hb5)
    have Y35 : Hid (∀ x, b3 = some x → x.block < w5.heap.size) := fun x hx => Nat.lt_of_lt_of_le (Y3'.out x hx) hb5.size
    have S1 := Lib.hid hs1
    have B5 := Lib.hid hb5
    clear hs1 hb5
    go_wp2_with fail
    refine (wrap27 _ _ _ _ _ _ _ _ z3 _ R35.out (by omega) Y35.out S1.out).mono ?_
    rintro e w6 ⟨T2, v2, rfl, hb6, hs2⟩
    have B46 := Lib.hid (below2 B5.out hb6)
    have S2 := Lib.hid hs2
    have B6 := Lib.hid (below2 B4.out B46.out)
    clear hs2 hb6 R35 Y35 S1 B5
    have hal : ∀ o, Below w6.heap.size w6 (w6.alloc o) := fun o => (Below.refl _ _).alloc (Nat.le_refl _) _
    have HAL := Lib.hid hal
    clear hal
    go_wp2_with fail
    refine (leaf28 _ _ _ _ _ _).mono ?_
    rintro e w7 ⟨T3, v3, rfl, hb7, hs3⟩
    have B67 := Lib.hid ((HAL.out _).trans (hb7.mono (by simp)))
    have c0 : w7.cell? ⟨w6.heap.size, 0, none⟩ = some (.iface T2 v2) := (hb7.cell (p := ⟨w6.heap.size, 0, none⟩) (by simp)).trans (by simp)
    have c1 : w7.cell? ⟨w6.heap.size, 1, none⟩ = some (.int .i32 0) := (hb7.cell (p := ⟨w6.heap.size, 1, none⟩) (by simp)).trans (by simp)
    have S3 := Lib.hid hs3
    have Y77 : Hid (∀ x, b7 = some x → x.block < w7.heap.size) := fun x hx => Nat.lt_of_lt_of_le (Y7.out x hx) (Nat.le_trans B46.out.size B67.out.size)
    have R77 := Lib.hid (R7.out.below (below2 B46.out B67.out))
    clear hb7 hs3
    go_wp2_with fail
    refine (wrap27 _ _ _ _ _ _ _ _ z7 _ R77.out (by omega) Y77.out S3.out).mono ?_
    rintro e w8 ⟨T4, v4, rfl, hb8, hs4⟩
    have S4 := Lib.hid hs4
    have B68 := Lib.hid (below2 B67.out hb8)
    have d0 := bcell hb8 c0
    have d1 := bcell hb8 c1
    have hlt : w6.heap.size < w8.heap.size := cell_lt d0
    clear hb8 hs4 c0 c1 S3 Y77 R77
    have hal8 : ∀ o, Below w8.heap.size w8 (w8.alloc o) := fun o => (Below.refl _ _).alloc (Nat.le_refl _) _
    have HAL8 := Lib.hid hal8
    clear hal8
    have hnil0 := fun w => Lib.run_eql_slice_nil (P := Try.prog) w 39 85 none 0 0 0 0 Try.underlying39
    go_wp2_with fail
    refine (both29 _ _ _ _ _ _ _ _ _ _ _ _ _ (S2.out.later (Same.of_below (below2 B68.out (HAL8.out _)))) (S4.out.later (Same.of_below (HAL8.out _)))).mono ?_
    rintro e w9 ⟨rfl, hb9⟩
    have B89 := Lib.hid ((HAL8.out _).trans (hb9.mono (by simp)))
    have B9 := Lib.hid (below3 B6.out B68.out B89.out)
    have B49 := Lib.hid (below3 B46.out B68.out B89.out)
    have R09 := Lib.hid (R04.out.below B49.out)
    have R49 := Lib.hid (R44.out.below B49.out)
    clear hb9
    cases a1
    · have G : Hid (both b0 len0 len0 false b4 len4 len4 a5 = .tuple #[.slice none 0 0, .slice none 0 0, .bool false]) := rfl
      rw [G.out]
      go_wp2_with fail
      go_ret
      exact ⟨rfl, B9.out⟩
    · cases a5
      · have G : Hid (both b0 len0 len0 true b4 len4 len4 false = .tuple #[.slice none 0 0, .slice none 0 0, .bool false]) := rfl
        rw [G.out]
        go_wp2_with fail
        go_ret
        exact ⟨rfl, B9.out⟩
      · have G : Hid (both b0 len0 len0 true b4 len4 len4 true = .tuple #[.slice b0 len0 len0, .slice b4 len4 len4, .bool true]) := rfl
        rw [G.out]
        go_wp2_with fail
        refine (same30 _ _ _ z0 _ R09.out).mono ?_
        rintro e w' ⟨rfl, n1, rfl⟩
        go_wp2_with fail
        refine (same30 _ _ _ z4 _ (R49.out.below (below_drewN' _))).mono ?_
        rintro e w' ⟨rfl, n2, rfl⟩
        go_wp2_with fail
        go_ret
        exact ⟨rfl, below_drewN B9.out _⟩
end Go.Proofs.Ytfkamkbkpnnokab.fnExtractStringValuesExact
