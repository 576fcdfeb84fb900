/- The contracts of 'b3IsTree' and 'b3Child' of the package n011_37. No conditions beyond their hypotheses. -/
import Derived.Test.YtpgkbpgfiblboaaRSymC
namespace Go.Proofs.YtpgkbpgfiblboaaR.sym
open Go.ChangeShapes Go.WideShapes Go.ChangeAt Go.RowKit Go.Mine Go.Deep
set_option linter.unusedVariables false
set_option maxRecDepth 100000

/-- A row of booleans of the call's own. -/
def Us (n : Nat) (w wr : World) : Prop := Below w.heap.size w wr ∧ ∃ C, Blk wr w.heap.size C 4 ∧ C.size = n ∧ ∀ j, j < n → ∃ b : Bool, C[j]? = some (.bool b)
theorem Us.below {n : Nat} {w wr w' : World} (h : Us n w wr) (hb : Below wr.heap.size wr w') : Us n w w' := by
  obtain ⟨h1, C, h2, h3⟩ := h
  exact ⟨below2 h1 hb, C, h2.below hb, h3⟩
theorem Us.set {n : Nat} {w wr : World} (h : Us n w wr) (m : Nat) (b : Bool) : Us n w (wr.setCell ⟨w.heap.size, m, none⟩ (.bool b)) := by
  obtain ⟨h1, C, h2, h3, h4⟩ := h
  refine ⟨h1.setCell (by exact Nat.le_refl _) _, _, h2.set m (.bool b), by simpa using h3, fun j hj => ?_⟩
  rw [Array.getElem?_setIfInBounds]
  by_cases e : m = j
  · subst e; rw [if_pos rfl, if_pos (by omega)]; exact ⟨b, rfl⟩
  · rw [if_neg e]; exact h4 j hj
def Tree12 (w : World) (e : Ending) (w' : World) : Prop := (∃ r : Bool, e = .returned (.bool r)) ∧ Below w.heap.size w w'
set_option maxHeartbeats 4000000 in
theorem tree12 (a : Option Addr) (n c : Nat) (w : World) (h : NRow w a n c) (hn : n ≤ 4096) : Calls Try.prog 12 #[.slice a n c] w (Tree12 w) := by
  have H := Lib.hid h
  have hmk := run_make_row' 41 4 (.bool false) 1 Try.underlying41 (by kernel_rfl) rfl .i64 .i64 n (by omega) (by omega)
  have U0 : Hid (Us n w (w.alloc (.cells (madeCells #[.bool false] n) 4))) := by
    refine ⟨(Below.refl _ _).alloc (Nat.le_refl _) _, _, Blk.new _ _ _, by simp [size_madeCells], fun j hj => ⟨false, ?_⟩⟩
    simp [madeCells, hj, Nat.mod_one]
  clear h
  go_enter Try.func12, Try.ntmps12
  go_wp2
  go_loopw [5] (fun i wr => ∃ k : Nat, k ≤ n ∧ i = .int .i64 k ∧ Hid (Us n w wr)) (fun i _ => n - (intOf i).toNat)
  case atStart => exact ⟨0, Nat.zero_le _, rfl, U0⟩
  case round =>
    obtain ⟨k, hk, rfl, hU⟩ := hrel
    clear hmk U0
    by_cases hlt : k < n
    · obtain ⟨b, off, eb, hb, hN⟩ := (H.out.below hU.out.1).at hlt
      subst eb
      obtain ⟨kk, op, ch, x, y, z, f, h1, h2, h3, h4, h5, h6, c0, c1, c2, c3, c4, c5, c6⟩ := hN
      clear h1 h2 h3 h4 h5 h6 c1 c2 c3 c4 c5 c6
      have A := Lib.hid fun w => arity25 kk w
      go_wp2_with (first | (go_at_call 25; refine (A.out _).mono ?_; rintro e w' ⟨⟨r, hr, rfl⟩, rfl⟩))
      obtain ⟨wo, rfl⟩ : ∃ wo : World, wo = wr := ⟨_, rfl⟩
      clear c0 hb
      go_loopw [7] (fun i wr => ∃ j : Nat, j ≤ r ∧ i = .int .i64 j ∧ Hid (Us n w wr)) (fun i _ => r - (intOf i).toNat)
      case atStart => exact ⟨0, Nat.zero_le _, rfl, hU⟩
      case round =>
        obtain ⟨j, hj, rfl, hU2⟩ := hrel
        clear hU
        by_cases hlt2 : j < r
        · obtain ⟨b', off', eb, hb, hN⟩ := (H.out.below hU2.out.1).at hlt
          obtain rfl : b = b' := by injection eb with e; injection e
          obtain rfl : off = off' := by injection eb with e; injection e
          obtain ⟨kk, op, ch, x, y, z, f, h1, h2, h3, h4, h5, h6, c0, c1, c2, c3, c4, c5, c6⟩ := hN
          have C := Lib.hid fun w => child26 kk op ch x y z (j : Int) f w
          have H4 := Lib.hid (And.intro h4 (And.intro h5 h6))
          clear eb h1 h2 h3 h4 h5 h6
          go_wp2_with fail
          refine (C.out _).mono ?_
          rintro e w2 ⟨cc, rfl, hcc, hb2⟩
          have hc0 : -2147483648 ≤ cc ∧ cc ≤ 2147483647 := by
            obtain ⟨h4, h5, h6⟩ := H4.out
            rcases hcc with rfl | rfl | rfl <;> assumption
          obtain ⟨hc0, hc1⟩ := hc0
          have U2 := Lib.hid (hU2.out.below hb2)
          clear hcc hb2 hU2 c0 c1 c2 c3 c4 c5 c6 hb H4
          by_cases hok : (k : Int) < cc ∧ cc < (n : Int)
          · obtain ⟨m, rfl⟩ : ∃ m : Nat, cc = (m : Int) := ⟨cc.toNat, by omega⟩
            obtain ⟨hk1, hm1⟩ := hok
            have hmn : m < n := by omega
            have K : Hid (∀ w, Calls Try.prog 27 #[.int .i64 (n : Int), .int .i64 (k : Int), .int .i32 (m : Int)] w fun e w' => e = .returned (.bool true) ∧ w = w') := fun w => by
              have := ok27 n k (m : Int) w hn hlt hc0 hc1
              rw [decide_eq_true (⟨hk1, hm1⟩ : (k : Int) < (m : Int) ∧ (m : Int) < (n : Int))] at this
              exact this
            obtain ⟨hbu, C4, hblk, hsz, hall⟩ := U2.out
            obtain ⟨bv, hbv⟩ := hall m hmn
            have d0 : w2.cell? ⟨w.heap.size, m, none⟩ = some (.bool bv) := (hblk.cell m).trans hbv
            have d1 := hblk.free m
            have d2 := hblk.lt
            have HB := Lib.hid hbu
            have US := Lib.hid (U2.out.set m true)
            clear hbu hblk hsz hall hbv
            cases bv
            · go_wp2_with (first | (go_at_call 27; refine (K.out _).mono ?_; rintro e w' ⟨rfl, rfl⟩))
              go_roundw
              case rel => exact ⟨j + 1, by omega, by go_num, US⟩
              case measure => simp [intOf]; omega
            · go_wp2_with (first | (go_at_call 27; refine (K.out _).mono ?_; rintro e w' ⟨rfl, rfl⟩))
              go_ret
              exact ⟨⟨_, rfl⟩, HB.out⟩
          · have K : Hid (∀ w, Calls Try.prog 27 #[.int .i64 (n : Int), .int .i64 (k : Int), .int .i32 cc] w fun e w' => e = .returned (.bool false) ∧ w = w') := fun w => by
              have := ok27 n k cc w hn hlt hc0 hc1
              rw [decide_eq_false hok] at this
              exact this
            clear hok
            go_wp2_with (first | (go_at_call 27; refine (K.out _).mono ?_; rintro e w' ⟨rfl, rfl⟩))
            go_roundw
            case rel => exact ⟨j + 1, by omega, by go_num, U2⟩
            case measure => simp [intOf]; omega
        · obtain rfl : j = r := by omega
          go_wp2_with fail
          go_roundw
          case rel => exact ⟨k + 1, by omega, by go_num, hU2⟩
          case measure => simp [intOf]; omega
    · obtain rfl : k = n := by omega
      go_wp2_with fail
      go_ret
      exact ⟨⟨_, rfl⟩, hU.out.1⟩

/-- The built expressions behind place i: two cells each. -/
def ERow (w : World) (R n i : Nat) : Prop := ∀ j, i < j → j < n → ∃ T p, w.cell? ⟨R, j * 2, none⟩ = some (.iface T (.pointer (some ⟨p, 0, none⟩))) ∧ w.cell? ⟨R, j * 2 + 1, none⟩ = some (.int .i32 0)
theorem ERow.below {w w' : World} {R n i : Nat} (h : ERow w R n i) (hb : Below w.heap.size w w') : ERow w' R n i := fun j h1 h2 => by
  obtain ⟨T, p, a, b⟩ := h j h1 h2
  exact ⟨T, p, bcell hb a, bcell hb b⟩
/-- The child's data, whatever later world it is asked in. -/
@[reducible] def Kid (w : World) (R n i : Nat) (c : Int) (D : Value) : Prop := ∀ w', Below w.heap.size w w' → Calls Try.prog 28 #[.int .i64 (n : Int), .slice (some ⟨R, 0, none⟩) n n, .int .i64 (i : Int), .int .i32 c] w' fun e w'' => e = .returned (.agg #[D, .int .i32 0]) ∧ Below w'.heap.size w' w''
set_option maxHeartbeats 1000000 in
theorem child28 (w : World) (R n i : Nat) (c : Int) (hn : n ≤ 4096) (hi : i < n) (h0 : -2147483648 ≤ c) (h1 : c ≤ 2147483647) (h : ERow w R n i) : ∃ D, Kid w R n i c D := by
  by_cases hok : (i : Int) < c ∧ c < (n : Int)
  · obtain ⟨m, rfl⟩ : ∃ m : Nat, c = (m : Int) := ⟨c.toNat, by omega⟩
    obtain ⟨h2, h3⟩ := hok
    obtain ⟨T, p, ca, cb⟩ := h m (by omega) (by omega)
    refine ⟨.iface T (.pointer (some ⟨p, 0, none⟩)), fun w' hb => ?_⟩
    have da := bcell hb ca
    have db := bcell hb cb
    have hl := cell_lt da
    have hl1 := Nat.lt_succ_of_lt hl
    have hmn : m < n := by omega
    have K : Hid (∀ w, Calls Try.prog 27 #[.int .i64 (n : Int), .int .i64 (i : Int), .int .i32 (m : Int)] w fun e w' => e = .returned (.bool true) ∧ w = w') := fun w => by
      have := ok27 n i (m : Int) w hn hi h0 h1
      rw [decide_eq_true (⟨h2, h3⟩ : (i : Int) < (m : Int) ∧ (m : Int) < (n : Int))] at this
      exact this
    clear hb h ca cb
    go_enter Try.func28, Try.ntmps28
    go_wp2_with (first | (go_at_call 27; refine (K.out _).mono ?_; rintro e w' ⟨rfl, rfl⟩))
    refine bodyPost_ret (v := .agg #[_, .int .i32 0]) (by simp [results, Try.results28, go_sem]; try (first | exact ⟨rfl, rfl⟩ | rfl)) rfl ⟨rfl, ?_⟩
    go_light
    repeat (first | with_reducible exact Below.refl _ _ | with_reducible refine Below.drew ?_ | with_reducible refine Below.alloc ?_ (by simp <;> omega) _ | with_reducible refine Below.setCell ?_ (by simp <;> omega) _)
  · refine ⟨.nilIface, fun w' hb => ?_⟩
    have K : Hid (∀ w, Calls Try.prog 27 #[.int .i64 (n : Int), .int .i64 (i : Int), .int .i32 c] w fun e w' => e = .returned (.bool false) ∧ w = w') := fun w => by
      have := ok27 n i c w hn hi h0 h1
      rw [decide_eq_false hok] at this
      exact this
    clear hb h hok
    go_enter Try.func28, Try.ntmps28
    go_wp2_with (first | (go_at_call 27; refine (K.out _).mono ?_; rintro e w' ⟨rfl, rfl⟩))
    refine bodyPost_ret (v := .agg #[_, .int .i32 0]) (by simp [results, Try.results28, go_sem]; try (first | exact ⟨rfl, rfl⟩ | rfl)) rfl ⟨rfl, ?_⟩
    go_light
    repeat (first | with_reducible exact Below.refl _ _ | with_reducible refine Below.drew ?_ | with_reducible refine Below.alloc ?_ (by simp <;> omega) _ | with_reducible refine Below.setCell ?_ (by simp <;> omega) _)
end Go.Proofs.YtpgkbpgfiblboaaR.sym
