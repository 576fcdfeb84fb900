/- The walk of the law 'FnIsInt32OrUint32MatchesStackModel': it returns true and leaves what was there as it was. No conditions. -/
import Derived.Test.YtpgkbpgfiblboaaRRows
import Derived.Test.YtpgkbpgfiblboaaRLib
import Derived.Test.YtpgkbpgfiblboaaRClones
import Derived.Test.YtpgkbpgfiblboaaRIntD
import Derived.Outline
namespace Go.Proofs.YtpgkbpgfiblboaaR.fnIsInt32OrUint32MatchesStackModel
open Go.ChangeShapes Go.WideShapes Go.ChangeAt Go.RowKit Go.Mine i32
set_option linter.unusedVariables false
set_option maxRecDepth 100000

theorem bytes_any (a0 : Option Addr) (l0 c0 : Nat) (w : World) (h0 : l0 ≤ maxLen) :
    Calls Try.prog 6 #[.slice a0 l0 c0] w fun e w' => (∃ r : Bool, e = .returned (.bool r)) ∧ w = w' := by
  unfold maxLen at h0
  go_enter Try.func6, Try.ntmps6
  go_wp2
  all_goals
    go_ret
    exact ⟨⟨_, rfl⟩, rfl⟩
theorem zz9 (t : Tr) (w : World) (B T p : Nat) (h : rep w B t T p) : Calls Try.prog 9 #[.iface T (.pointer (some ⟨p, 0, none⟩))] w fun e w' => e = .returned (.bool t.ev) ∧ w = w' := by
  have H := Lib.hid (is23 t w B T p h)
  clear h
  go_enter Try.func9, Try.ntmps9
  go_wp2_with fail
  refine H.out.mono ?_
  rintro e w' ⟨rfl, rfl⟩
  go_wp2_with fail
  go_ret
  exact ⟨rfl, rfl⟩
set_option maxHeartbeats 1000000 in
theorem walk (a0 : Option Addr) (len0 cap0 : Nat) (z0 : List Int) (w : World) (w0 : IntRow .u8 w a0 len0 cap0 z0) :
    Calls Try.prog 3 #[.slice a0 len0 cap0] w fun e w' => e = .returned (.bool true) ∧ Below w.heap.size w w' := by
  have hm : len0 ≤ maxLen := Nat.le_trans w0.2.1 w0.2.2.1
  have m0 := hm
  unfold maxLen at m0
  have H0 := Lib.hid w0
  clear w0
  go_enter Try.func3, Try.ntmps3
  go_wp2_with fail
  refine (bytes_any _ _ _ _ hm).mono ?_
  rintro e w' ⟨⟨r, rfl⟩, rfl⟩
  cases r with
  | false =>
    go_wp2_with fail
    go_ret
    exact ⟨rfl, Below.refl _ _⟩
  | true =>
    go_wp2_with fail
    all_goals try (go_ret; exact ⟨rfl, Below.refl _ _⟩)
    have q0 : len0 ≤ 65536 := by go_light; omega
    refine (clone7 _ _ _ z0 _ H0.out (by omega)).mono ?_
    rintro e wa ⟨u0, rfl, ra, y1, y2, hba⟩
    have RA := Lib.hid ra
    have BA := Lib.hid hba
    clear ra y1 y2 hba
    go_wp2_with fail
    refine (build8 u0 len0 len0 z0 q0 (len0 + 1) 0 _ (by omega) (Nat.zero_le _) RA.out).mono ?_
    rintro e wb ⟨t, j, T, p, rfl, hp, hj, ⟨_, hr⟩, hbb⟩
    have HP := Lib.hid hp
    have HR := Lib.hid (hr.alloc (.cells #[.iface T (.pointer (some ⟨p, 0, none⟩)), .int .i32 0] 30))
    have HB := Lib.hid (below2 BA.out hbb)
    have RB := Lib.hid ((RA.out.below hbb).below ((Below.refl _ _).alloc (Nat.le_refl _) (.cells #[.iface T (.pointer (some ⟨p, 0, none⟩)), .int .i32 0] 30)))
    have hmt : ∀ b : Bool, (b == b) = true := fun b => by cases b <;> rfl
    clear hp hr hbb
    go_wp2_with fail
    refine (zz9 t _ _ _ _ HR.out).mono ?_
    rintro e w' ⟨rfl, rfl⟩
    go_wp2_with fail
    refine (stack10 u0 len0 len0 z0 t j _ q0 RB.out HP.out).mono ?_
    rintro e wd ⟨rfl, hbd⟩
    have HD := Lib.hid (below2 (bal HB.out _) hbd)
    clear hbd hmt
    obtain ⟨b, hb⟩ : ∃ b, b = t.ev := ⟨_, rfl⟩
    rw [← hb]
    clear hb
    cases b
    all_goals
      go_wp2_with fail
      go_ret
      exact ⟨rfl, HD.out⟩
end Go.Proofs.YtpgkbpgfiblboaaR.fnIsInt32OrUint32MatchesStackModel
