/- The walk of the law 'FnEDotSameFlagsIsEqualFlagKey': it returns true and leaves what was there as it was. No conditions. -/
import Derived.Test.YtfkamkbkpnnokaaRows
import Derived.Test.YtfkamkbkpnnokaaLib
import Derived.WalkLawsBesides
import Derived.WalkSpells
import Derived.BigQuiet
import Derived.Deep.QuietTactic
import Derived.Laws.BitsAllLaws
namespace Go.Proofs.Ytfkamkbkpnnokaa.fnEDotSameFlagsIsEqualFlagKey
open Go.ChangeShapes Go.WideShapes Go.ChangeAt Go.RowKit Go.Mine
set_option linter.unusedVariables false

def same (o1 : Int) (r1 u1 s1 : Bool) (o2 : Int) (r2 u2 s2 : Bool) : Bool := o1 == o2 && r1 == r2 && u1 == u2 && s1 == s2

theorem has_any (p q : Nat) (o1 : Int) (r1 u1 s1 : Bool) (o2 : Int) (r2 u2 s2 : Bool) (w : World)
    (c1 : w.cell? ⟨p, 4, none⟩ = some (.int .u8 o1)) (c2 : w.cell? ⟨p, 5, none⟩ = some (.bool r1)) (c3 : w.cell? ⟨p, 6, none⟩ = some (.bool u1)) (c4 : w.cell? ⟨p, 7, none⟩ = some (.bool s1))
    (e1 : w.cell? ⟨q, 4, none⟩ = some (.int .u8 o2)) (e2 : w.cell? ⟨q, 5, none⟩ = some (.bool r2)) (e3 : w.cell? ⟨q, 6, none⟩ = some (.bool u2)) (e4 : w.cell? ⟨q, 7, none⟩ = some (.bool s2)) :
    Calls Try.prog 19 #[.pointer (some ⟨p, 0, none⟩), .pointer (some ⟨q, 0, none⟩)] w fun e w' => e = .returned (.bool (same o1 r1 u1 s1 o2 r2 u2 s2)) ∧ ∃ n, w' = w.drewN n := by
  by_cases h1 : (o1 == o2) = true
  · by_cases h2 : (r1 == r2) = true
    · by_cases h3 : (u1 == u2) = true
      · go_enter Try.func19, Try.ntmps19
        go_wp2
        go_quiet (fail)
        go_wp2
        go_ret
        exact ⟨ret_bool2 (by simp [same, h1, h2, h3]), _, rfl⟩
      · have h3 : (u1 == u2) = false := by simpa using h3
        go_enter Try.func19, Try.ntmps19
        go_wp2
        go_quiet (fail)
        go_wp2
        go_ret
        exact ⟨ret_bool2 (by simp [same, h1, h2, h3]), _, rfl⟩
    · have h2 : (r1 == r2) = false := by simpa using h2
      go_enter Try.func19, Try.ntmps19
      go_wp2
      go_quiet (fail)
      go_wp2
      go_ret
      exact ⟨ret_bool2 (by simp [same, h1, h2]), _, rfl⟩
  · have h1 : (o1 == o2) = false := by simpa using h1
    go_enter Try.func19, Try.ntmps19
    go_wp2
    go_quiet (fail)
    go_wp2
    go_ret
    exact ⟨ret_bool2 (by simp [same, h1]), _, rfl⟩

def dot (o : Int) (nm : ByteArray) (r u s : Bool) : Obj := .cells #[Value.nilIface, Value.int IntKind.i32 0, Value.string nm, Value.int IntKind.i32 0, Value.int IntKind.u8 o, Value.bool r, Value.bool u, Value.bool s] 52

theorem mk_any (o : Int) (nm : ByteArray) (r u s : Bool) (w : World) : Calls Try.prog 18 #[.int .u8 o, .string nm, .bool r, .bool u, .bool s] w fun e w' => e = .returned (.pointer (some ⟨w.heap.size, 0, none⟩)) ∧ w' = w.alloc (dot o nm r u s) := by
  go_enter Try.func18, Try.ntmps18
  go_wp2
  go_ret
  exact ⟨rfl, rfl⟩

theorem or_step (o : Int) (c d e : Nat) (h : 0 ≤ o ∧ o ≤ 255) (hc : c < 256) (hd : d < 256) (he : c ||| d = e) : bits .or .u32 (o * 256 + c) d = o * 256 + e := by
  obtain ⟨n, rfl⟩ := Int.eq_ofNat_of_zero_le h.1
  have hn : n ≤ 255 := by omega
  have e1 : ((n : Int) * 256 + c) = ((2 ^ 8 * n + c : Nat) : Int) := by omega
  rw [e1, u32_or_nat _ _ (by omega) (by omega), Nat.two_pow_add_eq_or_of_lt (by omega), Nat.or_assoc, he, ← Nat.two_pow_add_eq_or_of_lt (by rw [← he]; exact Nat.or_lt_two_pow (n := 8) (by omega) (by omega))]
  omega
theorem or_first (o : Int) (d : Nat) (h : 0 ≤ o ∧ o ≤ 255) (hd : d < 256) : bits .or .u32 (o * 256) d = o * 256 + d := by
  have := or_step o 0 d d h (by omega) hd (Nat.zero_or _)
  simpa using this

def b1 (b : Bool) (n : Int) : Int := if b then n else 0
def key (o : Int) (r u s : Bool) : Int := o * 256 + (b1 r 1 + b1 u 2 + b1 s 4)

theorem key_any (o : Int) (r u s : Bool) (w : World) (h : 0 ≤ o ∧ o ≤ 255) : Calls Try.prog 20 #[.int .u8 o, .bool r, .bool u, .bool s] w fun e w' => e = .returned (.int .u32 (key o r u s)) ∧ w = w' := by
  have q1 := Lib.hid (or_first o 1 h (by omega))
  have q2 := Lib.hid (or_first o 2 h (by omega))
  have q4 := Lib.hid (or_first o 4 h (by omega))
  have q12 := Lib.hid (or_step o 1 2 3 h (by omega) (by omega) rfl)
  have q14 := Lib.hid (or_step o 1 4 5 h (by omega) (by omega) rfl)
  have q24 := Lib.hid (or_step o 2 4 6 h (by omega) (by omega) rfl)
  have q34 := Lib.hid (or_step o 3 4 7 h (by omega) (by omega) rfl)
  cases r <;> cases u <;> cases s
  all_goals
    go_enter Try.func20, Try.ntmps20
    go_wp2
    go_ret
    refine ⟨ret_int ?_, rfl⟩
    have r1 : bits .or .u32 (o * 256) 1 = o * 256 + 1 := q1.out
    have r2 : bits .or .u32 (o * 256) 2 = o * 256 + 2 := q2.out
    have r4 : bits .or .u32 (o * 256) 4 = o * 256 + 4 := q4.out
    have r12 : bits .or .u32 (o * 256 + 1) 2 = o * 256 + 3 := q12.out
    have r14 : bits .or .u32 (o * 256 + 1) 4 = o * 256 + 5 := q14.out
    have r24 : bits .or .u32 (o * 256 + 2) 4 = o * 256 + 6 := q24.out
    have r34 : bits .or .u32 (o * 256 + 3) 4 = o * 256 + 7 := q34.out
    simp [key, b1, r1, r2, r4, r12, r14, r24, r34]

theorem key_same (o1 : Int) (r1 u1 s1 : Bool) (o2 : Int) (r2 u2 s2 : Bool) : (same o1 r1 u1 s1 o2 r2 u2 s2 == (key o1 r1 u1 s1 == key o2 r2 u2 s2)) = true := by
  rw [beq_iff_eq, Bool.eq_iff_iff]
  cases r1 <;> cases u1 <;> cases s1 <;> cases r2 <;> cases u2 <;> cases s2 <;> simp [same, key, b1] <;> omega

theorem bytes_any (a0 : Int) (a1 : ByteArray) (a2 : Bool) (a3 : Bool) (a4 : Bool) (a5 : Int) (a6 : ByteArray) (a7 : Bool) (a8 : Bool) (a9 : Bool) (w : World) (ha : a1.size ≤ maxLen) (hb : a6.size ≤ maxLen) :
    Calls Try.prog 17 #[.int .u8 a0, .string a1, .bool a2, .bool a3, .bool a4, .int .u8 a5, .string a6, .bool a7, .bool a8, .bool a9] w fun e w' => (∃ r : Bool, e = .returned (.bool r)) ∧ w = w' := by
  unfold maxLen at ha hb
  go_enter Try.func17, Try.ntmps17
  go_wp2
  all_goals
    go_ret
    exact ⟨⟨_, rfl⟩, rfl⟩

theorem walk (a0 : Int) (a1 : ByteArray) (a2 : Bool) (a3 : Bool) (a4 : Bool) (a5 : Int) (a6 : ByteArray) (a7 : Bool) (a8 : Bool) (a9 : Bool) (w : World) (w0 : (Lit.int .u8 a0).wf = true) (w1 : a1.size ≤ maxLen) (w5 : (Lit.int .u8 a5).wf = true) (w6 : a6.size ≤ maxLen) :
    Calls Try.prog 6 #[.int .u8 a0, .string a1, .bool a2, .bool a3, .bool a4, .int .u8 a5, .string a6, .bool a7, .bool a8, .bool a9] w fun e w' => e = .returned (.bool true) ∧ Below w.heap.size w w' := by
  have s0 := w1
  have s1 := w6
  have hb0 := bounds_u8 w0
  have hb5 := bounds_u8 w5
  unfold maxLen at w1 w6
  go_enter Try.func6, Try.ntmps6
  go_wp2_with fail
  refine (bytes_any _ a1 _ _ _ _ a6 _ _ _ _ s0 s1).mono ?_
  rintro e w' ⟨⟨r, rfl⟩, rfl⟩
  cases r with
  | false =>
    go_wp2_with fail
    go_ret
    exact ⟨rfl, Below.refl _ _⟩
  | true =>
    go_wp2_with fail
    all_goals try (go_ret; exact ⟨rfl, Below.refl _ _⟩)
    refine (mk_any _ _ _ _ _ _).mono ?_
    rintro e w' ⟨rfl, rfl⟩
    go_wp2_with fail
    refine (mk_any _ _ _ _ _ _).mono ?_
    rintro e w' ⟨rfl, rfl⟩
    go_wp2_with fail
    refine (has_any _ _ a0 a2 a3 a4 a5 a7 a8 a9 _ ?_ ?_ ?_ ?_ ?_ ?_ ?_ ?_).mono ?_
    rotate_left 8
    · rintro e w' ⟨rfl, n, rfl⟩
      go_wp2_with fail
      refine (key_any _ _ _ _ _ hb0).mono ?_
      rintro e w' ⟨rfl, rfl⟩
      go_wp2_with fail
      refine (key_any _ _ _ _ _ hb5).mono ?_
      rintro e w' ⟨rfl, rfl⟩
      go_wp2_with fail
      go_ret
      go_light
      exact ⟨ret_bool (key_same _ _ _ _ _ _ _ _), below_drewN (((Below.refl _ _).alloc (Nat.le_refl _) _).alloc (by simp) _) n⟩
    all_goals (go_light; unfold dot; go_simp)
end Go.Proofs.Ytfkamkbkpnnokaa.fnEDotSameFlagsIsEqualFlagKey
