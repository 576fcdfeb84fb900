/- The walk of the law 'FnStringCompareUCS2Antisymmetric': it returns true and leaves what was there as it was. No conditions. -/
import Derived.Test.YtfkamkbkpnnokaaRows
import Derived.Test.YtfkamkbkpnnokaaLib
import Derived.Test.YtfkamkbkpnnokaaClones
import Derived.BigQuiet
import Derived.Deep.QuietTactic
namespace Go.Proofs.Ytfkamkbkpnnokaa.fnStringCompareUCS2Antisymmetric
open Go.ChangeShapes Go.WideShapes Go.ChangeAt Go.RowKit Go.Mine
set_option linter.unusedVariables false

def cmpL : List Int → List Int → Int
  | x :: xs, y :: ys => if x - y = 0 then cmpL xs ys else x - y
  | xs, ys => xs.length - ys.length
theorem cmpL_same (a b : List Int) (k : Nat) (ha : k < a.length) (hb : k < b.length) (h : a[k] - b[k] = 0) : cmpL (a.drop k) (b.drop k) = cmpL (a.drop (k + 1)) (b.drop (k + 1)) := by
  rw [List.drop_eq_getElem_cons ha, List.drop_eq_getElem_cons hb, cmpL, if_pos h]
theorem cmpL_diff (a b : List Int) (k : Nat) (ha : k < a.length) (hb : k < b.length) (h : ¬ a[k] - b[k] = 0) : cmpL (a.drop k) (b.drop k) = a[k] - b[k] := by
  rw [List.drop_eq_getElem_cons ha, List.drop_eq_getElem_cons hb, cmpL, if_neg h]
theorem cmpL_end (a b : List Int) (k : Nat) (h : a.length ≤ k ∨ b.length ≤ k) (ha : k ≤ a.length) (hb : k ≤ b.length) : cmpL (a.drop k) (b.drop k) = a.length - b.length := by
  rcases h with h | h
  · rw [List.drop_of_length_le h]; simp [cmpL]; omega
  · rw [List.drop_of_length_le h]
    cases hd : a.drop k with
    | nil => have := congrArg List.length hd; simp at this; simp [cmpL]; omega
    | cons x xs => have := congrArg List.length hd; simp at this; simp [cmpL]; omega

theorem bytes_any (a0 : Option Addr) (l0 c0 : Nat) (a1 : Option Addr) (l1 c1 : Nat) (w : World) (h0 : l0 ≤ maxLen) (h1 : l1 ≤ maxLen) :
    Calls Try.prog 10 #[.slice a0 l0 c0, .slice a1 l1 c1] w fun e w' => (∃ r : Bool, e = .returned (.bool r)) ∧ w = w' := by
  unfold maxLen at h0 h1
  go_enter Try.func10, Try.ntmps10
  go_wp2
  all_goals
    go_ret
    exact ⟨⟨_, rfl⟩, rfl⟩

theorem sub_wrap (x y : Int) (h1 : 0 ≤ x) (h2 : x ≤ 65535) (h3 : 0 ≤ y) (h4 : y ≤ 65535) : wrap64 (wrap64 x - wrap64 y) = x - y := by
  rw [IntWalk.wrap64_in x ⟨by omega, by omega⟩, IntWalk.wrap64_in y ⟨by omega, by omega⟩, IntWalk.wrap64_in _ ⟨by omega, by omega⟩]
theorem elt_u16 {w : World} {a : Option Addr} {l c k : Nat} {z : List Int} {x : Int} (h : IntRow .u16 w a l c z) (hk : k < l) (hx : x = z.getD k 0) : 0 ≤ x ∧ x ≤ 65535 ∧ ∃ q : k < z.length, x = z[k] := by
  have q : k < z.length := by rw [h.1]; exact hk
  have e : z.getD k 0 = z[k] := by simp [q]
  have b := bounds_u16 (h.2.2.2.1 z[k] (List.getElem_mem q))
  rw [hx, e]
  exact ⟨b.1, b.2, q, rfl⟩

theorem cmp_any (a0 : Option Addr) (l0 c0 : Nat) (z0 : List Int) (a1 : Option Addr) (l1 c1 : Nat) (z1 : List Int) (w : World) (h0 : IntRow .u16 w a0 l0 c0 z0) (h1 : IntRow .u16 w a1 l1 c1 z1) :
    Calls Try.prog 26 #[.slice a0 l0 c0, .slice a1 l1 c1] w fun e w' => e = .returned (.int .i64 (cmpL z0 z1)) ∧ ∃ n, w' = w.drewN n := by
  have hl0 : l0 ≤ 9223372036854775807 := by have := h0.2.1; have := h0.2.2.1; unfold maxLen at this; omega
  have hl1 : l1 ≤ 9223372036854775807 := by have := h1.2.1; have := h1.2.2.1; unfold maxLen at this; omega
  have hz0 := Lib.hid h0.1
  have hz1 := Lib.hid h1.1
  have H0 := Lib.hid h0
  have H1 := Lib.hid h1
  clear h0 h1
  go_enter Try.func26, Try.ntmps26
  go_wp2
  all_goals
    go_loopw [6] (fun i wr => ∃ k n : Nat, k ≤ l0 ∧ k ≤ l1 ∧ i = .int .i64 k ∧ Hid (cmpL z0 z1 = cmpL (z0.drop k) (z1.drop k)) ∧ wr = w.drewN n) (fun i _ => l0 - (intOf i).toNat)
    case atStart => exact ⟨0, 0, Nat.zero_le _, Nat.zero_le _, rfl, rfl, rfl⟩
    case round =>
      obtain ⟨k, n, hk0, hk1, rfl, hrel, rfl⟩ := hrel
      by_cases hlt0 : k < l0
      · by_cases hlt1 : k < l1
        · obtain ⟨b0, o0, e0, hb0, hc0⟩ := H0.out.at hlt0
          obtain ⟨b1, o1, e1, hb1, hc1⟩ := H1.out.at hlt1
          subst e0 e1
          obtain ⟨x, hx⟩ : ∃ x, x = z0.getD k 0 := ⟨_, rfl⟩
          obtain ⟨y, hy⟩ : ∃ y, y = z1.getD k 0 := ⟨_, rfl⟩
          rw [← hx] at hc0
          rw [← hy] at hc1
          have bx := elt_u16 H0.out hlt0 hx
          have by' := elt_u16 H1.out hlt1 hy
          have HD := Lib.hid (sub_wrap x y bx.1 bx.2.1 by'.1 by'.2.1)
          have Hx := Lib.hid (And.intro bx.2.2 by'.2.2)
          clear bx by' hx hy
          go_wp2
          go_quiet (fail)
          go_wp2
          all_goals
            obtain ⟨⟨q0, hx⟩, ⟨q1, hy⟩⟩ := Hx.out
            first
              | (have ht : (wrap64 (wrap64 x - wrap64 y) != 0) = true := by assumption
                 rw [HD.out] at ht
                 go_ret
                 refine ⟨ret_int ?_, _, rfl⟩
                 rw [HD.out, hrel.out, cmpL_diff z0 z1 k q0 q1 (by rw [← hx, ← hy]; simpa using ht), ← hx, ← hy])
              | (have ht : (wrap64 (wrap64 x - wrap64 y) != 0) = false := by assumption
                 rw [HD.out] at ht
                 go_roundw
                 case rel => exact ⟨k + 1, _, by omega, by omega, by go_num, (by show cmpL z0 z1 = _; rw [hrel.out, cmpL_same z0 z1 k q0 q1 (by rw [← hx, ← hy]; simpa using ht)]), rfl⟩
                 case measure => simp [intOf]; omega)
        · first
            | (exfalso; go_light; omega)
            | (have hn : k = l1 := by omega
               subst hn
               go_wp2
               go_ret
               refine ⟨ret_int ?_, _, rfl⟩
               rw [hrel.out, cmpL_end z0 z1 k (by rw [hz0.out, hz1.out]; omega) (by rw [hz0.out]; omega) (by rw [hz1.out]; omega), hz0.out, hz1.out])
      · have hn : k = l0 := by omega
        subst hn
        go_wp2
        go_ret
        refine ⟨ret_int ?_, _, rfl⟩
        rw [hrel.out, cmpL_end z0 z1 k (by rw [hz0.out, hz1.out]; omega) (by rw [hz0.out]; omega) (by rw [hz1.out]; omega), hz0.out, hz1.out]

theorem ne_of_elt {z0 z1 : List Int} {k : Nat} {x y : Int} (q0 : k < z0.length) (q1 : k < z1.length) (hx : x = z0[k]) (hy : y = z1[k]) (ht : (x != y) = true) : false = decide (z0 = z1) := by
  symm
  rw [decide_eq_false_iff_not]
  intro he
  subst he
  subst hx hy
  simp at ht

theorem eq_any (a0 : Option Addr) (l0 c0 : Nat) (z0 : List Int) (a1 : Option Addr) (l1 c1 : Nat) (z1 : List Int) (w : World) (h0 : IntRow .u16 w a0 l0 c0 z0) (h1 : IntRow .u16 w a1 l1 c1 z1) :
    Calls Try.prog 13 #[.slice a0 l0 c0, .slice a1 l1 c1] w fun e w' => e = .returned (.bool (decide (z0 = z1))) ∧ ∃ n, w' = w.drewN n := by
  have hl0 : l0 ≤ 9223372036854775807 := by have := h0.2.1; have := h0.2.2.1; unfold maxLen at this; omega
  have hl1 : l1 ≤ 9223372036854775807 := by have := h1.2.1; have := h1.2.2.1; unfold maxLen at this; omega
  have hz0 := Lib.hid h0.1
  have hz1 := Lib.hid h1.1
  have H0 := Lib.hid h0
  have H1 := Lib.hid h1
  clear h0 h1
  by_cases hne : l0 = l1
  · subst hne
    have hq : ((l0 : Int) != (l0 : Int)) = false := by simp
    go_enter Try.func13, Try.ntmps13
    go_wp2
    go_loopw [5] (fun i wr => ∃ k n : Nat, k ≤ l0 ∧ i = .int .i64 k ∧ Hid (z0.take k = z1.take k) ∧ wr = w.drewN n) (fun i _ => l0 - (intOf i).toNat)
    case atStart => exact ⟨0, 0, Nat.zero_le _, rfl, rfl, rfl⟩
    case round =>
      obtain ⟨k, n, hk0, rfl, hrel, rfl⟩ := hrel
      by_cases hlt0 : k < l0
      · obtain ⟨b0, o0, e0, hb0, hc0⟩ := H0.out.at hlt0
        obtain ⟨b1, o1, e1, hb1, hc1⟩ := H1.out.at hlt0
        subst e0 e1
        obtain ⟨x, hx⟩ : ∃ x, x = z0.getD k 0 := ⟨_, rfl⟩
        obtain ⟨y, hy⟩ : ∃ y, y = z1.getD k 0 := ⟨_, rfl⟩
        rw [← hx] at hc0
        rw [← hy] at hc1
        have bx := elt_u16 H0.out hlt0 hx
        have by' := elt_u16 H1.out hlt0 hy
        have Hx := Lib.hid (And.intro bx.2.2 by'.2.2)
        clear bx by' hx hy
        by_cases ht : (x != y) = true
        · go_wp2
          go_quiet (fail)
          go_wp2
          go_ret
          obtain ⟨⟨q0, hx⟩, ⟨q1, hy⟩⟩ := Hx.out
          exact ⟨ret_bool2 (ne_of_elt q0 q1 hx hy ht), _, World.drewN_drewN _ _ _⟩
        · have ht : (x != y) = false := by simpa using ht
          go_wp2
          go_quiet (fail)
          go_wp2
          go_roundw
          case rel =>
            obtain ⟨⟨q0, hx⟩, ⟨q1, hy⟩⟩ := Hx.out
            exact ⟨k + 1, _, by omega, by go_num, (by show z0.take (k + 1) = z1.take (k + 1); rw [List.take_succ_eq_append_getElem q0, List.take_succ_eq_append_getElem q1, hrel.out, ← hx, ← hy]; simpa using ht), rfl⟩
          case measure => simp [intOf]; omega
      · have hn : k = l0 := by omega
        subst hn
        go_wp2
        go_ret
        refine ⟨ret_bool2 ?_, _, rfl⟩
        have h := hrel.out
        rw [List.take_of_length_le (by rw [hz0.out]; omega), List.take_of_length_le (by rw [hz1.out]; omega)] at h
        simp [h]
  · have hq : ((l0 : Int) != (l1 : Int)) = true := by simp; omega
    go_enter Try.func13, Try.ntmps13
    go_wp2
    go_ret
    refine ⟨ret_bool2 ?_, 0, rfl⟩
    symm
    rw [decide_eq_false_iff_not]
    intro he
    rw [← hz0.out, ← hz1.out, he] at hne
    exact hne rfl

theorem cmpL_neg : ∀ a b : List Int, cmpL a b = - cmpL b a
  | [], [] => by simp [cmpL]
  | [], y :: ys => by simp [cmpL]
  | x :: xs, [] => by simp [cmpL]
  | x :: xs, y :: ys => by
    have ih := cmpL_neg xs ys
    simp only [cmpL]
    by_cases h : x - y = 0
    · rw [if_pos h, if_pos (by omega), ih]
    · rw [if_neg h, if_neg (by omega)]; omega
theorem cmpL_zero : ∀ a b : List Int, cmpL a b = 0 ↔ a = b
  | [], [] => by simp [cmpL]
  | [], y :: ys => by simp [cmpL]; omega
  | x :: xs, [] => by simp [cmpL]; omega
  | x :: xs, y :: ys => by
    have ih := cmpL_zero xs ys
    simp only [cmpL]
    by_cases h : x - y = 0
    · rw [if_pos h, ih]; have : x = y := by omega
      simp [this]
    · rw [if_neg h]; simp; omega
theorem cmpL_bd : ∀ a b : List Int, (∀ x ∈ a, 0 ≤ x ∧ x ≤ 65535) → (∀ x ∈ b, 0 ≤ x ∧ x ≤ 65535) → -(65535 + a.length + b.length : Int) ≤ cmpL a b ∧ cmpL a b ≤ 65535 + a.length + b.length
  | [], [], _, _ => by simp [cmpL]
  | [], y :: ys, _, _ => by simp [cmpL]; omega
  | x :: xs, [], _, _ => by simp [cmpL]; omega
  | x :: xs, y :: ys, h1, h2 => by
    have ih := cmpL_bd xs ys (fun z hz => h1 z (by simp [hz])) (fun z hz => h2 z (by simp [hz]))
    have b1 := h1 x (by simp)
    have b2 := h2 y (by simp)
    simp only [cmpL, List.length_cons]
    by_cases h : x - y = 0
    · rw [if_pos h]; omega
    · rw [if_neg h]; omega
theorem fin (c1 c2 c3 : Int) (z0 z1 : List Int) (h1 : c1 = cmpL z0 z1) (h2 : c2 = cmpL z1 z0) (h3 : c3 = cmpL z0 z0) : c1 = -c2 ∧ ((c1 == 0) = decide (z0 = z1)) ∧ c3 = 0 := by
  subst h1 h2 h3
  refine ⟨cmpL_neg _ _, ?_, (cmpL_zero _ _).2 rfl⟩
  rw [Bool.eq_iff_iff]; simp [cmpL_zero]
theorem row_bd {w : World} {a : Option Addr} {l c : Nat} {z : List Int} (h : IntRow .u16 w a l c z) : ∀ x ∈ z, 0 ≤ x ∧ x ≤ 65535 := fun x hx => bounds_u16 (h.2.2.2.1 x hx)

theorem zz12 (a0 : Option Addr) (l0 c0 : Nat) (z0 : List Int) (a1 : Option Addr) (l1 c1 : Nat) (z1 : List Int) (w : World) (h0 : IntRow .u16 w a0 l0 c0 z0) (h1 : IntRow .u16 w a1 l1 c1 z1) :
    Calls Try.prog 12 #[.slice a0 l0 c0, .slice a1 l1 c1] w fun e w' => e = .returned (.int .i64 (cmpL z0 z1)) ∧ ∃ n, w' = w.drewN n := by
  have H0 := Lib.hid h0
  have H1 := Lib.hid h1
  clear h0 h1
  go_enter Try.func12, Try.ntmps12
  go_wp2_with fail
  refine (cmp_any _ _ _ z0 _ _ _ z1 _ H0.out H1.out).mono ?_
  rintro e w' ⟨rfl, n, rfl⟩
  go_wp2_with fail
  go_ret
  exact ⟨rfl, _, rfl⟩

theorem below_dN {B : Nat} {a : World} (n : Nat) : Below B a (a.drewN n) := below_drewN (Below.refl _ _) n

theorem walk (a0 : Option Addr) (len0 cap0 : Nat) (z0 : List Int) (a1 : Option Addr) (len1 cap1 : Nat) (z1 : List Int) (w : World) (w0 : IntRow .u16 w a0 len0 cap0 z0) (w1 : IntRow .u16 w a1 len1 cap1 z1) :
    Calls Try.prog 4 #[.slice a0 len0 cap0, .slice a1 len1 cap1] w fun e w' => e = .returned (.bool true) ∧ Below w.heap.size w w' := by
  have hl0 : len0 ≤ maxLen := Nat.le_trans w0.2.1 w0.2.2.1
  have hl1 : len1 ≤ maxLen := Nat.le_trans w1.2.1 w1.2.2.1
  have m0 := hl0
  have m1 := hl1
  unfold maxLen at m0 m1
  have H0 := Lib.hid w0
  have H1 := Lib.hid w1
  clear w0 w1
  go_enter Try.func4, Try.ntmps4
  go_wp2_with fail
  refine (bytes_any _ _ _ _ _ _ _ hl0 hl1).mono ?_
  rintro e w' ⟨⟨r, rfl⟩, rfl⟩
  cases r with
  | false =>
    go_wp2_with fail
    go_ret
    exact ⟨rfl, Below.refl _ _⟩
  | true =>
    go_wp2_with fail
    all_goals try (go_ret; exact ⟨rfl, Below.refl _ _⟩)
    have q0 : len0 ≤ 262144 := by go_light; omega
    have q1 : len1 ≤ 262144 := by go_light; omega
    refine (clone11 _ _ _ z0 _ H0.out (by omega)).mono ?_
    rintro e w1 ⟨b0, rfl, r0, y1, y2, hb1⟩
    clear y1 y2
    have R0 := Lib.hid r0
    have B1 := Lib.hid hb1
    clear r0 hb1
    go_wp2_with fail
    refine (clone11 _ _ _ z1 _ (H1.out.below B1.out) (by omega)).mono ?_
    rintro e w2 ⟨b1, rfl, r1, y1, y2, hb2⟩
    clear y1 y2
    have R1 := Lib.hid r1
    have R0' := Lib.hid (R0.out.below (hb2))
    have B2 := Lib.hid (B1.out.trans (hb2.mono B1.out.size))
    clear r1 hb2
    obtain ⟨c1, hc1⟩ : ∃ c, c = cmpL z0 z1 := ⟨_, rfl⟩
    obtain ⟨c2, hc2⟩ : ∃ c, c = cmpL z1 z0 := ⟨_, rfl⟩
    obtain ⟨c3, hc3⟩ : ∃ c, c = cmpL z0 z0 := ⟨_, rfl⟩
    have bd := cmpL_bd z1 z0 (row_bd R1.out) (row_bd R0.out)
    rw [← hc2, R1.out.1, R0.out.1] at bd
    have bd1 : -1000000 ≤ c2 := by omega
    have bd2 : c2 ≤ 1000000 := by omega
    have F := Lib.hid (fin c1 c2 c3 z0 z1 hc1 hc2 hc3)
    have E1 := Lib.hid hc1
    have E2 := Lib.hid hc2
    have E3 := Lib.hid hc3
    clear bd hc1 hc2 hc3
    go_wp2_with fail
    refine (zz12 _ _ _ z0 _ _ _ z1 _ R0'.out R1.out).mono ?_
    rintro e w' ⟨rfl, n1, rfl⟩
    rw [← E1.out]
    go_wp2_with fail
    refine (zz12 _ _ _ z1 _ _ _ z0 _ (R1.out.below (below_dN _)) (R0'.out.below (below_dN _))).mono ?_
    rintro e w' ⟨rfl, n2, rfl⟩
    rw [← E2.out]
    obtain ⟨D, hD⟩ : ∃ D, D = decide (z0 = z1) := ⟨_, rfl⟩
    have t1 : (c1 == -c2) = true := beq_iff_eq.2 F.out.1
    have t2 : ((c1 == 0) == D) = true := beq_iff_eq.2 (hD ▸ F.out.2.1)
    have t3 : (c3 == 0) = true := beq_iff_eq.2 F.out.2.2
    have E4 := Lib.hid hD
    clear hD
    go_wp2_with fail
    refine (eq_any _ _ _ z0 _ _ _ z1 _ (R0'.out.below (below_dN _)) (R1.out.below (below_dN _))).mono ?_
    rintro e w' ⟨rfl, n3, rfl⟩
    rw [← E4.out]
    go_wp2_with fail
    refine (zz12 _ _ _ z0 _ _ _ z0 _ (R0'.out.below (below_dN _)) (R0'.out.below (below_dN _))).mono ?_
    rintro e w' ⟨rfl, n4, rfl⟩
    rw [← E3.out]
    go_wp2_with fail
    go_ret
    exact ⟨rfl, below_drewN B2.out _⟩
end Go.Proofs.Ytfkamkbkpnnokaa.fnStringCompareUCS2Antisymmetric
