/- The walk of the law 'FnToNullOrUndefinedMatchesClosedForm': it returns true and leaves what was there as it was. No conditions. -/
import Derived.Test.YtiejadamfgbidaaRows
import Derived.Test.YtiejadamfgbidaaLib
import Derived.Test.YtiejadamfgbidaaAsserts
import Derived.Test.YtiejadamfgbidaaClones
import Derived.Test.YtiejadamfgbidaaNull
import Derived.Test.YtiejadamfgbidaaChainN
import Derived.Outline
namespace Go.Proofs.Ytiejadamfgbidaa.fnToNullOrUndefinedMatchesClosedForm
open Go.ChangeShapes Go.WideShapes Go.ChangeAt Go.RowKit Go.Mine nullish
set_option linter.unusedVariables false
set_option maxRecDepth 100000

def noOf : List Int → Bool → Bool
  | [], no => no
  | c :: r, no => if c % 4 = 2 then true else if c % 4 = 3 then false else noOf r no
theorem tri_ok (z : List Int) (n no : Bool) (hz : ∀ c ∈ z, 0 ≤ c ∧ c ≤ 255) : tri z (n, no, true) = (n, noOf z no, true) := by
  induction z with
  | nil => rfl
  | cons c r ih =>
    have ih := ih (fun c hc => hz c (by simp [hc]))
    show wrapT (c % 4) (tri r (n, no, true)) = _
    rw [ih]
    have hc := hz c (by simp)
    have : c % 4 = 0 ∨ c % 4 = 1 ∨ c % 4 = 2 ∨ c % 4 = 3 := by omega
    rcases this with h | h | h | h <;> simp [wrapT, noOf, h]
theorem tri_no (z : List Int) (hz : ∀ c ∈ z, 0 ≤ c ∧ c ≤ 255) : tri z (false, true, false) = (false, true, false) := by
  induction z with
  | nil => rfl
  | cons c r ih =>
    have ih := ih (fun c hc => hz c (by simp [hc]))
    show wrapT (c % 4) (tri r (false, true, false)) = _
    rw [ih]
    have hc := hz c (by simp)
    have : c % 4 = 0 ∨ c % 4 = 1 ∨ c % 4 = 2 ∨ c % 4 = 3 := by omega
    rcases this with h | h | h | h <;> simp [wrapT, h]
theorem leafT_no (k o : Int) (ti : Bool) (h : (leafT k o ti).2.2 = false) : leafT k o ti = (false, true, false) := by
  unfold leafT un at *
  repeat' split at h
  all_goals first | (simp at h; done) | skip
  all_goals simp_all
  all_goals rw [if_neg (by omega), if_neg (by omega), if_neg (by omega)]
theorem noOf_drop (z : List Int) (no : Bool) (k : Nat) (h : k < z.length) : noOf (z.drop k) no = if z[k] % 4 = 2 then true else if z[k] % 4 = 3 then false else noOf (z.drop (k + 1)) no := by
  rw [List.drop_eq_getElem_cons h, noOf]
theorem ret3c {a b c d e f : Bool} (h : a = b) (k : c = d) (l : e = f) : Ending.returned (.tuple #[.bool a, .bool c, .bool e]) = .returned (.tuple #[.bool b, .bool d, .bool f]) := by rw [h, k, l]

set_option maxHeartbeats 8000000 in
theorem model24 (k o : Int) (ti : Bool) (w : World) (h0 : 0 ≤ k) (ho0 : 0 ≤ o) (ho1 : o ≤ 255) :
    Calls Try.prog 24 #[.int .u8 k, .int .u8 o, .bool ti] w fun e w' => e = .returned (.tuple #[.bool (leafT (k % 15) o ti).1, .bool (leafT (k % 15) o ti).2.1, .bool (leafT (k % 15) o ti).2.2]) ∧ w = w' := by
  have hc : k % 15 = 0 ∨ k % 15 = 1 ∨ k % 15 = 2 ∨ k % 15 = 3 ∨ k % 15 = 4 ∨ k % 15 = 5 ∨ k % 15 = 6 ∨ k % 15 = 7 ∨ k % 15 = 8 ∨ k % 15 = 9 ∨ k % 15 = 10 ∨ k % 15 = 11 ∨ k % 15 = 12 ∨ k % 15 = 13 ∨ k % 15 = 14 := by omega
  rcases hc with h | h | h | h | h | h | h | h | h | h | h | h | h | h | h
  · have H := Lib.hid h
    go_enter Try.func24, Try.ntmps24
    go_wp2
    go_ret3
    exact ⟨by rw [H.out]; rfl, rfl⟩
  · have H := Lib.hid h
    go_enter Try.func24, Try.ntmps24
    go_wp2
    go_ret3
    exact ⟨by rw [H.out]; rfl, rfl⟩
  · have H := Lib.hid h
    go_enter Try.func24, Try.ntmps24
    go_wp2
    go_ret3
    exact ⟨by rw [H.out]; rfl, rfl⟩
  · have H := Lib.hid h
    go_enter Try.func24, Try.ntmps24
    go_wp2
    go_ret3
    exact ⟨by rw [H.out]; rfl, rfl⟩
  · have H := Lib.hid h
    go_enter Try.func24, Try.ntmps24
    go_wp2
    go_ret3
    exact ⟨by rw [H.out]; rfl, rfl⟩
  · have H := Lib.hid h
    go_enter Try.func24, Try.ntmps24
    go_wp2
    go_ret3
    exact ⟨by rw [H.out]; rfl, rfl⟩
  · have H := Lib.hid h
    go_enter Try.func24, Try.ntmps24
    go_wp2
    go_ret3
    exact ⟨by rw [H.out]; rfl, rfl⟩
  · have H := Lib.hid h
    go_enter Try.func24, Try.ntmps24
    go_wp2
    go_ret3
    exact ⟨by rw [H.out]; rfl, rfl⟩
  · have H := Lib.hid h
    go_enter Try.func24, Try.ntmps24
    go_wp2
    go_ret3
    exact ⟨by rw [H.out]; rfl, rfl⟩
  · have H := Lib.hid h
    go_enter Try.func24, Try.ntmps24
    go_wp2
    go_ret3
    exact ⟨by rw [H.out]; rfl, rfl⟩
  · have H := Lib.hid h
    go_enter Try.func24, Try.ntmps24
    go_wp2
    go_ret3
    exact ⟨by rw [H.out]; rfl, rfl⟩
  · have H := Lib.hid h
    go_enter Try.func24, Try.ntmps24
    go_wp2
    go_ret3
    exact ⟨by rw [H.out]; rfl, rfl⟩
  · have H := Lib.hid h
    go_enter Try.func24, Try.ntmps24
    go_wp2
    go_ret3
    exact ⟨by rw [H.out]; rfl, rfl⟩
  · have H := Lib.hid h
    have hc : o = 0 ∨ o = 1 ∨ o = 2 ∨ o = 3 ∨ o = 4 ∨ o = 5 ∨ o = 6 ∨ o = 7 ∨ o = 8 ∨ o = 9 ∨ o = 10 ∨ 11 ≤ o := by omega
    rcases hc with rfl | rfl | rfl | rfl | rfl | rfl | rfl | rfl | rfl | rfl | rfl | hh
    all_goals try
      (go_enter Try.func24, Try.ntmps24
       go_wp2
       go_ret3
       exact ⟨by rw [H.out]; rfl, rfl⟩)
    have e : Hid (leafT 13 o ti = (false, true, false)) := by
      show un o ti = _
      unfold un
      rw [if_neg (by omega), if_neg (by omega), if_neg (by omega)]
    go_enter Try.func24, Try.ntmps24
    go_wp2
    go_ret3
    exact ⟨by rw [H.out, e.out]; rfl, rfl⟩
  · have H := Lib.hid h
    have hy : Hid (binKnown o = true → leafT 14 o ti = (false, false, true)) := fun hb => by show (if binKnown o then _ else _) = _; rw [hb]; rfl
    have hn : Hid (binKnown o = false → leafT 14 o ti = (false, true, false)) := fun hb => by show (if binKnown o then _ else _) = _; rw [hb]; rfl
    go_enter Try.func24, Try.ntmps24
    go_wp2
    all_goals
      go_ret3
      go_light
      first | rw [H.out] | skip
      first
        | exact ⟨(by rw [hy.out (decide_eq_true (by simp only [beq_eq_false_iff_ne, beq_iff_eq, ne_eq] at *; omega))]; rfl), rfl⟩
        | exact ⟨(by rw [hn.out (decide_eq_false (by simp only [beq_eq_false_iff_ne, beq_iff_eq, ne_eq] at *; omega))]; rfl), rfl⟩

theorem bytes_any (k o : Int) (ti : Bool) (a1 : Option Addr) (l1 c1 : Nat) (w : World) (h1 : l1 ≤ maxLen) :
    Calls Try.prog 20 #[.int .u8 k, .int .u8 o, .bool ti, .slice a1 l1 c1] w fun e w' => (∃ r : Bool, e = .returned (.bool r)) ∧ w = w' := by
  unfold maxLen at h1
  go_enter Try.func20, Try.ntmps20
  go_wp2
  all_goals
    go_ret
    exact ⟨⟨_, rfl⟩, rfl⟩

set_option maxHeartbeats 8000000 in
theorem walk (a0 a1 : Int) (a2 : Bool) (a3 : Option Addr) (len3 cap3 : Nat) (z3 : List Int) (w : World) (w0 : (Lit.int .u8 a0).wf = true) (w1 : (Lit.int .u8 a1).wf = true) (w3 : IntRow .u8 w a3 len3 cap3 z3) :
    Calls Try.prog 5 #[.int .u8 a0, .int .u8 a1, .bool a2, .slice a3 len3 cap3] w fun e w' => e = .returned (.bool true) ∧ Below w.heap.size w w' := by
  obtain ⟨b0, b1⟩ := bounds_u8 w0
  obtain ⟨c0, c1⟩ := bounds_u8 w1
  have hl3 : len3 ≤ maxLen := Nat.le_trans w3.2.1 w3.2.2.1
  have m3 := hl3
  unfold maxLen at m3
  have H3 := Lib.hid w3
  clear w0 w1 w3
  go_enter Try.func5, Try.ntmps5
  go_wp2_with fail
  refine (bytes_any _ _ _ _ _ _ _ hl3).mono ?_
  rintro e w' ⟨⟨r, rfl⟩, rfl⟩
  cases r with
  | false =>
    go_wp2_with fail
    go_ret
    exact ⟨rfl, Below.refl _ _⟩
  | true =>
    go_wp2_with fail
    all_goals try (go_ret; exact ⟨rfl, Below.refl _ _⟩)
    have q3 : len3 ≤ 65536 := by go_light; omega
    refine (clone21 _ _ _ z3 _ H3.out (by omega)).mono ?_
    rintro e w2 ⟨bu, rfl, r3, y1, y2, hb2⟩
    have R3 := Lib.hid r3
    have B2 := Lib.hid hb2
    clear r3 y1 y2 hb2 hl3
    go_wp2_with fail
    refine (chain22 a0 a1 a2 _ _ z3 _ b0 c0 (by omega) R3.out q3).mono ?_
    rintro e w3 ⟨T, v, rfl, hb3, hs⟩
    have S := Lib.hid hs
    have B3 := Lib.hid (below2 B2.out hb3)
    have R33 := Lib.hid (R3.out.below hb3)
    clear hs hb3
    go_wp2_with fail
    refine (S.out _ (Same.refl _ _)).mono ?_
    rintro e w4 ⟨rfl, hb4⟩
    have B4 := Lib.hid (below2 B3.out hb4)
    have R4 := Lib.hid (R33.out.below hb4)
    clear hb4
    have HZ : Hid (∀ c ∈ z3, 0 ≤ c ∧ c ≤ 255) := fun c hc => bounds_u8 (R4.out.2.2.2.1 c hc)
    have HN := Lib.hid (leafT_no (a0 % 15) a1 a2)
    have M := Lib.hid (model24 a0 a1 a2 w4 b0 c0 (by omega))
    obtain ⟨t0, ht0⟩ : ∃ t0, t0 = leafT (a0 % 15) a1 a2 := ⟨_, rfl⟩
    rw [← ht0] at HN M ⊢
    clear ht0 S
    obtain ⟨n, no, ok⟩ := t0
    cases ok with
    | false =>
      have e1 := HN.out rfl
      obtain ⟨rfl, rfl⟩ : n = false ∧ no = true := by simpa using e1
      rw [tri_no z3 HZ.out]
      rw [show tvT (false, true, false) = .tuple #[.bool false, .int .u8 1, .bool false] from rfl]
      go_wp2_with fail
      refine M.out.mono ?_
      rintro e w' ⟨rfl, rfl⟩
      go_wp2_with fail
      go_ret
      exact ⟨rfl, B4.out⟩
    | true =>
      rw [tri_ok z3 n no HZ.out]
      obtain ⟨r, hr⟩ : ∃ r, r = noOf z3 no := ⟨_, rfl⟩
      rw [← hr, show tvT (n, r, true) = .tuple #[.bool n, .int .u8 (sE r), .bool true] from rfl]
      have HR := Lib.hid hr
      clear hr HN
      cases r <;> cases n
      all_goals
        simp only [sE, if_true, Bool.false_eq_true, if_false]
        go_wp2_with fail
        refine M.out.mono ?_
        rintro e w' ⟨rfl, rfl⟩
        go_wp2_with fail
        go_loopw [14, 16, 17] (fun s i _ wr => wr = w4 ∧ ∃ (x : Bool) (j : Nat), j ≤ len3 ∧ s = .bool x ∧ i = .int .i64 (j : Int) ∧ Hid (_ = noOf (z3.drop j) x)) (fun _ i _ _ => len3 - (intOf i).toNat)
        case atStart => exact ⟨rfl, no, 0, Nat.zero_le _, rfl, rfl, HR⟩
        case round =>
          obtain ⟨rfl, x, j, hj, rfl, rfl, K⟩ := hrel
          by_cases hlt : j < len3
          · obtain ⟨bb, oo, eb, hbb, hcb⟩ := R4.out.at hlt
            obtain ⟨y, hy⟩ : ∃ y, y = z3.getD j 0 := ⟨_, rfl⟩
            rw [← hy] at hcb
            obtain ⟨q, ey⟩ := elt_of R4.out hlt hy
            have by0 := HZ.out z3[j] (List.getElem_mem q)
            rw [← ey] at by0
            obtain ⟨bx0, bx1⟩ := by0
            have EX := Lib.hid (noOf_drop z3 x j q)
            rw [← ey] at EX
            clear hy ey q
            subst eb
            have hc : y % 4 = 0 ∨ y % 4 = 1 ∨ y % 4 = 2 ∨ y % 4 = 3 := by omega
            rcases hc with h | h | h | h
            all_goals
              have H := Lib.hid h
              go_wp2
              first
                | (go_ret; exact ⟨rfl, B4.out⟩)
                | (exfalso; have := K.out; rw [EX.out, H.out] at this; simp at this; done)
                | (refine ⟨⟨(by first | rfl | trivial), x, j + 1, by omega, (by first | rfl | simp), by simp, ?_⟩, (by simp [intOf]; try omega)⟩
                   show _ = _
                   rw [K.out, EX.out, H.out]; rfl)
          · have ej : j = len3 := by omega
            subst ej
            have K' := K.out
            rw [List.drop_of_length_le (by rw [R4.out.1]; omega)] at K'
            cases x
            all_goals first
              | (exfalso; simp [noOf] at K'; done)
              | (clear K'; go_wp2_with fail; go_ret; exact ⟨rfl, B4.out⟩)
end Go.Proofs.Ytiejadamfgbidaa.fnToNullOrUndefinedMatchesClosedForm
