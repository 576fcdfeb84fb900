/- What 'ToNullOrUndefinedWithSideEffects' answers on the nodes of the law 'FnToNullOrUndefinedMatchesClosedForm'. No conditions beyond their hypotheses. -/
import Derived.Test.YtiejadamfgbidaaRows
import Derived.Test.YtiejadamfgbidaaLib
import Derived.Test.YtiejadamfgbidaaAsserts
namespace Go.Proofs.Ytiejadamfgbidaa.nullish
open Go.ChangeShapes Go.WideShapes Go.ChangeAt Go.RowKit Go.Mine
set_option linter.unusedVariables false
set_option maxRecDepth 100000

/-- (is null, no side effects, known) as the three results. -/
def sE (no : Bool) : Int := if no then 1 else 0
def tv (n no ok : Bool) : Value := .tuple #[.bool n, .int .u8 (sE no), .bool ok]

theorem nu_inl {X : Nat → Prop} {n no ok : Bool} {T : Nat} {v : Value} {w : World} {p : Nat} (hx : ¬ X p) (h : Says Try.prog X 23 #[.iface T v] (tv n no ok) w) (c0 : w.cell? ⟨p, 0, none⟩ = some (.iface T v)) :
    Says Try.prog X 23 #[.iface 41 (.pointer (some ⟨p, 0, none⟩))] (tv n no ok) w := by
  intro w' hb
  have d0 := hb.cell hx c0
  have H := Lib.hid (h w' hb)
  clear h c0
  unfold tv at H ⊢
  go_enter Try.func23, Try.ntmps23
  go_wp2_with fail
  refine H.out.mono ?_
  rintro e w2 ⟨rfl, hb2⟩
  go_wp2_with fail
  go_ret3
  exact ⟨rfl, hb2⟩
theorem nu_ann0 {X : Nat → Prop} {n no ok : Bool} {T : Nat} {v : Value} {w : World} {p : Nat} (hx : ¬ X p) (h : Says Try.prog X 23 #[.iface T v] (tv n no ok) w) (c0 : w.cell? ⟨p, 0, none⟩ = some (.iface T v)) (c2 : w.cell? ⟨p, 2, none⟩ = some (.int .u8 0)) :
    Says Try.prog X 23 #[.iface 37 (.pointer (some ⟨p, 0, none⟩))] (tv n no ok) w := by
  intro w' hb
  have d0 := hb.cell hx c0
  have d2 := hb.cell hx c2
  have H := Lib.hid (h w' hb)
  clear h c0 c2
  unfold tv at H ⊢
  go_enter Try.func23, Try.ntmps23
  go_wp2_with fail
  refine H.out.mono ?_
  rintro e w2 ⟨rfl, hb2⟩
  have e2 := bcell hb2 d2
  have B := Lib.hid hb2
  clear hb2
  go_wp2_with (first | (go_at_call 44; go_in))
  go_ret3
  exact ⟨rfl, B.out⟩
theorem nu_ann1 {X : Nat → Prop} {n no ok : Bool} {T : Nat} {v : Value} {w : World} {p : Nat} (hx : ¬ X p) (h : Says Try.prog X 23 #[.iface T v] (tv n no ok) w) (c0 : w.cell? ⟨p, 0, none⟩ = some (.iface T v)) (c2 : w.cell? ⟨p, 2, none⟩ = some (.int .u8 1)) :
    Says Try.prog X 23 #[.iface 37 (.pointer (some ⟨p, 0, none⟩))] (tv n true ok) w := by
  intro w' hb
  have d0 := hb.cell hx c0
  have d2 := hb.cell hx c2
  have H := Lib.hid (h w' hb)
  clear h c0 c2
  unfold tv at H ⊢
  go_enter Try.func23, Try.ntmps23
  go_wp2_with fail
  refine H.out.mono ?_
  rintro e w2 ⟨rfl, hb2⟩
  have e2 := bcell hb2 d2
  have B := Lib.hid hb2
  clear hb2
  go_wp2_with (first | (go_at_call 44; go_in))
  go_ret3
  exact ⟨rfl, B.out⟩
theorem nu_comma {X : Nat → Prop} {n no ok : Bool} {T : Nat} {v : Value} {w : World} {p : Nat} (hx : ¬ X p) (h : Says Try.prog X 23 #[.iface T v] (tv n no ok) w) (c0 : w.cell? ⟨p, 2, none⟩ = some (.iface T v)) (c4 : w.cell? ⟨p, 4, none⟩ = some (.int .u8 36)) :
    Says Try.prog X 23 #[.iface 130 (.pointer (some ⟨p, 0, none⟩))] (if ok then tv n false true else tv false true false) w := by
  intro w' hb
  have d0 := hb.cell hx c0
  have d4 := hb.cell hx c4
  have H := Lib.hid (h w' hb)
  clear h c0 c4
  cases ok
  all_goals
    unfold tv at H ⊢
    go_enter Try.func23, Try.ntmps23
    go_wp2_with fail
    refine H.out.mono ?_
    rintro e w2 ⟨rfl, hb2⟩
    go_wp2_with fail
    go_ret3
    exact ⟨rfl, hb2⟩

/-- The leaves that are not operators. -/
theorem nu_null (X : Nat → Prop) (T : Nat) (v : Value) (w : World) (hT : T = 93 ∨ T = 96) : Says Try.prog X 23 #[.iface T v] (tv true true true) w := by
  intro w' hb
  clear hb
  rcases hT with rfl | rfl
  all_goals
    go_enter Try.func23, Try.ntmps23
    go_wp2
    go_ret3
    exact ⟨rfl, Below.refl _ _⟩
theorem nu_lit (X : Nat → Prop) (T : Nat) (v : Value) (w : World) (hT : T = 48 ∨ T = 98 ∨ T = 101 ∨ T = 121 ∨ T = 106 ∨ T = 118 ∨ T = 33) : Says Try.prog X 23 #[.iface T v] (tv false true true) w := by
  intro w' hb
  clear hb
  rcases hT with rfl | rfl | rfl | rfl | rfl | rfl | rfl
  all_goals
    go_enter Try.func23, Try.ntmps23
    go_wp2
    go_ret3
    exact ⟨rfl, Below.refl _ _⟩
theorem nu_obj (X : Nat → Prop) (T : Nat) (v : Value) (w : World) (hT : T = 143 ∨ T = 147 ∨ T = 151) : Says Try.prog X 23 #[.iface T v] (tv false false true) w := by
  intro w' hb
  clear hb
  rcases hT with rfl | rfl | rfl
  all_goals
    go_enter Try.func23, Try.ntmps23
    go_wp2
    go_ret3
    exact ⟨rfl, Below.refl _ _⟩
theorem nu_id (X : Nat → Prop) (v : Value) (w : World) : Says Try.prog X 23 #[.iface 32 v] (tv false true false) w := by
  intro w' hb
  clear hb
  go_enter Try.func23, Try.ntmps23
  go_wp2
  go_ret3
  exact ⟨rfl, Below.refl _ _⟩

/-- A unary or a binary operator over identifiers. -/
def un (o : Int) (ti : Bool) : Bool × Bool × Bool := if o = 4 then (true, false, true) else if o = 5 then (false, ti, true) else if o ≤ 10 then (false, false, true) else (false, true, false)
def binKnown (o : Int) : Bool := decide (11 ≤ o ∧ o ≤ 52 ∧ o ≠ 30 ∧ o ≠ 31 ∧ o ≠ 32 ∧ o ≠ 36 ∧ o ≠ 37 ∧ o ≠ 50 ∧ o ≠ 51 ∧ o ≠ 52)
theorem ret3b {a b : Bool} {c d : Int} {e f : Bool} (h : a = b) (k : c = d) (l : e = f) : Ending.returned (.tuple #[.bool a, .int .u8 c, .bool e]) = .returned (.tuple #[.bool b, .int .u8 d, .bool f]) := by rw [h, k, l]
set_option maxHeartbeats 4000000 in
theorem nu_un {X : Nat → Prop} (o : Int) (ti : Bool) {w : World} {p : Nat} (h0 : 0 ≤ o) (hx : ¬ X p) (c2 : w.cell? ⟨p, 2, none⟩ = some (.int .u8 o)) (c3 : w.cell? ⟨p, 3, none⟩ = some (.bool ti)) :
    Says Try.prog X 23 #[.iface 126 (.pointer (some ⟨p, 0, none⟩))] (tv (un o ti).1 (un o ti).2.1 (un o ti).2.2) w := by
  intro w' hb
  have d2 := hb.cell hx c2
  have d3 := hb.cell hx c3
  clear c2 c3
  have hc : o = 0 ∨ o = 1 ∨ o = 2 ∨ o = 3 ∨ o = 4 ∨ o = 5 ∨ o = 6 ∨ o = 7 ∨ o = 8 ∨ o = 9 ∨ o = 10 ∨ 11 ≤ o := by omega
  rcases hc with rfl | rfl | rfl | rfl | rfl | rfl | rfl | rfl | rfl | rfl | rfl | h
  all_goals try
    (cases ti
     all_goals
      go_enter Try.func23, Try.ntmps23
      go_wp2
      go_ret3
      exact ⟨rfl, Below.refl _ _⟩)
  have e : Hid (un o ti = (false, true, false)) := by
    show un o ti = _
    unfold un
    rw [if_neg (by omega), if_neg (by omega), if_neg (by omega)]
  rw [e.out]
  go_enter Try.func23, Try.ntmps23
  go_wp2
  go_ret3
  exact ⟨rfl, Below.refl _ _⟩

def bv (o : Int) : Value := if binKnown o then tv false false true else tv false true false
theorem bv_yes {o : Int} (h : binKnown o = true) : bv o = .tuple #[.bool false, .int .u8 0, .bool true] := by unfold bv; rw [h]; rfl
theorem bv_no {o : Int} (h : binKnown o = false) : bv o = .tuple #[.bool false, .int .u8 1, .bool false] := by unfold bv; rw [h]; rfl
theorem fin_yes {o : Int} (h : binKnown o = true) : Ending.returned (.tuple #[.bool false, .int .u8 0, .bool true]) = .returned (bv o) := by rw [bv_yes h]
theorem fin_no {o : Int} (h : binKnown o = false) : Ending.returned (.tuple #[.bool false, .int .u8 1, .bool false]) = .returned (bv o) := by rw [bv_no h]
set_option maxHeartbeats 8000000 in
theorem nu_bin {X : Nat → Prop} (o : Int) {w : World} {p : Nat} {v : Value} (h0 : 0 ≤ o) (h1 : o ≤ 255) (hx : ¬ X p) (c2 : w.cell? ⟨p, 2, none⟩ = some (.iface 32 v)) (c4 : w.cell? ⟨p, 4, none⟩ = some (.int .u8 o)) :
    Says Try.prog X 23 #[.iface 130 (.pointer (some ⟨p, 0, none⟩))] (bv o) w := by
  by_cases h36 : o = 36
  · subst h36
    have := nu_comma hx (nu_id X v w) c2 c4
    exact this
  · intro w' hb
    have d2 := hb.cell hx c2
    have d4 := hb.cell hx c4
    have h36' : (o == 36) = false := by simpa using h36
    clear c2 c4 h36 hb hx
    go_enter Try.func23, Try.ntmps23
    go_wp2
    all_goals
      go_ret3
      go_light
      first
        | exact ⟨fin_yes (decide_eq_true (by simp only [beq_eq_false_iff_ne, beq_iff_eq, ne_eq] at *; omega)), Below.refl _ _⟩
        | exact ⟨fin_no (decide_eq_false (by simp only [beq_eq_false_iff_ne, beq_iff_eq, ne_eq] at *; omega)), Below.refl _ _⟩
end Go.Proofs.Ytiejadamfgbidaa.nullish
