/- Contracts of the functions that the law 'FnTypeofWithoutSideEffectsTable' calls. No conditions beyond their hypotheses. -/
import Derived.Test.YtfkamkbkpnnokabRows
import Derived.Test.YtfkamkbkpnnokabLib
import Derived.Test.YtfkamkbkpnnokabAsserts
import Derived.Test.YtfkamkbkpnnokabClones
namespace Go.Proofs.Ytfkamkbkpnnokab.fnTypeofWithoutSideEffectsTable
open Go.ChangeShapes Go.WideShapes Go.ChangeAt Go.RowKit Go.Mine
set_option linter.unusedVariables false
set_option maxRecDepth 100000

def tyS (k : Int) : ByteArray :=
  if k = 0 then ⟨#[111, 98, 106, 101, 99, 116]⟩ else if k = 1 then ⟨#[117, 110, 100, 101, 102, 105, 110, 101, 100]⟩ else if k = 2 then ⟨#[98, 111, 111, 108, 101, 97, 110]⟩
  else if k = 3 then ⟨#[110, 117, 109, 98, 101, 114]⟩ else if k = 4 then ⟨#[115, 116, 114, 105, 110, 103]⟩ else if k = 5 then ⟨#[98, 105, 103, 105, 110, 116]⟩
  else if k = 8 ∨ k = 9 then ⟨#[102, 117, 110, 99, 116, 105, 111, 110]⟩ else ⟨#[]⟩
def tyB (k : Int) : Bool := decide (k = 0 ∨ k = 1 ∨ k = 2 ∨ k = 3 ∨ k = 4 ∨ k = 5 ∨ k = 8 ∨ k = 9)
def tyV (k : Int) : Value := .tuple #[.string (tyS k), .bool (tyB k)]
def noV : Value := .tuple #[.string ⟨#[]⟩, .bool false]

theorem bytes_any (a0 : Int) (a : Option Addr) (l c : Nat) (w : World) (hl : l ≤ maxLen) :
    Calls Try.prog 39 #[.int .u8 a0, .slice a l c] w fun e w' => (∃ r : Bool, e = .returned (.bool r)) ∧ w = w' := by
  unfold maxLen at hl
  go_enter Try.func39, Try.ntmps39
  go_wp2
  all_goals
    go_ret
    exact ⟨⟨_, rfl⟩, rfl⟩

theorem kinds (k : Int) (h0 : 0 ≤ k) : k = 0 ∨ k = 1 ∨ k = 2 ∨ k = 3 ∨ k = 4 ∨ k = 5 ∨ k = 6 ∨ k = 7 ∨ k = 8 ∨ k = 9 ∨ 10 ≤ k := by omega

theorem tyv_other {k : Int} (h : 10 ≤ k) : tyV k = noV := by
  have h1 : tyS k = ⟨#[]⟩ := by unfold tyS; simp [show k ≠ 0 by omega, show k ≠ 1 by omega, show k ≠ 2 by omega, show k ≠ 3 by omega, show k ≠ 4 by omega, show k ≠ 5 by omega, show k ≠ 8 by omega, show k ≠ 9 by omega]
  have h2 : tyB k = false := by unfold tyB; simp; omega
  unfold tyV noV; rw [h1, h2]

theorem want_any (k : Int) (w : World) (h0 : 0 ≤ k) (h1 : k ≤ 255) : Calls Try.prog 43 #[.int .u8 k] w fun e w' => e = .returned (tyV k) ∧ w = w' := by
  rcases kinds k h0 with rfl | rfl | rfl | rfl | rfl | rfl | rfl | rfl | rfl | rfl | h
  all_goals try
    (go_enter Try.func43, Try.ntmps43
     go_wp2
     go_ret2
     exact ⟨rfl, rfl⟩)
  have H := Lib.hid (tyv_other h)
  go_enter Try.func43, Try.ntmps43
  go_wp2
  go_ret2
  exact ⟨by rw [H.out]; rfl, rfl⟩

def LeafPost (k : Int) (w : World) (e : Ending) (w' : World) : Prop :=
  ∃ T v, e = .returned (.agg #[.iface T v, .int .i32 0]) ∧ Below w.heap.size w w' ∧ ∀ X, Says Try.prog X 42 #[.iface T v] (tyV k) w'

set_option maxHeartbeats 4000000 in
theorem leaf_any (k : Int) (w : World) (h0 : 0 ≤ k) (h1 : k ≤ 255) : Calls Try.prog 41 #[.int .u8 k] w (LeafPost k w) := by
  rcases kinds k h0 with rfl | rfl | rfl | rfl | rfl | rfl | rfl | rfl | rfl | rfl | h
  all_goals try
    (go_enter Try.func41, Try.ntmps41
     go_wp2
     refine bodyPost_ret (v := .agg #[_, .int .i32 0]) (by simp [results, Try.results41, go_sem]; try (first | exact ⟨rfl, rfl⟩ | rfl)) rfl ⟨_, _, rfl, ?_, ?_⟩
     · go_light
       repeat (first | with_reducible exact Below.refl _ _ | with_reducible refine Below.drew ?_ | with_reducible refine Below.alloc ?_ (by simp <;> omega) _ | with_reducible refine Below.setCell ?_ (by simp <;> omega) _)
     · go_light
       intro X w' _
       go_enter Try.func42, Try.ntmps42
       go_wp2
       go_ret2
       exact ⟨rfl, Below.refl _ _⟩)
  have H := Lib.hid (tyv_other h)
  go_enter Try.func41, Try.ntmps41
  go_wp2
  refine bodyPost_ret (v := .agg #[_, .int .i32 0]) (by simp [results, Try.results41, go_sem]; try (first | exact ⟨rfl, rfl⟩ | rfl)) rfl ⟨_, _, rfl, ?_, ?_⟩
  · go_light
    repeat (first | with_reducible exact Below.refl _ _ | with_reducible refine Below.drew ?_ | with_reducible refine Below.alloc ?_ (by simp <;> omega) _ | with_reducible refine Below.setCell ?_ (by simp <;> omega) _)
  · go_light
    intro X w' _
    rw [H.out]
    go_enter Try.func42, Try.ntmps42
    go_wp2
    go_ret2
    exact ⟨rfl, Below.refl _ _⟩

theorem ty_inl {X : Nat → Prop} {s : ByteArray} {b : Bool} {T : Nat} {v : Value} {w : World} {p : Nat} (hx : ¬ X p) (h : Says Try.prog X 42 #[.iface T v] (.tuple #[.string s, .bool b]) w) (c0 : w.cell? ⟨p, 0, none⟩ = some (.iface T v)) :
    Says Try.prog X 42 #[.iface 62 (.pointer (some ⟨p, 0, none⟩))] (.tuple #[.string s, .bool b]) w := by
  intro w' hb
  have d0 := hb.cell hx c0
  have H := Lib.hid (h w' hb)
  clear h c0
  go_enter Try.func42, Try.ntmps42
  go_wp2_with fail
  refine H.out.mono ?_
  rintro e w2 ⟨rfl, hb2⟩
  go_wp2_with fail
  go_ret2
  exact ⟨rfl, hb2⟩
theorem ty_ann1 {X : Nat → Prop} {s : ByteArray} {b : Bool} {T : Nat} {v : Value} {w : World} {p : Nat} (hx : ¬ X p) (h : Says Try.prog X 42 #[.iface T v] (.tuple #[.string s, .bool b]) w) (c0 : w.cell? ⟨p, 0, none⟩ = some (.iface T v))
    (c2 : w.cell? ⟨p, 2, none⟩ = some (.int .u8 1)) : Says Try.prog X 42 #[.iface 65 (.pointer (some ⟨p, 0, none⟩))] (.tuple #[.string s, .bool b]) w := by
  intro w' hb
  have d0 := hb.cell hx c0
  have d2 := hb.cell hx c2
  have H := Lib.hid (h w' hb)
  clear h c0 c2
  go_enter Try.func42, Try.ntmps42
  go_wp2_with (go_at_call 54; go_in)
  refine H.out.mono ?_
  rintro e w2 ⟨rfl, hb2⟩
  go_wp2_with fail
  go_ret2
  exact ⟨rfl, hb2⟩
theorem ty_ann0 {X : Nat → Prop} {w : World} {p : Nat} (hx : ¬ X p) (c2 : w.cell? ⟨p, 2, none⟩ = some (.int .u8 0)) : Says Try.prog X 42 #[.iface 65 (.pointer (some ⟨p, 0, none⟩))] noV w := by
  intro w' hb
  have d2 := hb.cell hx c2
  clear c2
  go_enter Try.func42, Try.ntmps42
  go_wp2_with (go_at_call 54; go_in)
  go_ret2
  exact ⟨rfl, Below.refl _ _⟩

end Go.Proofs.Ytfkamkbkpnnokab.fnTypeofWithoutSideEffectsTable
