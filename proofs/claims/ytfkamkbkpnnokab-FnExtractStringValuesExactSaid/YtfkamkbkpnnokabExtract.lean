/- Contracts of 'extractStringValue' and of what the laws on it call. No conditions beyond their hypotheses. -/
import Derived.Test.YtfkamkbkpnnokabRows
import Derived.Test.YtfkamkbkpnnokabLib
import Derived.Test.YtfkamkbkpnnokabAsserts
import Derived.Test.YtfkamkbkpnnokabClones
import Derived.BigQuiet
import Derived.Deep.QuietTactic
namespace Go.Proofs.Ytfkamkbkpnnokab.extract
open Go.ChangeShapes Go.WideShapes Go.ChangeAt Go.RowKit Go.Mine
set_option linter.unusedVariables false
set_option maxRecDepth 100000

def res (a : Option Addr) (l c : Nat) (r : Bool) : Value := if r then .tuple #[.slice a l c, .bool true] else .tuple #[.slice none 0 0, .bool false]

theorem ex_ann {X : Nat → Prop} {a : Option Addr} {l c : Nat} {b : Bool} {D : Value} {w : World} {p : Nat} (hD : D = .nilIface ∨ ∃ T v, D = .iface T v) (hx : ¬ X p) (h : Says Try.prog X 50 #[D] (res a l c b) w) (c0 : w.cell? ⟨p, 0, none⟩ = some D) :
    Says Try.prog X 50 #[.iface 65 (.pointer (some ⟨p, 0, none⟩))] (res a l c b) w := by
  intro w' hb
  have d0 := hb.cell hx c0
  have H := Lib.hid (h w' hb)
  clear h c0
  unfold res at H ⊢
  cases b <;> rcases hD with rfl | ⟨T, v, rfl⟩
  all_goals
    go_enter Try.func50, Try.ntmps50
    go_wp2_with fail
    refine H.out.mono ?_
    rintro e w2 ⟨rfl, hb2⟩
    go_wp2_with fail
    go_ret2
    exact ⟨rfl, hb2⟩
theorem ex_inl {X : Nat → Prop} {a : Option Addr} {l c : Nat} {b : Bool} {D : Value} {w : World} {p : Nat} (hD : D = .nilIface ∨ ∃ T v, D = .iface T v) (hx : ¬ X p) (h : Says Try.prog X 50 #[D] (res a l c b) w) (c0 : w.cell? ⟨p, 0, none⟩ = some D) :
    Says Try.prog X 50 #[.iface 62 (.pointer (some ⟨p, 0, none⟩))] (res a l c b) w := by
  intro w' hb
  have d0 := hb.cell hx c0
  have H := Lib.hid (h w' hb)
  clear h c0
  unfold res at H ⊢
  cases b <;> rcases hD with rfl | ⟨T, v, rfl⟩
  all_goals
    go_enter Try.func50, Try.ntmps50
    go_wp2_with fail
    refine H.out.mono ?_
    rintro e w2 ⟨rfl, hb2⟩
    go_wp2_with fail
    go_ret2
    exact ⟨rfl, hb2⟩
theorem ex_str {X : Nat → Prop} {a : Option Addr} {l c : Nat} {w : World} {p : Nat} (hx : ¬ X p) (c0 : w.cell? ⟨p, 0, none⟩ = some (.slice a l c)) :
    Says Try.prog X 50 #[.iface 84 (.pointer (some ⟨p, 0, none⟩))] (res a l c true) w := by
  intro w' hb
  have d0 := hb.cell hx c0
  clear c0
  unfold res
  go_enter Try.func50, Try.ntmps50
  go_wp2_with fail
  go_ret2
  exact ⟨rfl, Below.refl _ _⟩
theorem ex_other (X : Nat → Prop) (a : Option Addr) (l c T : Nat) (v : Value) (w : World) (h1 : T ≠ 65) (h2 : T ≠ 62) (h3 : T ≠ 84) :
    Says Try.prog X 50 #[.iface T v] (res a l c false) w := by
  intro w' hb
  unfold res
  clear hb
  go_enter Try.func50, Try.ntmps50
  go_wp2_with fail
  go_ret2
  exact ⟨rfl, Below.refl _ _⟩
theorem ex_nil (X : Nat → Prop) (a : Option Addr) (l c : Nat) (w : World) : Says Try.prog X 50 #[.nilIface] (res a l c false) w := by
  intro w' hb
  unfold res
  clear hb
  go_enter Try.func50, Try.ntmps50
  go_wp2_with fail
  go_ret2
  exact ⟨rfl, Below.refl _ _⟩

/-- A leaf that a call made: whatever it is, extractStringValue says r of it. -/
def LeafPost (a : Option Addr) (l c : Nat) (r : Bool) (w : World) (e : Ending) (w' : World) : Prop :=
  ∃ D, e = .returned (.agg #[D, .int .i32 0]) ∧ (D = .nilIface ∨ ∃ T v, D = .iface T v) ∧ Below w.heap.size w w' ∧ ∀ X : Nat → Prop, (∀ k, X k → k < w.heap.size ∨ w'.heap.size ≤ k) → Says Try.prog X 50 #[D] (res a l c r) w'

set_option maxHeartbeats 4000000 in
theorem leaf49 (k : Int) (x : Nat) (a : Option Addr) (l c : Nat) (w : World) (h0 : 0 ≤ k) : Calls Try.prog 49 #[.int .u8 k, .float .f64 x, .slice a l c] w (LeafPost a l c (k % 6 == 1) w) := by
  have hc : k % 6 = 0 ∨ k % 6 = 1 ∨ k % 6 = 2 ∨ k % 6 = 3 ∨ k % 6 = 4 ∨ k % 6 = 5 := by omega
  rcases hc with h | h | h | h | h | h
  · have e : (k % 6 == 1) = false := by simp [h]
    rw [e]
    go_enter Try.func49, Try.ntmps49
    go_wp2
    refine bodyPost_ret (v := .agg #[_, .int .i32 0]) (by simp [results, Try.results49, go_sem]; try (first | exact ⟨rfl, rfl⟩ | rfl)) rfl ⟨_, rfl, .inr ⟨_, _, rfl⟩, ?_, fun X hX => ex_other _ _ _ _ _ _ _ (by decide) (by decide) (by decide)⟩
    go_light
    repeat (first | with_reducible exact Below.refl _ _ | with_reducible refine Below.drew ?_ | with_reducible refine Below.alloc ?_ (by simp <;> omega) _ | with_reducible refine Below.setCell ?_ (by simp <;> omega) _)
  · have e : (k % 6 == 1) = true := by simp [h]
    rw [e]
    go_enter Try.func49, Try.ntmps49
    go_wp2
    refine bodyPost_ret (v := .agg #[_, .int .i32 0]) (by simp [results, Try.results49, go_sem]; try (first | exact ⟨rfl, rfl⟩ | rfl)) rfl ⟨_, rfl, .inr ⟨_, _, rfl⟩, ?_, fun X hX => ex_str (fun hx => by have := hX _ hx; simp at this; omega) (by simp [go_sem])⟩
    go_light
    repeat (first | with_reducible exact Below.refl _ _ | with_reducible refine Below.drew ?_ | with_reducible refine Below.alloc ?_ (by simp <;> omega) _ | with_reducible refine Below.setCell ?_ (by simp <;> omega) _)
  all_goals try
   (have e : (k % 6 == 1) = false := by simp [h]
    rw [e]
    go_enter Try.func49, Try.ntmps49
    go_wp2
    refine bodyPost_ret (v := .agg #[_, .int .i32 0]) (by simp [results, Try.results49, go_sem]; try (first | exact ⟨rfl, rfl⟩ | rfl)) rfl ⟨_, rfl, .inr ⟨_, _, rfl⟩, ?_, fun X hX => ex_other _ _ _ _ _ _ _ (by decide) (by decide) (by decide)⟩
    go_light
    repeat (first | with_reducible exact Below.refl _ _ | with_reducible refine Below.drew ?_ | with_reducible refine Below.alloc ?_ (by simp <;> omega) _ | with_reducible refine Below.setCell ?_ (by simp <;> omega) _))
  · have e : (k % 6 == 1) = false := by simp [h]
    rw [e]
    go_enter Try.func49, Try.ntmps49
    go_wp2
    refine bodyPost_ret (v := .agg #[.nilIface, .int .i32 0]) (by simp [results, Try.results49, go_sem]) rfl ⟨_, rfl, .inl rfl, ?_, fun X hX => ex_nil _ _ _ _ _⟩
    go_light
    repeat (first | with_reducible exact Below.refl _ _ | with_reducible refine Below.drew ?_ | with_reducible refine Below.alloc ?_ (by simp <;> omega) _ | with_reducible refine Below.setCell ?_ (by simp <;> omega) _)
end Go.Proofs.Ytfkamkbkpnnokab.extract
