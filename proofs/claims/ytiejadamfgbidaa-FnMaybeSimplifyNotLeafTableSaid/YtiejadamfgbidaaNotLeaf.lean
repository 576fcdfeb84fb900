/- What 'MaybeSimplifyNot' answers on each leaf of the package n011_46. No conditions beyond their hypotheses. -/
import Derived.Test.YtiejadamfgbidaaRows
import Derived.Test.YtiejadamfgbidaaLib
import Derived.Test.YtiejadamfgbidaaAsserts
import Derived.Test.YtiejadamfgbidaaLeafA
import Derived.Deep.RegionHeld3
import Derived.Deep.RegionWith
import Derived.RegionTactic
namespace Go.Proofs.Ytiejadamfgbidaa.notLeaf
open Go.ChangeShapes Go.WideShapes Go.ChangeAt Go.RowKit Go.Mine leaf46
set_option linter.unusedVariables false
set_option maxRecDepth 100000

abbrev ord (x y : Nat) : Option Ordering := FloatKind.f64.format.order x y
theorem order_nan (x : Nat) : (ord x x != some .eq) = (ord x 0 == none) := by
  have h0 : ∃ s m i, FloatKind.f64.format.read 0 = .number s m i := ⟨_, _, _, rfl⟩
  obtain ⟨s, m, i, h0⟩ := h0
  show ((FloatKind.f64.format.read x).order (FloatKind.f64.format.read x) != some .eq) = ((FloatKind.f64.format.read x).order (FloatKind.f64.format.read 0) == none)
  rw [h0]
  cases FloatKind.f64.format.read x <;> simp [Ieee.Datum.order]

def rad (a : ByteArray) : Bool := if h : 2 ≤ a.size then (a[0].toNat : Int) == 48 else false
def zeroS : List UInt8 := [48]
/-- Is '!v' known, and what is it. -/
def known (k : Int) (big : ByteArray) : Bool := if k = 5 then (big.toList == zeroS || !rad big) else decide (k ≤ 8)
def val (k : Int) (b : Bool) (x : Nat) (l : Nat) (big : ByteArray) : Bool :=
  if k = 0 ∨ k = 1 then true else if k = 2 then !b else if k = 3 then (!(ord x 0 == some .lt) && !(ord x 0 == some .gt)) else if k = 4 then decide (l = 0) else if k = 5 then big.toList == zeroS else false

def NotPost (kn vl : Bool) (loc : Int) (w : World) (e : Ending) (w' : World) : Prop :=
  Below w.heap.size w w' ∧ ((kn = true ∧ ∃ q, e = .returned (.tuple #[.agg #[.iface 48 (.pointer (some ⟨q, 0, none⟩)), .int .i32 loc], .bool true]) ∧ w'.cell? ⟨q, 0, none⟩ = some (.bool vl)) ∨
    (kn = false ∧ e = .returned (.tuple #[.agg #[.nilIface, .int .i32 0], .bool false])))

theorem nan_any (x : Nat) (w : World) : Calls Try.prog 41 #[.float .f64 x] w fun e w' => e = .returned (.bool (ord x 0 == none)) ∧ w = w' := by
  have H := Lib.hid (order_nan x)
  go_enter Try.func41, Try.ntmps41
  go_wp2
  go_ret
  exact ⟨ret_bool2 H.out, rfl⟩

theorem not0 (T p : Nat) (loc : Int) (w : World) (hT : T = 93 ∨ T = 96) : Calls Try.prog 12 #[.agg #[.iface T (.pointer (some ⟨p, 0, none⟩)), .int .i32 loc]] w (NotPost true true loc w) := by
  rcases hT with rfl | rfl
  all_goals
    go_enter Try.func12, Try.ntmps12
    go_wp2
    refine bodyPost_ret (v := .tuple #[.agg #[.iface 48 (.pointer (some ⟨_, 0, none⟩)), .int .i32 loc], .bool true]) (by simp [results, Try.results12, go_sem]; rfl) rfl ⟨?_, .inl ⟨rfl, _, rfl, by simp [go_sem]⟩⟩
    go_light
    repeat (first | with_reducible exact Below.refl _ _ | with_reducible refine Below.drew ?_ | with_reducible refine Below.alloc ?_ (by simp <;> omega) _ | with_reducible refine Below.setCell ?_ (by simp <;> omega) _)

theorem not6 (T p : Nat) (loc : Int) (w : World) (hT : T = 106 ∨ T = 118 ∨ T = 121) : Calls Try.prog 12 #[.agg #[.iface T (.pointer (some ⟨p, 0, none⟩)), .int .i32 loc]] w (NotPost true false loc w) := by
  rcases hT with rfl | rfl | rfl
  all_goals
    go_enter Try.func12, Try.ntmps12
    go_wp2
    refine bodyPost_ret (v := .tuple #[.agg #[.iface 48 (.pointer (some ⟨_, 0, none⟩)), .int .i32 loc], .bool true]) (by simp [results, Try.results12, go_sem]; rfl) rfl ⟨?_, .inl ⟨rfl, _, rfl, by simp [go_sem]⟩⟩
    go_light
    repeat (first | with_reducible exact Below.refl _ _ | with_reducible refine Below.drew ?_ | with_reducible refine Below.alloc ?_ (by simp <;> omega) _ | with_reducible refine Below.setCell ?_ (by simp <;> omega) _)

theorem not9 (T p : Nat) (loc : Int) (w : World) (hT : T = 32 ∨ T = 34) : Calls Try.prog 12 #[.agg #[.iface T (.pointer (some ⟨p, 0, none⟩)), .int .i32 loc]] w (NotPost false false loc w) := by
  rcases hT with rfl | rfl
  all_goals
    go_enter Try.func12, Try.ntmps12
    go_wp2
    refine bodyPost_ret (v := .tuple #[.agg #[.nilIface, .int .i32 0], .bool false]) (by simp [results, Try.results12, go_sem]) rfl ⟨?_, .inr ⟨rfl, rfl⟩⟩
    go_light
    repeat (first | with_reducible exact Below.refl _ _ | with_reducible refine Below.drew ?_ | with_reducible refine Below.alloc ?_ (by simp <;> omega) _ | with_reducible refine Below.setCell ?_ (by simp <;> omega) _)

theorem not2 (p : Nat) (b : Bool) (loc : Int) (w : World) (hc : w.cell? ⟨p, 0, none⟩ = some (.bool b)) : Calls Try.prog 12 #[.agg #[.iface 48 (.pointer (some ⟨p, 0, none⟩)), .int .i32 loc]] w (NotPost true (!b) loc w) := by
  have hp0 : p < w.heap.size := cell_lt hc
  have hp1 : p < w.heap.size + 1 := by omega
  have hp2 : p < w.heap.size + 1 + 1 := by omega
  have hp3 : p < w.heap.size + 1 + 1 + 1 := by omega
  go_enter Try.func12, Try.ntmps12
  go_wp2
  go_region_held3 (fun w' => w'.cell? ⟨w.heap.size, 1, none⟩ = some (.int .i32 loc) ∧ w'.cell? ⟨p, 0, none⟩ = some (.bool b)) ((first | (simp [go_sem]; done) | (simp [go_sem, hp0, hp1, hp2, hp3, hc]; done) | (go_keep; done)))
    (fail)
  all_goals
    go_wp2
    refine bodyPost_ret (v := .tuple #[.agg #[.iface 48 (.pointer (some ⟨_, 0, none⟩)), .int .i32 loc], .bool true]) (by simp [results, Try.results12, go_sem]; rfl) rfl ⟨?_, .inl ⟨rfl, _, rfl, by simp [go_sem]⟩⟩
    go_light
    repeat (first | with_reducible exact Below.refl _ _ | with_reducible refine Below.drew ?_ | with_reducible refine Below.alloc ?_ (by simp <;> omega) _ | with_reducible refine Below.setCell ?_ (by simp <;> omega) _)

theorem not4 (p : Nat) (a : Option Addr) (l c : Nat) (loc : Int) (w : World) (hl : l ≤ 1048576) (hc : w.cell? ⟨p, 0, none⟩ = some (.slice a l c)) : Calls Try.prog 12 #[.agg #[.iface 101 (.pointer (some ⟨p, 0, none⟩)), .int .i32 loc]] w (NotPost true (decide (l = 0)) loc w) := by
  have hp0 : p < w.heap.size := cell_lt hc
  have hp1 : p < w.heap.size + 1 := by omega
  have hp2 : p < w.heap.size + 1 + 1 := by omega
  have hp3 : p < w.heap.size + 1 + 1 + 1 := by omega
  have eq : ((l : Int) == 0) = decide (l = 0) := by rw [Bool.eq_iff_iff]; simp
  obtain ⟨q, hq⟩ : ∃ q, q = decide (l = 0) := ⟨_, rfl⟩
  rw [← hq] at eq ⊢
  clear hq
  go_enter Try.func12, Try.ntmps12
  go_wp2
  go_region_held3 (fun w' => w'.cell? ⟨w.heap.size, 1, none⟩ = some (.int .i32 loc) ∧ w'.cell? ⟨p, 0, none⟩ = some (.slice a l c)) ((first | (simp [go_sem]; done) | (simp [go_sem, hp0, hp1, hp2, hp3, hc]; done) | (go_keep; done)))
    (fail)
  all_goals
    go_wp2
    refine bodyPost_ret (v := .tuple #[.agg #[.iface 48 (.pointer (some ⟨_, 0, none⟩)), .int .i32 loc], .bool true]) (by simp [results, Try.results12, go_sem]; rfl) rfl ⟨?_, .inl ⟨rfl, _, rfl, by simp [go_sem]⟩⟩
    go_light
    repeat (first | with_reducible exact Below.refl _ _ | with_reducible refine Below.drew ?_ | with_reducible refine Below.alloc ?_ (by simp <;> omega) _ | with_reducible refine Below.setCell ?_ (by simp <;> omega) _)

set_option maxHeartbeats 4000000 in
theorem not3a (p : Nat) (x : Nat) (loc : Int) (w : World) (hc : w.cell? ⟨p, 0, none⟩ = some (.float .f64 x)) (h : (FloatKind.f64.format.order x 0 == some Ordering.eq) = true) : Calls Try.prog 12 #[.agg #[.iface 98 (.pointer (some ⟨p, 0, none⟩)), .int .i32 loc]] w (NotPost true true loc w) := by
  have hp0 : p < w.heap.size := cell_lt hc
  have hp1 : p < w.heap.size + 1 := by omega
  have hp2 : p < w.heap.size + 1 + 1 := by omega
  have hp3 : p < w.heap.size + 1 + 1 + 1 := by omega
  go_enter Try.func12, Try.ntmps12
  go_wp2
  go_region
  all_goals
    go_wp2
    refine bodyPost_ret (v := .tuple #[.agg #[.iface 48 (.pointer (some ⟨_, 0, none⟩)), .int .i32 loc], .bool true]) (by simp [results, Try.results12, go_sem]; rfl) rfl ⟨?_, .inl ⟨rfl, _, rfl, by simp [go_sem]⟩⟩
    go_light
    repeat (first | with_reducible exact Below.refl _ _ | with_reducible refine Below.drew ?_ | with_reducible refine Below.alloc ?_ (by simp <;> omega) _ | with_reducible refine Below.setCell ?_ (by simp <;> omega) _)
set_option maxHeartbeats 4000000 in
theorem not3b (p : Nat) (x : Nat) (loc : Int) (w : World) (hc : w.cell? ⟨p, 0, none⟩ = some (.float .f64 x)) (h : (FloatKind.f64.format.order x 0 == some Ordering.eq) = false) : Calls Try.prog 12 #[.agg #[.iface 98 (.pointer (some ⟨p, 0, none⟩)), .int .i32 loc]] w (NotPost true (ord x 0 == none) loc w) := by
  have hp0 : p < w.heap.size := cell_lt hc
  have hp1 : p < w.heap.size + 1 := by omega
  have hp2 : p < w.heap.size + 1 + 1 := by omega
  have hp3 : p < w.heap.size + 1 + 1 + 1 := by omega
  obtain ⟨q, hq⟩ : ∃ q, q = (ord x 0 == none) := ⟨_, rfl⟩
  have HN : Hid (∀ w, Calls Try.prog 41 #[.float .f64 x] w fun e w' => e = .returned (.bool q) ∧ w = w') := by rw [hq]; exact fun w => nan_any x w
  rw [← hq]
  clear hq
  go_enter Try.func12, Try.ntmps12
  go_wp2
  go_region_held3 (fun w' => w'.cell? ⟨w.heap.size, 1, none⟩ = some (.int .i32 loc) ∧ w'.cell? ⟨p, 0, none⟩ = some (.float .f64 x)) ((first | (simp [go_sem]; done) | (simp [go_sem, hp0, hp1, hp2, hp3, hc]; done) | (go_keep; done)))
    (first | (go_at_call 41; refine (HN.out _).mono ?_; rintro e w' ⟨rfl, rfl⟩))
  all_goals
    go_wp2
    refine bodyPost_ret (v := .tuple #[.agg #[.iface 48 (.pointer (some ⟨_, 0, none⟩)), .int .i32 loc], .bool true]) (by simp [results, Try.results12, go_sem]; rfl) rfl ⟨?_, .inl ⟨rfl, _, rfl, by simp [go_sem]⟩⟩
    go_light
    repeat (first | with_reducible exact Below.refl _ _ | with_reducible refine Below.drew ?_ | with_reducible refine Below.alloc ?_ (by simp <;> omega) _ | with_reducible refine Below.setCell ?_ (by simp <;> omega) _)

theorem not3 (p : Nat) (x : Nat) (loc : Int) (w : World) (hc : w.cell? ⟨p, 0, none⟩ = some (.float .f64 x)) : Calls Try.prog 12 #[.agg #[.iface 98 (.pointer (some ⟨p, 0, none⟩)), .int .i32 loc]] w (NotPost true (ord x 0 == some .eq || ord x 0 == none) loc w) := by
  by_cases h : (ord x 0 == some .eq) = true
  · rw [h, Bool.true_or]; exact not3a p x loc w hc h
  · rw [Bool.eq_false_iff.2 h, Bool.false_or]; exact not3b p x loc w hc (Bool.eq_false_iff.2 h)

end Go.Proofs.Ytiejadamfgbidaa.notLeaf
