/- The contract of 'zzBuild' of the package n011_35: what it builds, and its known primitive type. No conditions beyond their hypotheses. -/
import Derived.Test.YtiejadamfgbidaaRows
import Derived.Test.YtiejadamfgbidaaLib
import Derived.Test.YtiejadamfgbidaaAsserts
import Derived.Deep.RegionHeld3
import Derived.Outline
namespace Go.Proofs.Ytiejadamfgbidaa.build27
open Go.ChangeShapes Go.WideShapes Go.ChangeAt Go.RowKit Go.Mine
set_option linter.unusedVariables false
set_option maxRecDepth 100000

theorem ident_any (w : World) : Calls Try.prog 45 #[] w fun e w' => e = .returned (.agg #[.iface 32 (.pointer (some ⟨w.heap.size + 1, 0, none⟩)), .int .i32 0]) ∧ ∃ o1 o2, w' = (w.alloc o1).alloc o2 := by
  go_enter Try.func45, Try.ntmps45
  go_wp2
  exact bodyPost_ret (v := .agg #[.iface 32 (.pointer (some ⟨w.heap.size + 1, 0, none⟩)), .int .i32 0]) (by simp [results, Try.results45, go_sem]) rfl ⟨rfl, _, _, rfl⟩
def ty (k : Int) : Int := if k = 0 then 2 else if k = 1 then 3 else if k = 11 then 3 else if k = 2 then 4 else if k = 12 then 4 else if k = 3 then 5 else if k = 13 then 5 else if k = 4 then 6 else if k = 10 then 6 else if k = 14 then 6 else if k = 5 then 7 else 0
/-- What node of the kind c lies behind the data value D (none: nil). -/
def Node (c : Int) (w : World) (B : Nat) (D : Value) : Prop :=
  (c = 15 ∧ D = .nilIface) ∨ ∃ T p, D = .iface T (.pointer (some ⟨p, 0, none⟩)) ∧ B ≤ p ∧ p < w.heap.size ∧
    ((T = 93 ∧ c = 0) ∨ (T = 96 ∧ c = 1) ∨ (T = 48 ∧ c = 2) ∨ (T = 98 ∧ c = 3) ∨ (T = 101 ∧ c = 4) ∨ (T = 33 ∧ c = 5) ∨ (T = 126 ∧ c = 10 ∧ w.cell? ⟨p, 2, none⟩ = some (.int .u8 5)) ∨ (T = 126 ∧ c = 11 ∧ w.cell? ⟨p, 2, none⟩ = some (.int .u8 4)) ∨
     (T = 130 ∧ c = 12 ∧ w.cell? ⟨p, 4, none⟩ = some (.int .u8 28)) ∨ (T = 37 ∧ c = 13 ∧ ∃ q, w.cell? ⟨p, 0, none⟩ = some (.iface 98 (.pointer (some ⟨q, 0, none⟩)))) ∨ (T = 41 ∧ c = 14 ∧ ∃ q, w.cell? ⟨p, 0, none⟩ = some (.iface 101 (.pointer (some ⟨q, 0, none⟩)))) ∨
     ((T = 32 ∨ T = 161 ∨ T = 165 ∨ T = 168 ∨ T = 118 ∨ T = 143) ∧ (c = 6 ∨ c = 7 ∨ c = 8 ∨ c = 9 ∨ c = 16 ∨ c = 17)) ∨
     (T = 37 ∧ c = 18 ∧ ∃ q, w.cell? ⟨p, 0, none⟩ = some (.iface 161 (.pointer (some ⟨q, 0, none⟩)))) ∨ (T = 41 ∧ c = 19 ∧ ∃ q, w.cell? ⟨p, 0, none⟩ = some (.iface 165 (.pointer (some ⟨q, 0, none⟩)))))
def Built (c : Int) (l : Int) (w : World) (e : Ending) (w' : World) : Prop := ∃ D, e = .returned (.agg #[D, .int .i32 l]) ∧ Below w.heap.size w w' ∧ Node c w' w.heap.size D
set_option maxHeartbeats 1000000 in
theorem build0 (a0 a1 : Int) (a2 : Bool) (a3 : Nat) (a4 : Int) (w : World) (h0 : 0 ≤ a0) (h : a0 % 20 = 0) :
    Calls Try.prog 27 #[.int .u8 a0, .int .u8 a1, .bool a2, .float .f64 a3, .int .i32 a4] w (Built 0 a4 w) := by
  go_enter Try.func27, Try.ntmps27
  go_wp2
  all_goals
    refine bodyPost_ret (v := .agg #[_, .int .i32 a4]) (by simp [results, Try.results27, go_sem]; try (first | exact ⟨rfl, rfl⟩ | rfl)) rfl ⟨_, rfl, ?_, (.inr ⟨_, _, rfl, by first | omega | (simp <;> omega), by first | omega | (simp <;> omega), (.inl ⟨rfl, rfl⟩)⟩)⟩
    go_light
    repeat (first | with_reducible exact Below.refl _ _ | with_reducible refine Below.drew ?_ | with_reducible refine Below.alloc ?_ (by simp <;> omega) _ | with_reducible refine Below.setCell ?_ (by simp <;> omega) _)

set_option maxHeartbeats 1000000 in
theorem build1 (a0 a1 : Int) (a2 : Bool) (a3 : Nat) (a4 : Int) (w : World) (h0 : 0 ≤ a0) (h : a0 % 20 = 1) :
    Calls Try.prog 27 #[.int .u8 a0, .int .u8 a1, .bool a2, .float .f64 a3, .int .i32 a4] w (Built 1 a4 w) := by
  go_enter Try.func27, Try.ntmps27
  go_wp2
  all_goals
    refine bodyPost_ret (v := .agg #[_, .int .i32 a4]) (by simp [results, Try.results27, go_sem]; try (first | exact ⟨rfl, rfl⟩ | rfl)) rfl ⟨_, rfl, ?_, (.inr ⟨_, _, rfl, by first | omega | (simp <;> omega), by first | omega | (simp <;> omega), (.inr (.inl ⟨rfl, rfl⟩))⟩)⟩
    go_light
    repeat (first | with_reducible exact Below.refl _ _ | with_reducible refine Below.drew ?_ | with_reducible refine Below.alloc ?_ (by simp <;> omega) _ | with_reducible refine Below.setCell ?_ (by simp <;> omega) _)

set_option maxHeartbeats 1000000 in
theorem build2 (a0 a1 : Int) (a2 : Bool) (a3 : Nat) (a4 : Int) (w : World) (h0 : 0 ≤ a0) (h : a0 % 20 = 2) :
    Calls Try.prog 27 #[.int .u8 a0, .int .u8 a1, .bool a2, .float .f64 a3, .int .i32 a4] w (Built 2 a4 w) := by
  go_enter Try.func27, Try.ntmps27
  go_wp2
  all_goals
    refine bodyPost_ret (v := .agg #[_, .int .i32 a4]) (by simp [results, Try.results27, go_sem]; try (first | exact ⟨rfl, rfl⟩ | rfl)) rfl ⟨_, rfl, ?_, (.inr ⟨_, _, rfl, by first | omega | (simp <;> omega), by first | omega | (simp <;> omega), (.inr (.inr (.inl ⟨rfl, rfl⟩)))⟩)⟩
    go_light
    repeat (first | with_reducible exact Below.refl _ _ | with_reducible refine Below.drew ?_ | with_reducible refine Below.alloc ?_ (by simp <;> omega) _ | with_reducible refine Below.setCell ?_ (by simp <;> omega) _)

set_option maxHeartbeats 1000000 in
theorem build3 (a0 a1 : Int) (a2 : Bool) (a3 : Nat) (a4 : Int) (w : World) (h0 : 0 ≤ a0) (h : a0 % 20 = 3) :
    Calls Try.prog 27 #[.int .u8 a0, .int .u8 a1, .bool a2, .float .f64 a3, .int .i32 a4] w (Built 3 a4 w) := by
  go_enter Try.func27, Try.ntmps27
  go_wp2
  all_goals
    refine bodyPost_ret (v := .agg #[_, .int .i32 a4]) (by simp [results, Try.results27, go_sem]; try (first | exact ⟨rfl, rfl⟩ | rfl)) rfl ⟨_, rfl, ?_, (.inr ⟨_, _, rfl, by first | omega | (simp <;> omega), by first | omega | (simp <;> omega), (.inr (.inr (.inr (.inl ⟨rfl, rfl⟩))))⟩)⟩
    go_light
    repeat (first | with_reducible exact Below.refl _ _ | with_reducible refine Below.drew ?_ | with_reducible refine Below.alloc ?_ (by simp <;> omega) _ | with_reducible refine Below.setCell ?_ (by simp <;> omega) _)

set_option maxHeartbeats 1000000 in
theorem build4 (a0 a1 : Int) (a2 : Bool) (a3 : Nat) (a4 : Int) (w : World) (h0 : 0 ≤ a0) (h : a0 % 20 = 4) :
    Calls Try.prog 27 #[.int .u8 a0, .int .u8 a1, .bool a2, .float .f64 a3, .int .i32 a4] w (Built 4 a4 w) := by
  go_enter Try.func27, Try.ntmps27
  go_wp2
  all_goals
    refine bodyPost_ret (v := .agg #[_, .int .i32 a4]) (by simp [results, Try.results27, go_sem]; try (first | exact ⟨rfl, rfl⟩ | rfl)) rfl ⟨_, rfl, ?_, (.inr ⟨_, _, rfl, by first | omega | (simp <;> omega), by first | omega | (simp <;> omega), (.inr (.inr (.inr (.inr (.inl ⟨rfl, rfl⟩)))))⟩)⟩
    go_light
    repeat (first | with_reducible exact Below.refl _ _ | with_reducible refine Below.drew ?_ | with_reducible refine Below.alloc ?_ (by simp <;> omega) _ | with_reducible refine Below.setCell ?_ (by simp <;> omega) _)

set_option maxHeartbeats 1000000 in
theorem build5 (a0 a1 : Int) (a2 : Bool) (a3 : Nat) (a4 : Int) (w : World) (h0 : 0 ≤ a0) (h : a0 % 20 = 5) :
    Calls Try.prog 27 #[.int .u8 a0, .int .u8 a1, .bool a2, .float .f64 a3, .int .i32 a4] w (Built 5 a4 w) := by
  go_enter Try.func27, Try.ntmps27
  go_wp2
  all_goals
    refine bodyPost_ret (v := .agg #[_, .int .i32 a4]) (by simp [results, Try.results27, go_sem]; try (first | exact ⟨rfl, rfl⟩ | rfl)) rfl ⟨_, rfl, ?_, (.inr ⟨_, _, rfl, by first | omega | (simp <;> omega), by first | omega | (simp <;> omega), (.inr (.inr (.inr (.inr (.inr (.inl ⟨rfl, rfl⟩))))))⟩)⟩
    go_light
    repeat (first | with_reducible exact Below.refl _ _ | with_reducible refine Below.drew ?_ | with_reducible refine Below.alloc ?_ (by simp <;> omega) _ | with_reducible refine Below.setCell ?_ (by simp <;> omega) _)

set_option maxHeartbeats 1000000 in
theorem build6 (a0 a1 : Int) (a2 : Bool) (a3 : Nat) (a4 : Int) (w : World) (h0 : 0 ≤ a0) (h : a0 % 20 = 6) :
    Calls Try.prog 27 #[.int .u8 a0, .int .u8 a1, .bool a2, .float .f64 a3, .int .i32 a4] w (Built 6 a4 w) := by
  go_enter Try.func27, Try.ntmps27
  go_wp2
  all_goals
    refine bodyPost_ret (v := .agg #[_, .int .i32 a4]) (by simp [results, Try.results27, go_sem]; try (first | exact ⟨rfl, rfl⟩ | rfl)) rfl ⟨_, rfl, ?_, (.inr ⟨_, _, rfl, by first | omega | (simp <;> omega), by first | omega | (simp <;> omega), (.inr (.inr (.inr (.inr (.inr (.inr (.inr (.inr (.inr (.inr (.inr (.inl ⟨by decide, by decide⟩))))))))))))⟩)⟩
    go_light
    repeat (first | with_reducible exact Below.refl _ _ | with_reducible refine Below.drew ?_ | with_reducible refine Below.alloc ?_ (by simp <;> omega) _ | with_reducible refine Below.setCell ?_ (by simp <;> omega) _)

set_option maxHeartbeats 1000000 in
theorem build7 (a0 a1 : Int) (a2 : Bool) (a3 : Nat) (a4 : Int) (w : World) (h0 : 0 ≤ a0) (h : a0 % 20 = 7) :
    Calls Try.prog 27 #[.int .u8 a0, .int .u8 a1, .bool a2, .float .f64 a3, .int .i32 a4] w (Built 7 a4 w) := by
  go_enter Try.func27, Try.ntmps27
  go_wp2
  go_region_held3 (fun w' => w'.cell? ⟨w.heap.size + 1, 0, none⟩ = some (.int .i32 a4)) ((first | (simp [go_sem]; done) | (go_keep; done)))
    (first | (go_at_call 45; refine (ident_any _).mono ?_; rintro e w' ⟨rfl, o1, o2, rfl⟩))
  all_goals go_wp2
  all_goals
    refine bodyPost_ret (v := .agg #[_, .int .i32 a4]) (by simp [results, Try.results27, go_sem]; try (first | exact ⟨rfl, rfl⟩ | rfl)) rfl ⟨_, rfl, ?_, (.inr ⟨_, _, rfl, by first | omega | (simp <;> omega), by first | omega | (simp <;> omega), (.inr (.inr (.inr (.inr (.inr (.inr (.inr (.inr (.inr (.inr (.inr (.inl ⟨by decide, by decide⟩))))))))))))⟩)⟩
    go_light
    repeat (first | with_reducible exact Below.refl _ _ | with_reducible refine Below.drew ?_ | with_reducible refine Below.alloc ?_ (by simp <;> omega) _ | with_reducible refine Below.setCell ?_ (by simp <;> omega) _)

set_option maxHeartbeats 1000000 in
theorem build8 (a0 a1 : Int) (a2 : Bool) (a3 : Nat) (a4 : Int) (w : World) (h0 : 0 ≤ a0) (h : a0 % 20 = 8) :
    Calls Try.prog 27 #[.int .u8 a0, .int .u8 a1, .bool a2, .float .f64 a3, .int .i32 a4] w (Built 8 a4 w) := by
  go_enter Try.func27, Try.ntmps27
  go_wp2
  go_region_held3 (fun w' => w'.cell? ⟨w.heap.size + 1, 0, none⟩ = some (.int .i32 a4)) ((first | (simp [go_sem]; done) | (go_keep; done)))
    (first | (go_at_call 45; refine (ident_any _).mono ?_; rintro e w' ⟨rfl, o1, o2, rfl⟩))
  all_goals go_wp2
  all_goals
    refine bodyPost_ret (v := .agg #[_, .int .i32 a4]) (by simp [results, Try.results27, go_sem]; try (first | exact ⟨rfl, rfl⟩ | rfl)) rfl ⟨_, rfl, ?_, (.inr ⟨_, _, rfl, by first | omega | (simp <;> omega), by first | omega | (simp <;> omega), (.inr (.inr (.inr (.inr (.inr (.inr (.inr (.inr (.inr (.inr (.inr (.inl ⟨by decide, by decide⟩))))))))))))⟩)⟩
    go_light
    repeat (first | with_reducible exact Below.refl _ _ | with_reducible refine Below.drew ?_ | with_reducible refine Below.alloc ?_ (by simp <;> omega) _ | with_reducible refine Below.setCell ?_ (by simp <;> omega) _)

set_option maxHeartbeats 1000000 in
theorem build9 (a0 a1 : Int) (a2 : Bool) (a3 : Nat) (a4 : Int) (w : World) (h0 : 0 ≤ a0) (h : a0 % 20 = 9) :
    Calls Try.prog 27 #[.int .u8 a0, .int .u8 a1, .bool a2, .float .f64 a3, .int .i32 a4] w (Built 9 a4 w) := by
  go_enter Try.func27, Try.ntmps27
  go_wp2
  go_region_held3 (fun w' => w'.cell? ⟨w.heap.size + 1, 0, none⟩ = some (.int .i32 a4)) ((first | (simp [go_sem]; done) | (go_keep; done)))
    (first | (go_at_call 45; refine (ident_any _).mono ?_; rintro e w' ⟨rfl, o1, o2, rfl⟩))
  all_goals go_wp2
  all_goals
    refine bodyPost_ret (v := .agg #[_, .int .i32 a4]) (by simp [results, Try.results27, go_sem]; try (first | exact ⟨rfl, rfl⟩ | rfl)) rfl ⟨_, rfl, ?_, (.inr ⟨_, _, rfl, by first | omega | (simp <;> omega), by first | omega | (simp <;> omega), (.inr (.inr (.inr (.inr (.inr (.inr (.inr (.inr (.inr (.inr (.inr (.inl ⟨by decide, by decide⟩))))))))))))⟩)⟩
    go_light
    repeat (first | with_reducible exact Below.refl _ _ | with_reducible refine Below.drew ?_ | with_reducible refine Below.alloc ?_ (by simp <;> omega) _ | with_reducible refine Below.setCell ?_ (by simp <;> omega) _)

set_option maxHeartbeats 1000000 in
theorem build10 (a0 a1 : Int) (a2 : Bool) (a3 : Nat) (a4 : Int) (w : World) (h0 : 0 ≤ a0) (h : a0 % 20 = 10) :
    Calls Try.prog 27 #[.int .u8 a0, .int .u8 a1, .bool a2, .float .f64 a3, .int .i32 a4] w (Built 10 a4 w) := by
  go_enter Try.func27, Try.ntmps27
  go_wp2
  go_region_held3 (fun w' => w'.cell? ⟨w.heap.size + 1, 0, none⟩ = some (.int .i32 a4)) ((first | (simp [go_sem]; done) | (go_keep; done)))
    (first | (go_at_call 45; refine (ident_any _).mono ?_; rintro e w' ⟨rfl, o1, o2, rfl⟩))
  all_goals go_wp2
  all_goals
    refine bodyPost_ret (v := .agg #[_, .int .i32 a4]) (by simp [results, Try.results27, go_sem]; try (first | exact ⟨rfl, rfl⟩ | rfl)) rfl ⟨_, rfl, ?_, (.inr ⟨_, _, rfl, by first | omega | (simp <;> omega), by first | omega | (simp <;> omega), (.inr (.inr (.inr (.inr (.inr (.inr (.inl ⟨rfl, rfl, by simp [go_sem]⟩)))))))⟩)⟩
    go_light
    repeat (first | with_reducible exact Below.refl _ _ | with_reducible refine Below.drew ?_ | with_reducible refine Below.alloc ?_ (by simp <;> omega) _ | with_reducible refine Below.setCell ?_ (by simp <;> omega) _)

set_option maxHeartbeats 1000000 in
theorem build11 (a0 a1 : Int) (a2 : Bool) (a3 : Nat) (a4 : Int) (w : World) (h0 : 0 ≤ a0) (h : a0 % 20 = 11) :
    Calls Try.prog 27 #[.int .u8 a0, .int .u8 a1, .bool a2, .float .f64 a3, .int .i32 a4] w (Built 11 a4 w) := by
  go_enter Try.func27, Try.ntmps27
  go_wp2
  go_region_held3 (fun w' => w'.cell? ⟨w.heap.size + 1, 0, none⟩ = some (.int .i32 a4)) ((first | (simp [go_sem]; done) | (go_keep; done)))
    (first | (go_at_call 45; refine (ident_any _).mono ?_; rintro e w' ⟨rfl, o1, o2, rfl⟩))
  all_goals go_wp2
  all_goals
    refine bodyPost_ret (v := .agg #[_, .int .i32 a4]) (by simp [results, Try.results27, go_sem]; try (first | exact ⟨rfl, rfl⟩ | rfl)) rfl ⟨_, rfl, ?_, (.inr ⟨_, _, rfl, by first | omega | (simp <;> omega), by first | omega | (simp <;> omega), (.inr (.inr (.inr (.inr (.inr (.inr (.inr (.inl ⟨rfl, rfl, by simp [go_sem]⟩))))))))⟩)⟩
    go_light
    repeat (first | with_reducible exact Below.refl _ _ | with_reducible refine Below.drew ?_ | with_reducible refine Below.alloc ?_ (by simp <;> omega) _ | with_reducible refine Below.setCell ?_ (by simp <;> omega) _)

set_option maxHeartbeats 1000000 in
theorem build12 (a0 a1 : Int) (a2 : Bool) (a3 : Nat) (a4 : Int) (w : World) (h0 : 0 ≤ a0) (h : a0 % 20 = 12) :
    Calls Try.prog 27 #[.int .u8 a0, .int .u8 a1, .bool a2, .float .f64 a3, .int .i32 a4] w (Built 12 a4 w) := by
  go_enter Try.func27, Try.ntmps27
  go_wp2
  go_region_held3 (fun w' => w'.cell? ⟨w.heap.size + 1, 0, none⟩ = some (.int .i32 a4)) ((first | (simp [go_sem]; done) | (go_keep; done)))
    (first | (go_at_call 45; refine (ident_any _).mono ?_; rintro e w' ⟨rfl, o1, o2, rfl⟩))
  all_goals go_wp2
  all_goals
    refine bodyPost_ret (v := .agg #[_, .int .i32 a4]) (by simp [results, Try.results27, go_sem]; try (first | exact ⟨rfl, rfl⟩ | rfl)) rfl ⟨_, rfl, ?_, (.inr ⟨_, _, rfl, by first | omega | (simp <;> omega), by first | omega | (simp <;> omega), (.inr (.inr (.inr (.inr (.inr (.inr (.inr (.inr (.inl ⟨rfl, rfl, by simp [go_sem]⟩)))))))))⟩)⟩
    go_light
    repeat (first | with_reducible exact Below.refl _ _ | with_reducible refine Below.drew ?_ | with_reducible refine Below.alloc ?_ (by simp <;> omega) _ | with_reducible refine Below.setCell ?_ (by simp <;> omega) _)

set_option maxHeartbeats 1000000 in
theorem build13 (a0 a1 : Int) (a2 : Bool) (a3 : Nat) (a4 : Int) (w : World) (h0 : 0 ≤ a0) (h : a0 % 20 = 13) :
    Calls Try.prog 27 #[.int .u8 a0, .int .u8 a1, .bool a2, .float .f64 a3, .int .i32 a4] w (Built 13 a4 w) := by
  go_enter Try.func27, Try.ntmps27
  go_wp2
  all_goals
    refine bodyPost_ret (v := .agg #[_, .int .i32 a4]) (by simp [results, Try.results27, go_sem]; try (first | exact ⟨rfl, rfl⟩ | rfl)) rfl ⟨_, rfl, ?_, (.inr ⟨_, _, rfl, by first | omega | (simp <;> omega), by first | omega | (simp <;> omega), (.inr (.inr (.inr (.inr (.inr (.inr (.inr (.inr (.inr (.inl ⟨rfl, rfl, _, by simp [go_sem]; rfl⟩))))))))))⟩)⟩
    go_light
    repeat (first | with_reducible exact Below.refl _ _ | with_reducible refine Below.drew ?_ | with_reducible refine Below.alloc ?_ (by simp <;> omega) _ | with_reducible refine Below.setCell ?_ (by simp <;> omega) _)

set_option maxHeartbeats 1000000 in
theorem build14 (a0 a1 : Int) (a2 : Bool) (a3 : Nat) (a4 : Int) (w : World) (h0 : 0 ≤ a0) (h : a0 % 20 = 14) :
    Calls Try.prog 27 #[.int .u8 a0, .int .u8 a1, .bool a2, .float .f64 a3, .int .i32 a4] w (Built 14 a4 w) := by
  go_enter Try.func27, Try.ntmps27
  go_wp2
  all_goals
    refine bodyPost_ret (v := .agg #[_, .int .i32 a4]) (by simp [results, Try.results27, go_sem]; try (first | exact ⟨rfl, rfl⟩ | rfl)) rfl ⟨_, rfl, ?_, (.inr ⟨_, _, rfl, by first | omega | (simp <;> omega), by first | omega | (simp <;> omega), (.inr (.inr (.inr (.inr (.inr (.inr (.inr (.inr (.inr (.inr (.inl ⟨rfl, rfl, _, by simp [go_sem]; rfl⟩)))))))))))⟩)⟩
    go_light
    repeat (first | with_reducible exact Below.refl _ _ | with_reducible refine Below.drew ?_ | with_reducible refine Below.alloc ?_ (by simp <;> omega) _ | with_reducible refine Below.setCell ?_ (by simp <;> omega) _)

set_option maxHeartbeats 1000000 in
theorem build15 (a0 a1 : Int) (a2 : Bool) (a3 : Nat) (a4 : Int) (w : World) (h0 : 0 ≤ a0) (h : a0 % 20 = 15) :
    Calls Try.prog 27 #[.int .u8 a0, .int .u8 a1, .bool a2, .float .f64 a3, .int .i32 a4] w (Built 15 a4 w) := by
  go_enter Try.func27, Try.ntmps27
  go_wp2
  all_goals
    refine bodyPost_ret (v := .agg #[_, .int .i32 a4]) (by simp [results, Try.results27, go_sem]; try (first | exact ⟨rfl, rfl⟩ | rfl)) rfl ⟨_, rfl, ?_, (.inl ⟨rfl, rfl⟩)⟩
    go_light
    repeat (first | with_reducible exact Below.refl _ _ | with_reducible refine Below.drew ?_ | with_reducible refine Below.alloc ?_ (by simp <;> omega) _ | with_reducible refine Below.setCell ?_ (by simp <;> omega) _)

set_option maxHeartbeats 1000000 in
theorem build16 (a0 a1 : Int) (a2 : Bool) (a3 : Nat) (a4 : Int) (w : World) (h0 : 0 ≤ a0) (h : a0 % 20 = 16) :
    Calls Try.prog 27 #[.int .u8 a0, .int .u8 a1, .bool a2, .float .f64 a3, .int .i32 a4] w (Built 16 a4 w) := by
  go_enter Try.func27, Try.ntmps27
  go_wp2
  all_goals
    refine bodyPost_ret (v := .agg #[_, .int .i32 a4]) (by simp [results, Try.results27, go_sem]; try (first | exact ⟨rfl, rfl⟩ | rfl)) rfl ⟨_, rfl, ?_, (.inr ⟨_, _, rfl, by first | omega | (simp <;> omega), by first | omega | (simp <;> omega), (.inr (.inr (.inr (.inr (.inr (.inr (.inr (.inr (.inr (.inr (.inr (.inl ⟨by decide, by decide⟩))))))))))))⟩)⟩
    go_light
    repeat (first | with_reducible exact Below.refl _ _ | with_reducible refine Below.drew ?_ | with_reducible refine Below.alloc ?_ (by simp <;> omega) _ | with_reducible refine Below.setCell ?_ (by simp <;> omega) _)

set_option maxHeartbeats 1000000 in
theorem build17 (a0 a1 : Int) (a2 : Bool) (a3 : Nat) (a4 : Int) (w : World) (h0 : 0 ≤ a0) (h : a0 % 20 = 17) :
    Calls Try.prog 27 #[.int .u8 a0, .int .u8 a1, .bool a2, .float .f64 a3, .int .i32 a4] w (Built 17 a4 w) := by
  go_enter Try.func27, Try.ntmps27
  go_wp2
  all_goals
    refine bodyPost_ret (v := .agg #[_, .int .i32 a4]) (by simp [results, Try.results27, go_sem]; try (first | exact ⟨rfl, rfl⟩ | rfl)) rfl ⟨_, rfl, ?_, (.inr ⟨_, _, rfl, by first | omega | (simp <;> omega), by first | omega | (simp <;> omega), (.inr (.inr (.inr (.inr (.inr (.inr (.inr (.inr (.inr (.inr (.inr (.inl ⟨by decide, by decide⟩))))))))))))⟩)⟩
    go_light
    repeat (first | with_reducible exact Below.refl _ _ | with_reducible refine Below.drew ?_ | with_reducible refine Below.alloc ?_ (by simp <;> omega) _ | with_reducible refine Below.setCell ?_ (by simp <;> omega) _)

set_option maxHeartbeats 1000000 in
theorem build18 (a0 a1 : Int) (a2 : Bool) (a3 : Nat) (a4 : Int) (w : World) (h0 : 0 ≤ a0) (h : a0 % 20 = 18) :
    Calls Try.prog 27 #[.int .u8 a0, .int .u8 a1, .bool a2, .float .f64 a3, .int .i32 a4] w (Built 18 a4 w) := by
  go_enter Try.func27, Try.ntmps27
  go_wp2
  go_region_held3 (fun w' => w'.cell? ⟨w.heap.size + 1, 0, none⟩ = some (.int .i32 a4)) ((first | (simp [go_sem]; done) | (go_keep; done)))
    (first | (go_at_call 45; refine (ident_any _).mono ?_; rintro e w' ⟨rfl, o1, o2, rfl⟩))
  all_goals go_wp2
  all_goals
    refine bodyPost_ret (v := .agg #[_, .int .i32 a4]) (by simp [results, Try.results27, go_sem]; try (first | exact ⟨rfl, rfl⟩ | rfl)) rfl ⟨_, rfl, ?_, (.inr ⟨_, _, rfl, by first | omega | (simp <;> omega), by first | omega | (simp <;> omega), (.inr (.inr (.inr (.inr (.inr (.inr (.inr (.inr (.inr (.inr (.inr (.inr (.inl ⟨rfl, rfl, _, by simp [go_sem]; rfl⟩)))))))))))))⟩)⟩
    go_light
    repeat (first | with_reducible exact Below.refl _ _ | with_reducible refine Below.drew ?_ | with_reducible refine Below.alloc ?_ (by simp <;> omega) _ | with_reducible refine Below.setCell ?_ (by simp <;> omega) _)

set_option maxHeartbeats 1000000 in
theorem build19 (a0 a1 : Int) (a2 : Bool) (a3 : Nat) (a4 : Int) (w : World) (h0 : 0 ≤ a0) (h : a0 % 20 = 19) :
    Calls Try.prog 27 #[.int .u8 a0, .int .u8 a1, .bool a2, .float .f64 a3, .int .i32 a4] w (Built 19 a4 w) := by
  go_enter Try.func27, Try.ntmps27
  go_wp2
  go_region_held3 (fun w' => w'.cell? ⟨w.heap.size + 1, 0, none⟩ = some (.int .i32 a4)) ((first | (simp [go_sem]; done) | (go_keep; done)))
    (first | (go_at_call 45; refine (ident_any _).mono ?_; rintro e w' ⟨rfl, o1, o2, rfl⟩))
  all_goals go_wp2
  all_goals
    refine bodyPost_ret (v := .agg #[_, .int .i32 a4]) (by simp [results, Try.results27, go_sem]; try (first | exact ⟨rfl, rfl⟩ | rfl)) rfl ⟨_, rfl, ?_, (.inr ⟨_, _, rfl, by first | omega | (simp <;> omega), by first | omega | (simp <;> omega), (.inr (.inr (.inr (.inr (.inr (.inr (.inr (.inr (.inr (.inr (.inr (.inr (.inr ⟨rfl, rfl, _, by simp [go_sem]; rfl⟩)))))))))))))⟩)⟩
    go_light
    repeat (first | with_reducible exact Below.refl _ _ | with_reducible refine Below.drew ?_ | with_reducible refine Below.alloc ?_ (by simp <;> omega) _ | with_reducible refine Below.setCell ?_ (by simp <;> omega) _)

theorem build_any (a0 a1 : Int) (a2 : Bool) (a3 : Nat) (a4 : Int) (w : World) (h0 : 0 ≤ a0) :
    Calls Try.prog 27 #[.int .u8 a0, .int .u8 a1, .bool a2, .float .f64 a3, .int .i32 a4] w (Built (a0 % 20) a4 w) := by
  have hc : a0 % 20 = 0 ∨ a0 % 20 = 1 ∨ a0 % 20 = 2 ∨ a0 % 20 = 3 ∨ a0 % 20 = 4 ∨ a0 % 20 = 5 ∨ a0 % 20 = 6 ∨ a0 % 20 = 7 ∨ a0 % 20 = 8 ∨ a0 % 20 = 9 ∨ a0 % 20 = 10 ∨ a0 % 20 = 11 ∨ a0 % 20 = 12 ∨ a0 % 20 = 13 ∨ a0 % 20 = 14 ∨ a0 % 20 = 15 ∨ a0 % 20 = 16 ∨ a0 % 20 = 17 ∨ a0 % 20 = 18 ∨ a0 % 20 = 19 := by omega
  rcases hc with h | h | h | h | h | h | h | h | h | h | h | h | h | h | h | h | h | h | h | h
  · rw [h]; exact build0 a0 a1 a2 a3 a4 w h0 h
  · rw [h]; exact build1 a0 a1 a2 a3 a4 w h0 h
  · rw [h]; exact build2 a0 a1 a2 a3 a4 w h0 h
  · rw [h]; exact build3 a0 a1 a2 a3 a4 w h0 h
  · rw [h]; exact build4 a0 a1 a2 a3 a4 w h0 h
  · rw [h]; exact build5 a0 a1 a2 a3 a4 w h0 h
  · rw [h]; exact build6 a0 a1 a2 a3 a4 w h0 h
  · rw [h]; exact build7 a0 a1 a2 a3 a4 w h0 h
  · rw [h]; exact build8 a0 a1 a2 a3 a4 w h0 h
  · rw [h]; exact build9 a0 a1 a2 a3 a4 w h0 h
  · rw [h]; exact build10 a0 a1 a2 a3 a4 w h0 h
  · rw [h]; exact build11 a0 a1 a2 a3 a4 w h0 h
  · rw [h]; exact build12 a0 a1 a2 a3 a4 w h0 h
  · rw [h]; exact build13 a0 a1 a2 a3 a4 w h0 h
  · rw [h]; exact build14 a0 a1 a2 a3 a4 w h0 h
  · rw [h]; exact build15 a0 a1 a2 a3 a4 w h0 h
  · rw [h]; exact build16 a0 a1 a2 a3 a4 w h0 h
  · rw [h]; exact build17 a0 a1 a2 a3 a4 w h0 h
  · rw [h]; exact build18 a0 a1 a2 a3 a4 w h0 h
  · rw [h]; exact build19 a0 a1 a2 a3 a4 w h0 h
end Go.Proofs.Ytiejadamfgbidaa.build27
