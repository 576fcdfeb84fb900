/- The contract of 'zzBuild' of the package n011_35, case by case. No conditions beyond their hypotheses. -/
import Derived.Test.YtfkamkbkpnnokabRows
import Derived.Test.YtfkamkbkpnnokabLib
import Derived.Deep.RegionHeld3
namespace Go.Proofs.Ytfkamkbkpnnokab.build35
open Go.ChangeShapes Go.WideShapes Go.ChangeAt Go.RowKit Go.Mine
set_option linter.unusedVariables false
set_option maxRecDepth 100000

theorem ident_any (w : World) : Calls Try.prog 44 #[] w fun e w' => e = .returned (.agg #[.iface 91 (.pointer (some ⟨w.heap.size + 1, 0, none⟩)), .int .i32 0]) ∧ ∃ o1 o2, w' = (w.alloc o1).alloc o2 := by
  go_enter Try.func44, Try.ntmps44
  go_wp2
  exact bodyPost_ret (v := .agg #[.iface 91 (.pointer (some ⟨w.heap.size + 1, 0, none⟩)), .int .i32 0]) (by simp [results, Try.results44, go_sem]) rfl ⟨rfl, _, _, rfl⟩

def Kinds (ch : Int) (sym : Bool) (c : Int) (w' : World) (D : Value) : Prop :=
  (c = 7 ∧ ∃ p, D = .iface 97 (.pointer (some ⟨p, 0, none⟩)) ∧ w'.cell? ⟨p, 4, none⟩ = some (.int .u8 ch) ∧ w'.cell? ⟨p, 7, none⟩ = some (.bool sym)) ∨
  (c = 8 ∧ ∃ p, D = .iface 101 (.pointer (some ⟨p, 0, none⟩)) ∧ w'.cell? ⟨p, 5, none⟩ = some (.int .u8 ch) ∧ w'.cell? ⟨p, 8, none⟩ = some (.bool sym)) ∨
  (c = 9 ∧ ∃ p, D = .iface 104 (.pointer (some ⟨p, 0, none⟩)) ∧ w'.cell? ⟨p, 4, none⟩ = some (.int .u8 ch)) ∨
  (c ≠ 7 ∧ c ≠ 8 ∧ c ≠ 9 ∧ (D = .nilIface ∨ ∃ T v, D = .iface T v ∧ T ≠ 97 ∧ T ≠ 101 ∧ T ≠ 104))
def Built (ch : Int) (sym : Bool) (c : Int) (l : Int) (w : World) (e : Ending) (w' : World) : Prop :=
  ∃ D, e = .returned (.agg #[D, .int .i32 l]) ∧ Below w.heap.size w w' ∧ Kinds ch sym c w' D

set_option maxHeartbeats 1000000 in
theorem build0 (a0 a1 : Int) (a2 : Bool) (a3 : Nat) (a4 : Int) (w : World) (h0 : 0 ≤ a0) (h : a0 % 20 = 0) :
    Calls Try.prog 9 #[.int .u8 a0, .int .u8 a1, .bool a2, .float .f64 a3, .int .i32 a4] w (Built a1 a2 0 a4 w) := by
  go_enter Try.func9, Try.ntmps9
  go_wp2
  all_goals
    refine bodyPost_ret (v := .agg #[_, .int .i32 a4]) (by simp [results, Try.results9, go_sem]; try (first | exact ⟨rfl, rfl⟩ | rfl)) rfl ⟨_, rfl, ?_, (.inr (.inr (.inr ⟨by decide, by decide, by decide, .inr ⟨_, _, rfl, by decide, by decide, by decide⟩⟩)))⟩
    go_light
    repeat (first | with_reducible exact Below.refl _ _ | with_reducible refine Below.drew ?_ | with_reducible refine Below.alloc ?_ (by simp <;> omega) _ | with_reducible refine Below.setCell ?_ (by simp <;> omega) _)

set_option maxHeartbeats 1000000 in
theorem build1 (a0 a1 : Int) (a2 : Bool) (a3 : Nat) (a4 : Int) (w : World) (h0 : 0 ≤ a0) (h : a0 % 20 = 1) :
    Calls Try.prog 9 #[.int .u8 a0, .int .u8 a1, .bool a2, .float .f64 a3, .int .i32 a4] w (Built a1 a2 1 a4 w) := by
  go_enter Try.func9, Try.ntmps9
  go_wp2
  all_goals
    refine bodyPost_ret (v := .agg #[_, .int .i32 a4]) (by simp [results, Try.results9, go_sem]; try (first | exact ⟨rfl, rfl⟩ | rfl)) rfl ⟨_, rfl, ?_, (.inr (.inr (.inr ⟨by decide, by decide, by decide, .inr ⟨_, _, rfl, by decide, by decide, by decide⟩⟩)))⟩
    go_light
    repeat (first | with_reducible exact Below.refl _ _ | with_reducible refine Below.drew ?_ | with_reducible refine Below.alloc ?_ (by simp <;> omega) _ | with_reducible refine Below.setCell ?_ (by simp <;> omega) _)

set_option maxHeartbeats 1000000 in
theorem build2 (a0 a1 : Int) (a2 : Bool) (a3 : Nat) (a4 : Int) (w : World) (h0 : 0 ≤ a0) (h : a0 % 20 = 2) :
    Calls Try.prog 9 #[.int .u8 a0, .int .u8 a1, .bool a2, .float .f64 a3, .int .i32 a4] w (Built a1 a2 2 a4 w) := by
  go_enter Try.func9, Try.ntmps9
  go_wp2
  all_goals
    refine bodyPost_ret (v := .agg #[_, .int .i32 a4]) (by simp [results, Try.results9, go_sem]; try (first | exact ⟨rfl, rfl⟩ | rfl)) rfl ⟨_, rfl, ?_, (.inr (.inr (.inr ⟨by decide, by decide, by decide, .inr ⟨_, _, rfl, by decide, by decide, by decide⟩⟩)))⟩
    go_light
    repeat (first | with_reducible exact Below.refl _ _ | with_reducible refine Below.drew ?_ | with_reducible refine Below.alloc ?_ (by simp <;> omega) _ | with_reducible refine Below.setCell ?_ (by simp <;> omega) _)

set_option maxHeartbeats 1000000 in
theorem build3 (a0 a1 : Int) (a2 : Bool) (a3 : Nat) (a4 : Int) (w : World) (h0 : 0 ≤ a0) (h : a0 % 20 = 3) :
    Calls Try.prog 9 #[.int .u8 a0, .int .u8 a1, .bool a2, .float .f64 a3, .int .i32 a4] w (Built a1 a2 3 a4 w) := by
  go_enter Try.func9, Try.ntmps9
  go_wp2
  all_goals
    refine bodyPost_ret (v := .agg #[_, .int .i32 a4]) (by simp [results, Try.results9, go_sem]; try (first | exact ⟨rfl, rfl⟩ | rfl)) rfl ⟨_, rfl, ?_, (.inr (.inr (.inr ⟨by decide, by decide, by decide, .inr ⟨_, _, rfl, by decide, by decide, by decide⟩⟩)))⟩
    go_light
    repeat (first | with_reducible exact Below.refl _ _ | with_reducible refine Below.drew ?_ | with_reducible refine Below.alloc ?_ (by simp <;> omega) _ | with_reducible refine Below.setCell ?_ (by simp <;> omega) _)

set_option maxHeartbeats 1000000 in
theorem build4 (a0 a1 : Int) (a2 : Bool) (a3 : Nat) (a4 : Int) (w : World) (h0 : 0 ≤ a0) (h : a0 % 20 = 4) :
    Calls Try.prog 9 #[.int .u8 a0, .int .u8 a1, .bool a2, .float .f64 a3, .int .i32 a4] w (Built a1 a2 4 a4 w) := by
  go_enter Try.func9, Try.ntmps9
  go_wp2
  all_goals
    refine bodyPost_ret (v := .agg #[_, .int .i32 a4]) (by simp [results, Try.results9, go_sem]; try (first | exact ⟨rfl, rfl⟩ | rfl)) rfl ⟨_, rfl, ?_, (.inr (.inr (.inr ⟨by decide, by decide, by decide, .inr ⟨_, _, rfl, by decide, by decide, by decide⟩⟩)))⟩
    go_light
    repeat (first | with_reducible exact Below.refl _ _ | with_reducible refine Below.drew ?_ | with_reducible refine Below.alloc ?_ (by simp <;> omega) _ | with_reducible refine Below.setCell ?_ (by simp <;> omega) _)

set_option maxHeartbeats 1000000 in
theorem build5 (a0 a1 : Int) (a2 : Bool) (a3 : Nat) (a4 : Int) (w : World) (h0 : 0 ≤ a0) (h : a0 % 20 = 5) :
    Calls Try.prog 9 #[.int .u8 a0, .int .u8 a1, .bool a2, .float .f64 a3, .int .i32 a4] w (Built a1 a2 5 a4 w) := by
  go_enter Try.func9, Try.ntmps9
  go_wp2
  all_goals
    refine bodyPost_ret (v := .agg #[_, .int .i32 a4]) (by simp [results, Try.results9, go_sem]; try (first | exact ⟨rfl, rfl⟩ | rfl)) rfl ⟨_, rfl, ?_, (.inr (.inr (.inr ⟨by decide, by decide, by decide, .inr ⟨_, _, rfl, by decide, by decide, by decide⟩⟩)))⟩
    go_light
    repeat (first | with_reducible exact Below.refl _ _ | with_reducible refine Below.drew ?_ | with_reducible refine Below.alloc ?_ (by simp <;> omega) _ | with_reducible refine Below.setCell ?_ (by simp <;> omega) _)

set_option maxHeartbeats 1000000 in
theorem build6 (a0 a1 : Int) (a2 : Bool) (a3 : Nat) (a4 : Int) (w : World) (h0 : 0 ≤ a0) (h : a0 % 20 = 6) :
    Calls Try.prog 9 #[.int .u8 a0, .int .u8 a1, .bool a2, .float .f64 a3, .int .i32 a4] w (Built a1 a2 6 a4 w) := by
  go_enter Try.func9, Try.ntmps9
  go_wp2
  all_goals
    refine bodyPost_ret (v := .agg #[_, .int .i32 a4]) (by simp [results, Try.results9, go_sem]; try (first | exact ⟨rfl, rfl⟩ | rfl)) rfl ⟨_, rfl, ?_, (.inr (.inr (.inr ⟨by decide, by decide, by decide, .inr ⟨_, _, rfl, by decide, by decide, by decide⟩⟩)))⟩
    go_light
    repeat (first | with_reducible exact Below.refl _ _ | with_reducible refine Below.drew ?_ | with_reducible refine Below.alloc ?_ (by simp <;> omega) _ | with_reducible refine Below.setCell ?_ (by simp <;> omega) _)

set_option maxHeartbeats 1000000 in
theorem build7 (a0 a1 : Int) (a2 : Bool) (a3 : Nat) (a4 : Int) (w : World) (h0 : 0 ≤ a0) (h : a0 % 20 = 7) :
    Calls Try.prog 9 #[.int .u8 a0, .int .u8 a1, .bool a2, .float .f64 a3, .int .i32 a4] w (Built a1 a2 7 a4 w) := by
  go_enter Try.func9, Try.ntmps9
  go_wp2
  go_region_held3 (fun w' => w'.cell? ⟨w.heap.size + 1, 0, none⟩ = some (.int .i32 a4)) ((first | (simp [go_sem]; done) | (go_keep; done)))
    (first | (go_at_call 44; refine (ident_any _).mono ?_; rintro e w' ⟨rfl, o1, o2, rfl⟩))
  all_goals go_wp2
  all_goals
    refine bodyPost_ret (v := .agg #[_, .int .i32 a4]) (by simp [results, Try.results9, go_sem]; try (first | exact ⟨rfl, rfl⟩ | rfl)) rfl ⟨_, rfl, ?_, (.inl ⟨rfl, _, rfl, by simp [go_sem], by simp [go_sem]⟩)⟩
    go_light
    repeat (first | with_reducible exact Below.refl _ _ | with_reducible refine Below.drew ?_ | with_reducible refine Below.alloc ?_ (by simp <;> omega) _ | with_reducible refine Below.setCell ?_ (by simp <;> omega) _)

set_option maxHeartbeats 1000000 in
theorem build8 (a0 a1 : Int) (a2 : Bool) (a3 : Nat) (a4 : Int) (w : World) (h0 : 0 ≤ a0) (h : a0 % 20 = 8) :
    Calls Try.prog 9 #[.int .u8 a0, .int .u8 a1, .bool a2, .float .f64 a3, .int .i32 a4] w (Built a1 a2 8 a4 w) := by
  go_enter Try.func9, Try.ntmps9
  go_wp2
  go_region_held3 (fun w' => w'.cell? ⟨w.heap.size + 1, 0, none⟩ = some (.int .i32 a4)) ((first | (simp [go_sem]; done) | (go_keep; done)))
    (first | (go_at_call 44; refine (ident_any _).mono ?_; rintro e w' ⟨rfl, o1, o2, rfl⟩))
  all_goals go_wp2
  all_goals
    refine bodyPost_ret (v := .agg #[_, .int .i32 a4]) (by simp [results, Try.results9, go_sem]; try (first | exact ⟨rfl, rfl⟩ | rfl)) rfl ⟨_, rfl, ?_, (.inr (.inl ⟨rfl, _, rfl, by simp [go_sem], by simp [go_sem]⟩))⟩
    go_light
    repeat (first | with_reducible exact Below.refl _ _ | with_reducible refine Below.drew ?_ | with_reducible refine Below.alloc ?_ (by simp <;> omega) _ | with_reducible refine Below.setCell ?_ (by simp <;> omega) _)

set_option maxHeartbeats 1000000 in
theorem build9 (a0 a1 : Int) (a2 : Bool) (a3 : Nat) (a4 : Int) (w : World) (h0 : 0 ≤ a0) (h : a0 % 20 = 9) :
    Calls Try.prog 9 #[.int .u8 a0, .int .u8 a1, .bool a2, .float .f64 a3, .int .i32 a4] w (Built a1 a2 9 a4 w) := by
  go_enter Try.func9, Try.ntmps9
  go_wp2
  go_region_held3 (fun w' => w'.cell? ⟨w.heap.size + 1, 0, none⟩ = some (.int .i32 a4)) ((first | (simp [go_sem]; done) | (go_keep; done)))
    (first | (go_at_call 44; refine (ident_any _).mono ?_; rintro e w' ⟨rfl, o1, o2, rfl⟩))
  all_goals go_wp2
  all_goals
    refine bodyPost_ret (v := .agg #[_, .int .i32 a4]) (by simp [results, Try.results9, go_sem]; try (first | exact ⟨rfl, rfl⟩ | rfl)) rfl ⟨_, rfl, ?_, (.inr (.inr (.inl ⟨rfl, _, rfl, by simp [go_sem]⟩)))⟩
    go_light
    repeat (first | with_reducible exact Below.refl _ _ | with_reducible refine Below.drew ?_ | with_reducible refine Below.alloc ?_ (by simp <;> omega) _ | with_reducible refine Below.setCell ?_ (by simp <;> omega) _)

set_option maxHeartbeats 1000000 in
theorem build10 (a0 a1 : Int) (a2 : Bool) (a3 : Nat) (a4 : Int) (w : World) (h0 : 0 ≤ a0) (h : a0 % 20 = 10) :
    Calls Try.prog 9 #[.int .u8 a0, .int .u8 a1, .bool a2, .float .f64 a3, .int .i32 a4] w (Built a1 a2 10 a4 w) := by
  go_enter Try.func9, Try.ntmps9
  go_wp2
  go_region_held3 (fun w' => w'.cell? ⟨w.heap.size + 1, 0, none⟩ = some (.int .i32 a4)) ((first | (simp [go_sem]; done) | (go_keep; done)))
    (first | (go_at_call 44; refine (ident_any _).mono ?_; rintro e w' ⟨rfl, o1, o2, rfl⟩))
  all_goals go_wp2
  all_goals
    refine bodyPost_ret (v := .agg #[_, .int .i32 a4]) (by simp [results, Try.results9, go_sem]; try (first | exact ⟨rfl, rfl⟩ | rfl)) rfl ⟨_, rfl, ?_, (.inr (.inr (.inr ⟨by decide, by decide, by decide, .inr ⟨_, _, rfl, by decide, by decide, by decide⟩⟩)))⟩
    go_light
    repeat (first | with_reducible exact Below.refl _ _ | with_reducible refine Below.drew ?_ | with_reducible refine Below.alloc ?_ (by simp <;> omega) _ | with_reducible refine Below.setCell ?_ (by simp <;> omega) _)

set_option maxHeartbeats 1000000 in
theorem build11 (a0 a1 : Int) (a2 : Bool) (a3 : Nat) (a4 : Int) (w : World) (h0 : 0 ≤ a0) (h : a0 % 20 = 11) :
    Calls Try.prog 9 #[.int .u8 a0, .int .u8 a1, .bool a2, .float .f64 a3, .int .i32 a4] w (Built a1 a2 11 a4 w) := by
  go_enter Try.func9, Try.ntmps9
  go_wp2
  go_region_held3 (fun w' => w'.cell? ⟨w.heap.size + 1, 0, none⟩ = some (.int .i32 a4)) ((first | (simp [go_sem]; done) | (go_keep; done)))
    (first | (go_at_call 44; refine (ident_any _).mono ?_; rintro e w' ⟨rfl, o1, o2, rfl⟩))
  all_goals go_wp2
  all_goals
    refine bodyPost_ret (v := .agg #[_, .int .i32 a4]) (by simp [results, Try.results9, go_sem]; try (first | exact ⟨rfl, rfl⟩ | rfl)) rfl ⟨_, rfl, ?_, (.inr (.inr (.inr ⟨by decide, by decide, by decide, .inr ⟨_, _, rfl, by decide, by decide, by decide⟩⟩)))⟩
    go_light
    repeat (first | with_reducible exact Below.refl _ _ | with_reducible refine Below.drew ?_ | with_reducible refine Below.alloc ?_ (by simp <;> omega) _ | with_reducible refine Below.setCell ?_ (by simp <;> omega) _)

set_option maxHeartbeats 1000000 in
theorem build12 (a0 a1 : Int) (a2 : Bool) (a3 : Nat) (a4 : Int) (w : World) (h0 : 0 ≤ a0) (h : a0 % 20 = 12) :
    Calls Try.prog 9 #[.int .u8 a0, .int .u8 a1, .bool a2, .float .f64 a3, .int .i32 a4] w (Built a1 a2 12 a4 w) := by
  go_enter Try.func9, Try.ntmps9
  go_wp2
  go_region_held3 (fun w' => w'.cell? ⟨w.heap.size + 1, 0, none⟩ = some (.int .i32 a4)) ((first | (simp [go_sem]; done) | (go_keep; done)))
    (first | (go_at_call 44; refine (ident_any _).mono ?_; rintro e w' ⟨rfl, o1, o2, rfl⟩))
  all_goals go_wp2
  all_goals
    refine bodyPost_ret (v := .agg #[_, .int .i32 a4]) (by simp [results, Try.results9, go_sem]; try (first | exact ⟨rfl, rfl⟩ | rfl)) rfl ⟨_, rfl, ?_, (.inr (.inr (.inr ⟨by decide, by decide, by decide, .inr ⟨_, _, rfl, by decide, by decide, by decide⟩⟩)))⟩
    go_light
    repeat (first | with_reducible exact Below.refl _ _ | with_reducible refine Below.drew ?_ | with_reducible refine Below.alloc ?_ (by simp <;> omega) _ | with_reducible refine Below.setCell ?_ (by simp <;> omega) _)

set_option maxHeartbeats 1000000 in
theorem build13 (a0 a1 : Int) (a2 : Bool) (a3 : Nat) (a4 : Int) (w : World) (h0 : 0 ≤ a0) (h : a0 % 20 = 13) :
    Calls Try.prog 9 #[.int .u8 a0, .int .u8 a1, .bool a2, .float .f64 a3, .int .i32 a4] w (Built a1 a2 13 a4 w) := by
  go_enter Try.func9, Try.ntmps9
  go_wp2
  all_goals
    refine bodyPost_ret (v := .agg #[_, .int .i32 a4]) (by simp [results, Try.results9, go_sem]; try (first | exact ⟨rfl, rfl⟩ | rfl)) rfl ⟨_, rfl, ?_, (.inr (.inr (.inr ⟨by decide, by decide, by decide, .inr ⟨_, _, rfl, by decide, by decide, by decide⟩⟩)))⟩
    go_light
    repeat (first | with_reducible exact Below.refl _ _ | with_reducible refine Below.drew ?_ | with_reducible refine Below.alloc ?_ (by simp <;> omega) _ | with_reducible refine Below.setCell ?_ (by simp <;> omega) _)

set_option maxHeartbeats 1000000 in
theorem build14 (a0 a1 : Int) (a2 : Bool) (a3 : Nat) (a4 : Int) (w : World) (h0 : 0 ≤ a0) (h : a0 % 20 = 14) :
    Calls Try.prog 9 #[.int .u8 a0, .int .u8 a1, .bool a2, .float .f64 a3, .int .i32 a4] w (Built a1 a2 14 a4 w) := by
  go_enter Try.func9, Try.ntmps9
  go_wp2
  all_goals
    refine bodyPost_ret (v := .agg #[_, .int .i32 a4]) (by simp [results, Try.results9, go_sem]; try (first | exact ⟨rfl, rfl⟩ | rfl)) rfl ⟨_, rfl, ?_, (.inr (.inr (.inr ⟨by decide, by decide, by decide, .inr ⟨_, _, rfl, by decide, by decide, by decide⟩⟩)))⟩
    go_light
    repeat (first | with_reducible exact Below.refl _ _ | with_reducible refine Below.drew ?_ | with_reducible refine Below.alloc ?_ (by simp <;> omega) _ | with_reducible refine Below.setCell ?_ (by simp <;> omega) _)

set_option maxHeartbeats 1000000 in
theorem build15 (a0 a1 : Int) (a2 : Bool) (a3 : Nat) (a4 : Int) (w : World) (h0 : 0 ≤ a0) (h : a0 % 20 = 15) :
    Calls Try.prog 9 #[.int .u8 a0, .int .u8 a1, .bool a2, .float .f64 a3, .int .i32 a4] w (Built a1 a2 15 a4 w) := by
  go_enter Try.func9, Try.ntmps9
  go_wp2
  all_goals
    refine bodyPost_ret (v := .agg #[_, .int .i32 a4]) (by simp [results, Try.results9, go_sem]; try (first | exact ⟨rfl, rfl⟩ | rfl)) rfl ⟨_, rfl, ?_, (.inr (.inr (.inr ⟨by decide, by decide, by decide, .inl rfl⟩)))⟩
    go_light
    repeat (first | with_reducible exact Below.refl _ _ | with_reducible refine Below.drew ?_ | with_reducible refine Below.alloc ?_ (by simp <;> omega) _ | with_reducible refine Below.setCell ?_ (by simp <;> omega) _)

set_option maxHeartbeats 1000000 in
theorem build16 (a0 a1 : Int) (a2 : Bool) (a3 : Nat) (a4 : Int) (w : World) (h0 : 0 ≤ a0) (h : a0 % 20 = 16) :
    Calls Try.prog 9 #[.int .u8 a0, .int .u8 a1, .bool a2, .float .f64 a3, .int .i32 a4] w (Built a1 a2 16 a4 w) := by
  go_enter Try.func9, Try.ntmps9
  go_wp2
  all_goals
    refine bodyPost_ret (v := .agg #[_, .int .i32 a4]) (by simp [results, Try.results9, go_sem]; try (first | exact ⟨rfl, rfl⟩ | rfl)) rfl ⟨_, rfl, ?_, (.inr (.inr (.inr ⟨by decide, by decide, by decide, .inr ⟨_, _, rfl, by decide, by decide, by decide⟩⟩)))⟩
    go_light
    repeat (first | with_reducible exact Below.refl _ _ | with_reducible refine Below.drew ?_ | with_reducible refine Below.alloc ?_ (by simp <;> omega) _ | with_reducible refine Below.setCell ?_ (by simp <;> omega) _)

set_option maxHeartbeats 1000000 in
theorem build17 (a0 a1 : Int) (a2 : Bool) (a3 : Nat) (a4 : Int) (w : World) (h0 : 0 ≤ a0) (h : a0 % 20 = 17) :
    Calls Try.prog 9 #[.int .u8 a0, .int .u8 a1, .bool a2, .float .f64 a3, .int .i32 a4] w (Built a1 a2 17 a4 w) := by
  go_enter Try.func9, Try.ntmps9
  go_wp2
  all_goals
    refine bodyPost_ret (v := .agg #[_, .int .i32 a4]) (by simp [results, Try.results9, go_sem]; try (first | exact ⟨rfl, rfl⟩ | rfl)) rfl ⟨_, rfl, ?_, (.inr (.inr (.inr ⟨by decide, by decide, by decide, .inr ⟨_, _, rfl, by decide, by decide, by decide⟩⟩)))⟩
    go_light
    repeat (first | with_reducible exact Below.refl _ _ | with_reducible refine Below.drew ?_ | with_reducible refine Below.alloc ?_ (by simp <;> omega) _ | with_reducible refine Below.setCell ?_ (by simp <;> omega) _)

set_option maxHeartbeats 1000000 in
theorem build18 (a0 a1 : Int) (a2 : Bool) (a3 : Nat) (a4 : Int) (w : World) (h0 : 0 ≤ a0) (h : a0 % 20 = 18) :
    Calls Try.prog 9 #[.int .u8 a0, .int .u8 a1, .bool a2, .float .f64 a3, .int .i32 a4] w (Built a1 a2 18 a4 w) := by
  go_enter Try.func9, Try.ntmps9
  go_wp2
  go_region_held3 (fun w' => w'.cell? ⟨w.heap.size + 1, 0, none⟩ = some (.int .i32 a4)) ((first | (simp [go_sem]; done) | (go_keep; done)))
    (first | (go_at_call 44; refine (ident_any _).mono ?_; rintro e w' ⟨rfl, o1, o2, rfl⟩))
  all_goals go_wp2
  all_goals
    refine bodyPost_ret (v := .agg #[_, .int .i32 a4]) (by simp [results, Try.results9, go_sem]; try (first | exact ⟨rfl, rfl⟩ | rfl)) rfl ⟨_, rfl, ?_, (.inr (.inr (.inr ⟨by decide, by decide, by decide, .inr ⟨_, _, rfl, by decide, by decide, by decide⟩⟩)))⟩
    go_light
    repeat (first | with_reducible exact Below.refl _ _ | with_reducible refine Below.drew ?_ | with_reducible refine Below.alloc ?_ (by simp <;> omega) _ | with_reducible refine Below.setCell ?_ (by simp <;> omega) _)

set_option maxHeartbeats 1000000 in
theorem build19 (a0 a1 : Int) (a2 : Bool) (a3 : Nat) (a4 : Int) (w : World) (h0 : 0 ≤ a0) (h : a0 % 20 = 19) :
    Calls Try.prog 9 #[.int .u8 a0, .int .u8 a1, .bool a2, .float .f64 a3, .int .i32 a4] w (Built a1 a2 19 a4 w) := by
  go_enter Try.func9, Try.ntmps9
  go_wp2
  go_region_held3 (fun w' => w'.cell? ⟨w.heap.size + 1, 0, none⟩ = some (.int .i32 a4)) ((first | (simp [go_sem]; done) | (go_keep; done)))
    (first | (go_at_call 44; refine (ident_any _).mono ?_; rintro e w' ⟨rfl, o1, o2, rfl⟩))
  all_goals go_wp2
  all_goals
    refine bodyPost_ret (v := .agg #[_, .int .i32 a4]) (by simp [results, Try.results9, go_sem]; try (first | exact ⟨rfl, rfl⟩ | rfl)) rfl ⟨_, rfl, ?_, (.inr (.inr (.inr ⟨by decide, by decide, by decide, .inr ⟨_, _, rfl, by decide, by decide, by decide⟩⟩)))⟩
    go_light
    repeat (first | with_reducible exact Below.refl _ _ | with_reducible refine Below.drew ?_ | with_reducible refine Below.alloc ?_ (by simp <;> omega) _ | with_reducible refine Below.setCell ?_ (by simp <;> omega) _)

theorem build_any (a0 a1 : Int) (a2 : Bool) (a3 : Nat) (a4 : Int) (w : World) (h0 : 0 ≤ a0) :
    Calls Try.prog 9 #[.int .u8 a0, .int .u8 a1, .bool a2, .float .f64 a3, .int .i32 a4] w (Built a1 a2 (a0 % 20) a4 w) := by
  have hc : a0 % 20 = 0 ∨ a0 % 20 = 1 ∨ a0 % 20 = 2 ∨ a0 % 20 = 3 ∨ a0 % 20 = 4 ∨ a0 % 20 = 5 ∨ a0 % 20 = 6 ∨ a0 % 20 = 7 ∨ a0 % 20 = 8 ∨ a0 % 20 = 9 ∨ a0 % 20 = 10 ∨ a0 % 20 = 11 ∨ a0 % 20 = 12 ∨ a0 % 20 = 13 ∨ a0 % 20 = 14 ∨ a0 % 20 = 15 ∨ a0 % 20 = 16 ∨ a0 % 20 = 17 ∨ a0 % 20 = 18 ∨ a0 % 20 = 19 := by omega
  rcases hc with h | h | h | h | h | h | h | h | h | h | h | h | h | h | h | h | h | h | h | h
  · rw [h]; exact build0 a0 a1 a2 a3 a4 w h0 h
  · rw [h]; exact build1 a0 a1 a2 a3 a4 w h0 h
  · rw [h]; exact build2 a0 a1 a2 a3 a4 w h0 h
  · rw [h]; exact build3 a0 a1 a2 a3 a4 w h0 h
  · rw [h]; exact build4 a0 a1 a2 a3 a4 w h0 h
  · rw [h]; exact build5 a0 a1 a2 a3 a4 w h0 h
  · rw [h]; exact build6 a0 a1 a2 a3 a4 w h0 h
  · rw [h]; exact build7 a0 a1 a2 a3 a4 w h0 h
  · rw [h]; exact build8 a0 a1 a2 a3 a4 w h0 h
  · rw [h]; exact build9 a0 a1 a2 a3 a4 w h0 h
  · rw [h]; exact build10 a0 a1 a2 a3 a4 w h0 h
  · rw [h]; exact build11 a0 a1 a2 a3 a4 w h0 h
  · rw [h]; exact build12 a0 a1 a2 a3 a4 w h0 h
  · rw [h]; exact build13 a0 a1 a2 a3 a4 w h0 h
  · rw [h]; exact build14 a0 a1 a2 a3 a4 w h0 h
  · rw [h]; exact build15 a0 a1 a2 a3 a4 w h0 h
  · rw [h]; exact build16 a0 a1 a2 a3 a4 w h0 h
  · rw [h]; exact build17 a0 a1 a2 a3 a4 w h0 h
  · rw [h]; exact build18 a0 a1 a2 a3 a4 w h0 h
  · rw [h]; exact build19 a0 a1 a2 a3 a4 w h0 h
end Go.Proofs.Ytfkamkbkpnnokab.build35
