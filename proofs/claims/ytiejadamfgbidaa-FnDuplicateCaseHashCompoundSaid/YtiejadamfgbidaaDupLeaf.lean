/- The contracts of 'zzLeaf' and 'zzMaybeWrap' of the package n011_224. No conditions beyond their hypotheses. -/
import Derived.Test.YtiejadamfgbidaaRows
import Derived.Test.YtiejadamfgbidaaLib
import Derived.Test.YtiejadamfgbidaaAsserts
import Derived.Deep.RegionHeld3
namespace Go.Proofs.Ytiejadamfgbidaa.dup
open Go.ChangeShapes Go.WideShapes Go.ChangeAt Go.RowKit Go.Mine
set_option linter.unusedVariables false
set_option maxRecDepth 100000

/-- What node a leaf of kind k is. -/
def Cases (k : Int) (x : Nat) (b : Bool) (sv : Value) (r : Int) (w : World) (p T : Nat) : Prop :=
  (k = 0 ∧ T = 93) ∨ (k = 1 ∧ T = 96) ∨ (k = 2 ∧ T = 48 ∧ w.cell? ⟨p, 0, none⟩ = some (.bool b)) ∨ (k = 3 ∧ T = 98 ∧ w.cell? ⟨p, 0, none⟩ = some (.float .f64 x)) ∨
  (k = 4 ∧ T = 101 ∧ w.cell? ⟨p, 0, none⟩ = some sv) ∨ (k = 5 ∧ T = 32 ∧ w.cell? ⟨p, 0, none⟩ = some (.int .u32 0) ∧ w.cell? ⟨p, 1, none⟩ = some (.int .u32 r)) ∨ (k = 6 ∧ T = 147)
def Made (k : Int) (x : Nat) (b : Bool) (sv : Value) (r : Int) (w : World) (e : Ending) (w' : World) : Prop :=
  ∃ T p, e = .returned (.agg #[.iface T (.pointer (some ⟨p, 0, none⟩)), .int .i32 0]) ∧ Below w.heap.size w w' ∧ p < w'.heap.size ∧ Cases k x b sv r w' p T

theorem in47 (w : World) : Calls Try.prog 47 #[] w fun e w' => e = .returned (.agg #[.iface 93 (.pointer (some ⟨w.heap.size + 1, 0, none⟩)), .int .i32 0]) ∧ ∃ o1 C t, w' = (w.alloc o1).alloc (.cells C t) := by
  go_enter Try.func47, Try.ntmps47
  go_wp2
  exact bodyPost_ret (v := .agg #[.iface 93 (.pointer (some ⟨w.heap.size + 1, 0, none⟩)), .int .i32 0]) (by simp [results, Try.results47, go_sem]) rfl ⟨rfl, _, _, _, rfl⟩
theorem in48 (w : World) : Calls Try.prog 48 #[] w fun e w' => e = .returned (.agg #[.iface 96 (.pointer (some ⟨w.heap.size + 1, 0, none⟩)), .int .i32 0]) ∧ ∃ o1 C t, w' = (w.alloc o1).alloc (.cells C t) := by
  go_enter Try.func48, Try.ntmps48
  go_wp2
  exact bodyPost_ret (v := .agg #[.iface 96 (.pointer (some ⟨w.heap.size + 1, 0, none⟩)), .int .i32 0]) (by simp [results, Try.results48, go_sem]) rfl ⟨rfl, _, _, _, rfl⟩
theorem in49 (b : Bool) (w : World) : Calls Try.prog 49 #[.bool b] w fun e w' => e = .returned (.agg #[.iface 48 (.pointer (some ⟨w.heap.size + 1, 0, none⟩)), .int .i32 0]) ∧ ∃ o1 C t, w' = (w.alloc o1).alloc (.cells C t) ∧ C[0]? = some (.bool b) := by
  go_enter Try.func49, Try.ntmps49
  go_wp2
  exact bodyPost_ret (v := .agg #[.iface 48 (.pointer (some ⟨w.heap.size + 1, 0, none⟩)), .int .i32 0]) (by simp [results, Try.results49, go_sem]) rfl ⟨rfl, _, _, _, rfl, rfl⟩
theorem in50 (x : Nat) (w : World) : Calls Try.prog 50 #[.float .f64 x] w fun e w' => e = .returned (.agg #[.iface 98 (.pointer (some ⟨w.heap.size + 1, 0, none⟩)), .int .i32 0]) ∧ ∃ o1 C t, w' = (w.alloc o1).alloc (.cells C t) ∧ C[0]? = some (.float .f64 x) := by
  go_enter Try.func50, Try.ntmps50
  go_wp2
  exact bodyPost_ret (v := .agg #[.iface 98 (.pointer (some ⟨w.heap.size + 1, 0, none⟩)), .int .i32 0]) (by simp [results, Try.results50, go_sem]) rfl ⟨rfl, _, _, _, rfl, rfl⟩
theorem in51 (sa : Option Addr) (sl sc : Nat) (w : World) : Calls Try.prog 51 #[.slice sa sl sc] w fun e w' => e = .returned (.agg #[.iface 101 (.pointer (some ⟨w.heap.size + 1, 0, none⟩)), .int .i32 0]) ∧ ∃ o1 C t, w' = (w.alloc o1).alloc (.cells C t) ∧ C[0]? = some (.slice sa sl sc) := by
  go_enter Try.func51, Try.ntmps51
  go_wp2
  exact bodyPost_ret (v := .agg #[.iface 101 (.pointer (some ⟨w.heap.size + 1, 0, none⟩)), .int .i32 0]) (by simp [results, Try.results51, go_sem]) rfl ⟨rfl, _, _, _, rfl, rfl⟩
theorem in52 (r : Int) (w : World) : Calls Try.prog 52 #[.int .u32 r] w fun e w' => e = .returned (.agg #[.iface 32 (.pointer (some ⟨w.heap.size + 1, 0, none⟩)), .int .i32 0]) ∧ ∃ o1 C t, w' = (w.alloc o1).alloc (.cells C t) ∧ C[0]? = some (.int .u32 0) ∧ C[1]? = some (.int .u32 r) := by
  go_enter Try.func52, Try.ntmps52
  go_wp2
  exact bodyPost_ret (v := .agg #[.iface 32 (.pointer (some ⟨w.heap.size + 1, 0, none⟩)), .int .i32 0]) (by simp [results, Try.results52, go_sem]) rfl ⟨rfl, _, _, _, rfl, rfl, rfl⟩
theorem in53 (w : World) : Calls Try.prog 53 #[] w fun e w' => e = .returned (.agg #[.iface 147 (.pointer (some ⟨w.heap.size + 1, 0, none⟩)), .int .i32 0]) ∧ ∃ o1 C t, w' = (w.alloc o1).alloc (.cells C t) := by
  go_enter Try.func53, Try.ntmps53
  go_wp2
  exact bodyPost_ret (v := .agg #[.iface 147 (.pointer (some ⟨w.heap.size + 1, 0, none⟩)), .int .i32 0]) (by simp [results, Try.results53, go_sem]) rfl ⟨rfl, _, _, _, rfl⟩
theorem in46 (T : Nat) (v : Value) (l : Int) (w : World) : Calls Try.prog 46 #[.agg #[.iface T v, .int .i32 l]] w fun e w' => e = .returned (.agg #[.iface 41 (.pointer (some ⟨w.heap.size + 2, 0, none⟩)), .int .i32 0]) ∧ ∃ o1 o2 C t, w' = ((w.alloc o1).alloc o2).alloc (.cells C t) ∧ C[0]? = some (.iface T v) ∧ C[1]? = some (.int .i32 l) := by
  go_enter Try.func46, Try.ntmps46
  go_wp2
  exact bodyPost_ret (v := .agg #[.iface 41 (.pointer (some ⟨w.heap.size + 2, 0, none⟩)), .int .i32 0]) (by simp [results, Try.results46, go_sem]) rfl ⟨rfl, _, _, _, _, rfl, rfl, rfl⟩

set_option maxHeartbeats 1000000 in
theorem mk0 (a0 : Int) (x : Nat) (b : Bool) (sa : Option Addr) (sl sc : Nat) (r : Int) (w : World) (h0 : 0 ≤ a0) (h : a0 % 7 = 0) :
    Calls Try.prog 34 #[.int .u8 a0, .float .f64 x, .bool b, .slice sa sl sc, .int .u32 r] w (Made 0 x b (.slice sa sl sc) r w) := by
  go_enter Try.func34, Try.ntmps34
  go_wp2_with (first | (go_at_call 47; refine (in47 _).mono ?_; rintro e w' ⟨rfl, o1, C, t, rfl⟩))
  refine bodyPost_ret (v := .agg #[_, .int .i32 0]) (by simp [results, Try.results34, go_sem]; try (first | exact ⟨rfl, rfl⟩ | rfl)) rfl ⟨_, _, rfl, ?_, (by simp <;> omega), (.inl ⟨rfl, rfl⟩)⟩
  go_light
  repeat (first | with_reducible exact Below.refl _ _ | with_reducible refine Below.drew ?_ | with_reducible refine Below.alloc ?_ (by simp <;> omega) _ | with_reducible refine Below.setCell ?_ (by simp <;> omega) _)
set_option maxHeartbeats 1000000 in
theorem mk1 (a0 : Int) (x : Nat) (b : Bool) (sa : Option Addr) (sl sc : Nat) (r : Int) (w : World) (h0 : 0 ≤ a0) (h : a0 % 7 = 1) :
    Calls Try.prog 34 #[.int .u8 a0, .float .f64 x, .bool b, .slice sa sl sc, .int .u32 r] w (Made 1 x b (.slice sa sl sc) r w) := by
  go_enter Try.func34, Try.ntmps34
  go_wp2_with (first | (go_at_call 48; refine (in48 _).mono ?_; rintro e w' ⟨rfl, o1, C, t, rfl⟩))
  refine bodyPost_ret (v := .agg #[_, .int .i32 0]) (by simp [results, Try.results34, go_sem]; try (first | exact ⟨rfl, rfl⟩ | rfl)) rfl ⟨_, _, rfl, ?_, (by simp <;> omega), (.inr (.inl ⟨rfl, rfl⟩))⟩
  go_light
  repeat (first | with_reducible exact Below.refl _ _ | with_reducible refine Below.drew ?_ | with_reducible refine Below.alloc ?_ (by simp <;> omega) _ | with_reducible refine Below.setCell ?_ (by simp <;> omega) _)
set_option maxHeartbeats 1000000 in
theorem mk2 (a0 : Int) (x : Nat) (b : Bool) (sa : Option Addr) (sl sc : Nat) (r : Int) (w : World) (h0 : 0 ≤ a0) (h : a0 % 7 = 2) :
    Calls Try.prog 34 #[.int .u8 a0, .float .f64 x, .bool b, .slice sa sl sc, .int .u32 r] w (Made 2 x b (.slice sa sl sc) r w) := by
  go_enter Try.func34, Try.ntmps34
  go_wp2_with (first | (go_at_call 49; refine (in49 b _).mono ?_; rintro e w' ⟨rfl, o1, C, t, rfl, hC⟩; have HC := Lib.hid hC; clear hC))
  refine bodyPost_ret (v := .agg #[_, .int .i32 0]) (by simp [results, Try.results34, go_sem]; try (first | exact ⟨rfl, rfl⟩ | rfl)) rfl ⟨_, _, rfl, ?_, (by simp <;> omega), (.inr (.inr (.inl ⟨rfl, rfl, by simp [go_sem, HC.out]⟩)))⟩
  go_light
  repeat (first | with_reducible exact Below.refl _ _ | with_reducible refine Below.drew ?_ | with_reducible refine Below.alloc ?_ (by simp <;> omega) _ | with_reducible refine Below.setCell ?_ (by simp <;> omega) _)
set_option maxHeartbeats 1000000 in
theorem mk3 (a0 : Int) (x : Nat) (b : Bool) (sa : Option Addr) (sl sc : Nat) (r : Int) (w : World) (h0 : 0 ≤ a0) (h : a0 % 7 = 3) :
    Calls Try.prog 34 #[.int .u8 a0, .float .f64 x, .bool b, .slice sa sl sc, .int .u32 r] w (Made 3 x b (.slice sa sl sc) r w) := by
  go_enter Try.func34, Try.ntmps34
  go_wp2_with (first | (go_at_call 50; refine (in50 x _).mono ?_; rintro e w' ⟨rfl, o1, C, t, rfl, hC⟩; have HC := Lib.hid hC; clear hC))
  refine bodyPost_ret (v := .agg #[_, .int .i32 0]) (by simp [results, Try.results34, go_sem]; try (first | exact ⟨rfl, rfl⟩ | rfl)) rfl ⟨_, _, rfl, ?_, (by simp <;> omega), (.inr (.inr (.inr (.inl ⟨rfl, rfl, by simp [go_sem, HC.out]⟩))))⟩
  go_light
  repeat (first | with_reducible exact Below.refl _ _ | with_reducible refine Below.drew ?_ | with_reducible refine Below.alloc ?_ (by simp <;> omega) _ | with_reducible refine Below.setCell ?_ (by simp <;> omega) _)
set_option maxHeartbeats 1000000 in
theorem mk4 (a0 : Int) (x : Nat) (b : Bool) (sa : Option Addr) (sl sc : Nat) (r : Int) (w : World) (h0 : 0 ≤ a0) (h : a0 % 7 = 4) :
    Calls Try.prog 34 #[.int .u8 a0, .float .f64 x, .bool b, .slice sa sl sc, .int .u32 r] w (Made 4 x b (.slice sa sl sc) r w) := by
  go_enter Try.func34, Try.ntmps34
  go_wp2_with (first | (go_at_call 51; refine (in51 sa sl sc _).mono ?_; rintro e w' ⟨rfl, o1, C, t, rfl, hC⟩; have HC := Lib.hid hC; clear hC))
  refine bodyPost_ret (v := .agg #[_, .int .i32 0]) (by simp [results, Try.results34, go_sem]; try (first | exact ⟨rfl, rfl⟩ | rfl)) rfl ⟨_, _, rfl, ?_, (by simp <;> omega), (.inr (.inr (.inr (.inr (.inl ⟨rfl, rfl, by simp [go_sem, HC.out]⟩)))))⟩
  go_light
  repeat (first | with_reducible exact Below.refl _ _ | with_reducible refine Below.drew ?_ | with_reducible refine Below.alloc ?_ (by simp <;> omega) _ | with_reducible refine Below.setCell ?_ (by simp <;> omega) _)
set_option maxHeartbeats 1000000 in
theorem mk5 (a0 : Int) (x : Nat) (b : Bool) (sa : Option Addr) (sl sc : Nat) (r : Int) (w : World) (h0 : 0 ≤ a0) (h : a0 % 7 = 5) :
    Calls Try.prog 34 #[.int .u8 a0, .float .f64 x, .bool b, .slice sa sl sc, .int .u32 r] w (Made 5 x b (.slice sa sl sc) r w) := by
  go_enter Try.func34, Try.ntmps34
  go_wp2_with (first | (go_at_call 52; refine (in52 r _).mono ?_; rintro e w' ⟨rfl, o1, C, t, rfl, hC, hC2⟩; have HC := Lib.hid hC; have HC2 := Lib.hid hC2; clear hC hC2))
  refine bodyPost_ret (v := .agg #[_, .int .i32 0]) (by simp [results, Try.results34, go_sem]; try (first | exact ⟨rfl, rfl⟩ | rfl)) rfl ⟨_, _, rfl, ?_, (by simp <;> omega), (.inr (.inr (.inr (.inr (.inr (.inl ⟨rfl, rfl, by simp [go_sem, HC.out], by simp [go_sem, HC2.out]⟩))))))⟩
  go_light
  repeat (first | with_reducible exact Below.refl _ _ | with_reducible refine Below.drew ?_ | with_reducible refine Below.alloc ?_ (by simp <;> omega) _ | with_reducible refine Below.setCell ?_ (by simp <;> omega) _)
set_option maxHeartbeats 1000000 in
theorem mk6 (a0 : Int) (x : Nat) (b : Bool) (sa : Option Addr) (sl sc : Nat) (r : Int) (w : World) (h0 : 0 ≤ a0) (h : a0 % 7 = 6) :
    Calls Try.prog 34 #[.int .u8 a0, .float .f64 x, .bool b, .slice sa sl sc, .int .u32 r] w (Made 6 x b (.slice sa sl sc) r w) := by
  go_enter Try.func34, Try.ntmps34
  go_wp2_with (first | (go_at_call 53; refine (in53 _).mono ?_; rintro e w' ⟨rfl, o1, C, t, rfl⟩))
  refine bodyPost_ret (v := .agg #[_, .int .i32 0]) (by simp [results, Try.results34, go_sem]; try (first | exact ⟨rfl, rfl⟩ | rfl)) rfl ⟨_, _, rfl, ?_, (by simp <;> omega), (.inr (.inr (.inr (.inr (.inr (.inr ⟨rfl, rfl⟩))))))⟩
  go_light
  repeat (first | with_reducible exact Below.refl _ _ | with_reducible refine Below.drew ?_ | with_reducible refine Below.alloc ?_ (by simp <;> omega) _ | with_reducible refine Below.setCell ?_ (by simp <;> omega) _)
theorem mk_any (a0 : Int) (x : Nat) (b : Bool) (sa : Option Addr) (sl sc : Nat) (r : Int) (w : World) (h0 : 0 ≤ a0) :
    Calls Try.prog 34 #[.int .u8 a0, .float .f64 x, .bool b, .slice sa sl sc, .int .u32 r] w (Made (a0 % 7) x b (.slice sa sl sc) r w) := by
  have hc : a0 % 7 = 0 ∨ a0 % 7 = 1 ∨ a0 % 7 = 2 ∨ a0 % 7 = 3 ∨ a0 % 7 = 4 ∨ a0 % 7 = 5 ∨ a0 % 7 = 6 := by omega
  rcases hc with h | h | h | h | h | h | h
  · rw [h]; exact mk0 a0 x b sa sl sc r w h0 h
  · rw [h]; exact mk1 a0 x b sa sl sc r w h0 h
  · rw [h]; exact mk2 a0 x b sa sl sc r w h0 h
  · rw [h]; exact mk3 a0 x b sa sl sc r w h0 h
  · rw [h]; exact mk4 a0 x b sa sl sc r w h0 h
  · rw [h]; exact mk5 a0 x b sa sl sc r w h0 h
  · rw [h]; exact mk6 a0 x b sa sl sc r w h0 h

theorem wrap_no (T : Nat) (v : Value) (l : Int) (w : World) :
    Calls Try.prog 33 #[.agg #[.iface T v, .int .i32 l], .bool false] w fun e w' => e = .returned (.agg #[.iface T v, .int .i32 l]) ∧ Below w.heap.size w w' := by
  go_enter Try.func33, Try.ntmps33
  go_wp2
  refine bodyPost_ret (v := .agg #[_, .int .i32 l]) (by simp [results, Try.results33, go_sem]; try (first | exact ⟨rfl, rfl⟩ | rfl)) rfl ⟨rfl, ?_⟩
  go_light
  repeat (first | with_reducible exact Below.refl _ _ | with_reducible refine Below.drew ?_ | with_reducible refine Below.alloc ?_ (by simp <;> omega) _ | with_reducible refine Below.setCell ?_ (by simp <;> omega) _)
theorem wrap_yes (T : Nat) (v : Value) (l : Int) (w : World) :
    Calls Try.prog 33 #[.agg #[.iface T v, .int .i32 l], .bool true] w fun e w' => ∃ q, e = .returned (.agg #[.iface 41 (.pointer (some ⟨q, 0, none⟩)), .int .i32 0]) ∧ Below w.heap.size w w' ∧ w'.cell? ⟨q, 0, none⟩ = some (.iface T v) ∧ w'.cell? ⟨q, 1, none⟩ = some (.int .i32 l) := by
  go_enter Try.func33, Try.ntmps33
  go_wp2_with (first | (go_at_call 46; refine (in46 T v l _).mono ?_; rintro e w' ⟨rfl, o1, o2, C, t, rfl, hC, hC2⟩; have HC := Lib.hid hC; have HC2 := Lib.hid hC2; clear hC hC2))
  refine bodyPost_ret (v := .agg #[_, .int .i32 0]) (by simp [results, Try.results33, go_sem]; try (first | exact ⟨rfl, rfl⟩ | rfl)) rfl ⟨_, rfl, ?_, by simp [go_sem, HC.out], by simp [go_sem, HC2.out]⟩
  go_light
  repeat (first | with_reducible exact Below.refl _ _ | with_reducible refine Below.drew ?_ | with_reducible refine Below.alloc ?_ (by simp <;> omega) _ | with_reducible refine Below.setCell ?_ (by simp <;> omega) _)
end Go.Proofs.Ytiejadamfgbidaa.dup
