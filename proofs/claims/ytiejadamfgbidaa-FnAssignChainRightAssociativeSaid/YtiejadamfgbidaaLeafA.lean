/- The contract of 'mkLeafB2' of the package n011_46, kind by kind, and what the known primitive type of each leaf is. No conditions beyond their hypotheses. -/
import Derived.Test.YtiejadamfgbidaaRows
import Derived.Test.YtiejadamfgbidaaLib
import Derived.Test.YtiejadamfgbidaaAsserts
import Derived.Deep.RegionHeld3
namespace Go.Proofs.Ytiejadamfgbidaa.leaf46
open Go.ChangeShapes Go.WideShapes Go.ChangeAt Go.RowKit Go.Mine
set_option linter.unusedVariables false
set_option maxRecDepth 100000

/-- What node a leaf of kind k is: its type, and what its cell holds where that matters. -/
def Cases (k : Int) (b : Bool) (x : Nat) (sv : Value) (big : ByteArray) (w : World) (p T : Nat) : Prop :=
  (k = 0 ∧ T = 93) ∨ (k = 1 ∧ T = 96) ∨ (k = 2 ∧ T = 48 ∧ w.cell? ⟨p, 0, none⟩ = some (.bool b)) ∨ (k = 3 ∧ T = 98 ∧ w.cell? ⟨p, 0, none⟩ = some (.float .f64 x)) ∨
  (k = 4 ∧ T = 101 ∧ w.cell? ⟨p, 0, none⟩ = some sv) ∨ (k = 5 ∧ T = 33 ∧ w.cell? ⟨p, 0, none⟩ = some (.string big)) ∨ (k = 6 ∧ T = 106) ∨ (k = 7 ∧ T = 118) ∨ (k = 8 ∧ T = 121) ∨ (k = 9 ∧ T = 32) ∨ (k = 10 ∧ T = 34)
def Made (k : Int) (b : Bool) (x : Nat) (sv : Value) (big : ByteArray) (l : Int) (w : World) (e : Ending) (w' : World) : Prop :=
  ∃ T p q1 q2 q3, e = .returned (.tuple #[.agg #[.iface T (.pointer (some ⟨p, 0, none⟩)), .int .i32 l], q1, q2, q3]) ∧ Below w.heap.size w w' ∧ p < w'.heap.size ∧ Cases k b x sv big w' p T

set_option maxHeartbeats 1000000 in
theorem mk0 (a0 : Int) (b : Bool) (x : Nat) (sa : Option Addr) (sl sc : Nat) (big : ByteArray) (l : Int) (w : World) (h0 : 0 ≤ a0) (h : a0 % 11 = 0) :
    Calls Try.prog 11 #[.int .u8 a0, .bool b, .float .f64 x, .slice sa sl sc, .string big, .int .i32 l] w (Made 0 b x (.slice sa sl sc) big l w) := by
  go_enter Try.func11, Try.ntmps11
  go_wp2
  refine bodyPost_ret (v := .tuple #[.agg #[_, .int .i32 l], _, _, _]) (by simp [results, Try.results11, go_sem]; try (first | exact ⟨rfl, rfl, rfl, rfl⟩ | exact ⟨⟨rfl, rfl⟩, rfl, rfl, rfl⟩ | exact ⟨rfl, rfl, rfl, rfl, rfl⟩ | exact ⟨rfl, rfl⟩ | rfl)) rfl ⟨_, _, _, _, _, rfl, ?_, (by simp <;> omega), (.inl ⟨rfl, rfl⟩)⟩
  go_light
  repeat (first | with_reducible exact Below.refl _ _ | with_reducible refine Below.drew ?_ | with_reducible refine Below.alloc ?_ (by simp <;> omega) _ | with_reducible refine Below.setCell ?_ (by simp <;> omega) _)
set_option maxHeartbeats 1000000 in
theorem mk1 (a0 : Int) (b : Bool) (x : Nat) (sa : Option Addr) (sl sc : Nat) (big : ByteArray) (l : Int) (w : World) (h0 : 0 ≤ a0) (h : a0 % 11 = 1) :
    Calls Try.prog 11 #[.int .u8 a0, .bool b, .float .f64 x, .slice sa sl sc, .string big, .int .i32 l] w (Made 1 b x (.slice sa sl sc) big l w) := by
  go_enter Try.func11, Try.ntmps11
  go_wp2
  refine bodyPost_ret (v := .tuple #[.agg #[_, .int .i32 l], _, _, _]) (by simp [results, Try.results11, go_sem]; try (first | exact ⟨rfl, rfl, rfl, rfl⟩ | exact ⟨⟨rfl, rfl⟩, rfl, rfl, rfl⟩ | exact ⟨rfl, rfl, rfl, rfl, rfl⟩ | exact ⟨rfl, rfl⟩ | rfl)) rfl ⟨_, _, _, _, _, rfl, ?_, (by simp <;> omega), (.inr (.inl ⟨rfl, rfl⟩))⟩
  go_light
  repeat (first | with_reducible exact Below.refl _ _ | with_reducible refine Below.drew ?_ | with_reducible refine Below.alloc ?_ (by simp <;> omega) _ | with_reducible refine Below.setCell ?_ (by simp <;> omega) _)
set_option maxHeartbeats 1000000 in
theorem mk2 (a0 : Int) (b : Bool) (x : Nat) (sa : Option Addr) (sl sc : Nat) (big : ByteArray) (l : Int) (w : World) (h0 : 0 ≤ a0) (h : a0 % 11 = 2) :
    Calls Try.prog 11 #[.int .u8 a0, .bool b, .float .f64 x, .slice sa sl sc, .string big, .int .i32 l] w (Made 2 b x (.slice sa sl sc) big l w) := by
  go_enter Try.func11, Try.ntmps11
  go_wp2
  refine bodyPost_ret (v := .tuple #[.agg #[_, .int .i32 l], _, _, _]) (by simp [results, Try.results11, go_sem]; try (first | exact ⟨rfl, rfl, rfl, rfl⟩ | exact ⟨⟨rfl, rfl⟩, rfl, rfl, rfl⟩ | exact ⟨rfl, rfl, rfl, rfl, rfl⟩ | exact ⟨rfl, rfl⟩ | rfl)) rfl ⟨_, _, _, _, _, rfl, ?_, (by simp <;> omega), (.inr (.inr (.inl ⟨rfl, rfl, by simp [go_sem]⟩)))⟩
  go_light
  repeat (first | with_reducible exact Below.refl _ _ | with_reducible refine Below.drew ?_ | with_reducible refine Below.alloc ?_ (by simp <;> omega) _ | with_reducible refine Below.setCell ?_ (by simp <;> omega) _)
set_option maxHeartbeats 1000000 in
theorem mk3 (a0 : Int) (b : Bool) (x : Nat) (sa : Option Addr) (sl sc : Nat) (big : ByteArray) (l : Int) (w : World) (h0 : 0 ≤ a0) (h : a0 % 11 = 3) :
    Calls Try.prog 11 #[.int .u8 a0, .bool b, .float .f64 x, .slice sa sl sc, .string big, .int .i32 l] w (Made 3 b x (.slice sa sl sc) big l w) := by
  go_enter Try.func11, Try.ntmps11
  go_wp2
  refine bodyPost_ret (v := .tuple #[.agg #[_, .int .i32 l], _, _, _]) (by simp [results, Try.results11, go_sem]; try (first | exact ⟨rfl, rfl, rfl, rfl⟩ | exact ⟨⟨rfl, rfl⟩, rfl, rfl, rfl⟩ | exact ⟨rfl, rfl, rfl, rfl, rfl⟩ | exact ⟨rfl, rfl⟩ | rfl)) rfl ⟨_, _, _, _, _, rfl, ?_, (by simp <;> omega), (.inr (.inr (.inr (.inl ⟨rfl, rfl, by simp [go_sem]⟩))))⟩
  go_light
  repeat (first | with_reducible exact Below.refl _ _ | with_reducible refine Below.drew ?_ | with_reducible refine Below.alloc ?_ (by simp <;> omega) _ | with_reducible refine Below.setCell ?_ (by simp <;> omega) _)
set_option maxHeartbeats 1000000 in
theorem mk4 (a0 : Int) (b : Bool) (x : Nat) (sa : Option Addr) (sl sc : Nat) (big : ByteArray) (l : Int) (w : World) (h0 : 0 ≤ a0) (h : a0 % 11 = 4) :
    Calls Try.prog 11 #[.int .u8 a0, .bool b, .float .f64 x, .slice sa sl sc, .string big, .int .i32 l] w (Made 4 b x (.slice sa sl sc) big l w) := by
  go_enter Try.func11, Try.ntmps11
  go_wp2
  refine bodyPost_ret (v := .tuple #[.agg #[_, .int .i32 l], _, _, _]) (by simp [results, Try.results11, go_sem]; try (first | exact ⟨rfl, rfl, rfl, rfl⟩ | exact ⟨⟨rfl, rfl⟩, rfl, rfl, rfl⟩ | exact ⟨rfl, rfl, rfl, rfl, rfl⟩ | exact ⟨rfl, rfl⟩ | rfl)) rfl ⟨_, _, _, _, _, rfl, ?_, (by simp <;> omega), (.inr (.inr (.inr (.inr (.inl ⟨rfl, rfl, by simp [go_sem]⟩)))))⟩
  go_light
  repeat (first | with_reducible exact Below.refl _ _ | with_reducible refine Below.drew ?_ | with_reducible refine Below.alloc ?_ (by simp <;> omega) _ | with_reducible refine Below.setCell ?_ (by simp <;> omega) _)
set_option maxHeartbeats 1000000 in
theorem mk5 (a0 : Int) (b : Bool) (x : Nat) (sa : Option Addr) (sl sc : Nat) (big : ByteArray) (l : Int) (w : World) (h0 : 0 ≤ a0) (h : a0 % 11 = 5) :
    Calls Try.prog 11 #[.int .u8 a0, .bool b, .float .f64 x, .slice sa sl sc, .string big, .int .i32 l] w (Made 5 b x (.slice sa sl sc) big l w) := by
  go_enter Try.func11, Try.ntmps11
  go_wp2
  refine bodyPost_ret (v := .tuple #[.agg #[_, .int .i32 l], _, _, _]) (by simp [results, Try.results11, go_sem]; try (first | exact ⟨rfl, rfl, rfl, rfl⟩ | exact ⟨⟨rfl, rfl⟩, rfl, rfl, rfl⟩ | exact ⟨rfl, rfl, rfl, rfl, rfl⟩ | exact ⟨rfl, rfl⟩ | rfl)) rfl ⟨_, _, _, _, _, rfl, ?_, (by simp <;> omega), (.inr (.inr (.inr (.inr (.inr (.inl ⟨rfl, rfl, by simp [go_sem]⟩))))))⟩
  go_light
  repeat (first | with_reducible exact Below.refl _ _ | with_reducible refine Below.drew ?_ | with_reducible refine Below.alloc ?_ (by simp <;> omega) _ | with_reducible refine Below.setCell ?_ (by simp <;> omega) _)
set_option maxHeartbeats 1000000 in
theorem mk6 (a0 : Int) (b : Bool) (x : Nat) (sa : Option Addr) (sl sc : Nat) (big : ByteArray) (l : Int) (w : World) (h0 : 0 ≤ a0) (h : a0 % 11 = 6) :
    Calls Try.prog 11 #[.int .u8 a0, .bool b, .float .f64 x, .slice sa sl sc, .string big, .int .i32 l] w (Made 6 b x (.slice sa sl sc) big l w) := by
  go_enter Try.func11, Try.ntmps11
  go_wp2
  refine bodyPost_ret (v := .tuple #[.agg #[_, .int .i32 l], _, _, _]) (by simp [results, Try.results11, go_sem]; try (first | exact ⟨rfl, rfl, rfl, rfl⟩ | exact ⟨⟨rfl, rfl⟩, rfl, rfl, rfl⟩ | exact ⟨rfl, rfl, rfl, rfl, rfl⟩ | exact ⟨rfl, rfl⟩ | rfl)) rfl ⟨_, _, _, _, _, rfl, ?_, (by simp <;> omega), (.inr (.inr (.inr (.inr (.inr (.inr (.inl ⟨rfl, rfl⟩)))))))⟩
  go_light
  repeat (first | with_reducible exact Below.refl _ _ | with_reducible refine Below.drew ?_ | with_reducible refine Below.alloc ?_ (by simp <;> omega) _ | with_reducible refine Below.setCell ?_ (by simp <;> omega) _)
set_option maxHeartbeats 1000000 in
theorem mk7 (a0 : Int) (b : Bool) (x : Nat) (sa : Option Addr) (sl sc : Nat) (big : ByteArray) (l : Int) (w : World) (h0 : 0 ≤ a0) (h : a0 % 11 = 7) :
    Calls Try.prog 11 #[.int .u8 a0, .bool b, .float .f64 x, .slice sa sl sc, .string big, .int .i32 l] w (Made 7 b x (.slice sa sl sc) big l w) := by
  go_enter Try.func11, Try.ntmps11
  go_wp2
  refine bodyPost_ret (v := .tuple #[.agg #[_, .int .i32 l], _, _, _]) (by simp [results, Try.results11, go_sem]; try (first | exact ⟨rfl, rfl, rfl, rfl⟩ | exact ⟨⟨rfl, rfl⟩, rfl, rfl, rfl⟩ | exact ⟨rfl, rfl, rfl, rfl, rfl⟩ | exact ⟨rfl, rfl⟩ | rfl)) rfl ⟨_, _, _, _, _, rfl, ?_, (by simp <;> omega), (.inr (.inr (.inr (.inr (.inr (.inr (.inr (.inl ⟨rfl, rfl⟩))))))))⟩
  go_light
  repeat (first | with_reducible exact Below.refl _ _ | with_reducible refine Below.drew ?_ | with_reducible refine Below.alloc ?_ (by simp <;> omega) _ | with_reducible refine Below.setCell ?_ (by simp <;> omega) _)
set_option maxHeartbeats 1000000 in
theorem mk8 (a0 : Int) (b : Bool) (x : Nat) (sa : Option Addr) (sl sc : Nat) (big : ByteArray) (l : Int) (w : World) (h0 : 0 ≤ a0) (h : a0 % 11 = 8) :
    Calls Try.prog 11 #[.int .u8 a0, .bool b, .float .f64 x, .slice sa sl sc, .string big, .int .i32 l] w (Made 8 b x (.slice sa sl sc) big l w) := by
  go_enter Try.func11, Try.ntmps11
  go_wp2
  refine bodyPost_ret (v := .tuple #[.agg #[_, .int .i32 l], _, _, _]) (by simp [results, Try.results11, go_sem]; try (first | exact ⟨rfl, rfl, rfl, rfl⟩ | exact ⟨⟨rfl, rfl⟩, rfl, rfl, rfl⟩ | exact ⟨rfl, rfl, rfl, rfl, rfl⟩ | exact ⟨rfl, rfl⟩ | rfl)) rfl ⟨_, _, _, _, _, rfl, ?_, (by simp <;> omega), (.inr (.inr (.inr (.inr (.inr (.inr (.inr (.inr (.inl ⟨rfl, rfl⟩)))))))))⟩
  go_light
  repeat (first | with_reducible exact Below.refl _ _ | with_reducible refine Below.drew ?_ | with_reducible refine Below.alloc ?_ (by simp <;> omega) _ | with_reducible refine Below.setCell ?_ (by simp <;> omega) _)
set_option maxHeartbeats 1000000 in
theorem mk9 (a0 : Int) (b : Bool) (x : Nat) (sa : Option Addr) (sl sc : Nat) (big : ByteArray) (l : Int) (w : World) (h0 : 0 ≤ a0) (h : a0 % 11 = 9) :
    Calls Try.prog 11 #[.int .u8 a0, .bool b, .float .f64 x, .slice sa sl sc, .string big, .int .i32 l] w (Made 9 b x (.slice sa sl sc) big l w) := by
  go_enter Try.func11, Try.ntmps11
  go_wp2
  refine bodyPost_ret (v := .tuple #[.agg #[_, .int .i32 l], _, _, _]) (by simp [results, Try.results11, go_sem]; try (first | exact ⟨rfl, rfl, rfl, rfl⟩ | exact ⟨⟨rfl, rfl⟩, rfl, rfl, rfl⟩ | exact ⟨rfl, rfl, rfl, rfl, rfl⟩ | exact ⟨rfl, rfl⟩ | rfl)) rfl ⟨_, _, _, _, _, rfl, ?_, (by simp <;> omega), (.inr (.inr (.inr (.inr (.inr (.inr (.inr (.inr (.inr (.inl ⟨rfl, rfl⟩))))))))))⟩
  go_light
  repeat (first | with_reducible exact Below.refl _ _ | with_reducible refine Below.drew ?_ | with_reducible refine Below.alloc ?_ (by simp <;> omega) _ | with_reducible refine Below.setCell ?_ (by simp <;> omega) _)
set_option maxHeartbeats 1000000 in
theorem mk10 (a0 : Int) (b : Bool) (x : Nat) (sa : Option Addr) (sl sc : Nat) (big : ByteArray) (l : Int) (w : World) (h0 : 0 ≤ a0) (h : a0 % 11 = 10) :
    Calls Try.prog 11 #[.int .u8 a0, .bool b, .float .f64 x, .slice sa sl sc, .string big, .int .i32 l] w (Made 10 b x (.slice sa sl sc) big l w) := by
  go_enter Try.func11, Try.ntmps11
  go_wp2
  refine bodyPost_ret (v := .tuple #[.agg #[_, .int .i32 l], _, _, _]) (by simp [results, Try.results11, go_sem]; try (first | exact ⟨rfl, rfl, rfl, rfl⟩ | exact ⟨⟨rfl, rfl⟩, rfl, rfl, rfl⟩ | exact ⟨rfl, rfl, rfl, rfl, rfl⟩ | exact ⟨rfl, rfl⟩ | rfl)) rfl ⟨_, _, _, _, _, rfl, ?_, (by simp <;> omega), (.inr (.inr (.inr (.inr (.inr (.inr (.inr (.inr (.inr (.inr ⟨rfl, rfl⟩))))))))))⟩
  go_light
  repeat (first | with_reducible exact Below.refl _ _ | with_reducible refine Below.drew ?_ | with_reducible refine Below.alloc ?_ (by simp <;> omega) _ | with_reducible refine Below.setCell ?_ (by simp <;> omega) _)
theorem mk_any (a0 : Int) (b : Bool) (x : Nat) (sa : Option Addr) (sl sc : Nat) (big : ByteArray) (l : Int) (w : World) (h0 : 0 ≤ a0) :
    Calls Try.prog 11 #[.int .u8 a0, .bool b, .float .f64 x, .slice sa sl sc, .string big, .int .i32 l] w (Made (a0 % 11) b x (.slice sa sl sc) big l w) := by
  have hc : a0 % 11 = 0 ∨ a0 % 11 = 1 ∨ a0 % 11 = 2 ∨ a0 % 11 = 3 ∨ a0 % 11 = 4 ∨ a0 % 11 = 5 ∨ a0 % 11 = 6 ∨ a0 % 11 = 7 ∨ a0 % 11 = 8 ∨ a0 % 11 = 9 ∨ a0 % 11 = 10 := by omega
  rcases hc with h | h | h | h | h | h | h | h | h | h | h
  · rw [h]; exact mk0 a0 b x sa sl sc big l w h0 h
  · rw [h]; exact mk1 a0 b x sa sl sc big l w h0 h
  · rw [h]; exact mk2 a0 b x sa sl sc big l w h0 h
  · rw [h]; exact mk3 a0 b x sa sl sc big l w h0 h
  · rw [h]; exact mk4 a0 b x sa sl sc big l w h0 h
  · rw [h]; exact mk5 a0 b x sa sl sc big l w h0 h
  · rw [h]; exact mk6 a0 b x sa sl sc big l w h0 h
  · rw [h]; exact mk7 a0 b x sa sl sc big l w h0 h
  · rw [h]; exact mk8 a0 b x sa sl sc big l w h0 h
  · rw [h]; exact mk9 a0 b x sa sl sc big l w h0 h
  · rw [h]; exact mk10 a0 b x sa sl sc big l w h0 h

def prim (k : Int) : Int := if k = 0 then 2 else if k = 1 then 3 else if k = 2 then 4 else if k = 3 then 5 else if k = 4 then 6 else if k = 5 then 7 else 0
end Go.Proofs.Ytiejadamfgbidaa.leaf46
