/- The contracts of the readers and of the wrapper round 'addImportRecord'. No conditions beyond the hypotheses. -/
import Derived.Test.YtbjebcbdednijaaAddB
namespace Go.Proofs.Ytbjebcbdednijaa.add
open Go.ChangeShapes Go.WideShapes Go.ChangeAt Go.RowKit Go.Mine
set_option linter.unusedVariables false
set_option linter.unusedSimpArgs false
set_option maxRecDepth 100000

set_option maxHeartbeats 2000000 in
theorem add13 (lo p n c : Nat) (kd ph st ln fl : Int) (q : Option Addr) (s : ByteArray) (a : Option Addr) (xs : List Value) (w : World) (h : AS lo p a n c xs w) (hn : n ≤ 1048576) :
    Calls Try.prog 13 #[.pointer (some ⟨p, 0, none⟩), .int .u8 kd, .int .u8 ph, .int .i32 st, .int .i32 ln, .string s, .pointer q, .int .u32 fl] w (Added lo p a n c xs (recC kd ph st ln (IntKind.u16.wrap fl) s q).toList w) := by
  have H := Lib.hid (fun fl' => add26 lo p n c kd ph st ln fl' q s a xs w h hn)
  clear h
  go_enter Try.func13, Try.ntmps13
  go_wp2_with (first | (go_at_call 26; (with_reducible refine (H.out _).mono ?_); rintro e w1 ⟨rfl, hA⟩; have HA := Lib.hid hA; clear hA))
  go_ret
  exact ⟨rfl, HA.out⟩
theorem cnt14 (p n c : Nat) (a : Option Addr) (w : World) (h0 : w.cell? ⟨p, 169, none⟩ = some (.slice a n c)) : Calls Try.prog 14 #[.pointer (some ⟨p, 0, none⟩)] w fun e w' => e = .returned (.int .i64 n) ∧ w = w' := by
  go_enter Try.func14, Try.ntmps14
  go_wp2
  go_ret
  exact ⟨rfl, rfl⟩
theorem kind15 (p g n c i : Nat) (v : Int) (w : World) (h0 : w.cell? ⟨p, 169, none⟩ = some (.slice (some ⟨g, 0, none⟩) n c)) (hi : i < n) (hn : n ≤ 1048576) (hc : w.cell? ⟨g, i * 15 + 14, none⟩ = some (.int .u8 v)) :
    Calls Try.prog 15 #[.pointer (some ⟨p, 0, none⟩), .int .i64 i] w fun e w' => e = .returned (.int .u8 v) ∧ w = w' := by
  have hi' : (i : Int) < (n : Int) := by omega
  go_enter Try.func15, Try.ntmps15
  go_wp2
  go_ret
  exact ⟨rfl, rfl⟩
theorem phase17 (p g n c i : Nat) (v : Int) (w : World) (h0 : w.cell? ⟨p, 169, none⟩ = some (.slice (some ⟨g, 0, none⟩) n c)) (hi : i < n) (hn : n ≤ 1048576) (hc : w.cell? ⟨g, i * 15 + 13, none⟩ = some (.int .u8 v)) :
    Calls Try.prog 17 #[.pointer (some ⟨p, 0, none⟩), .int .i64 i] w fun e w' => e = .returned (.int .u8 v) ∧ w = w' := by
  have hi' : (i : Int) < (n : Int) := by omega
  go_enter Try.func17, Try.ntmps17
  go_wp2
  go_ret
  exact ⟨rfl, rfl⟩
theorem start19 (p g n c i : Nat) (v : Int) (w : World) (h0 : w.cell? ⟨p, 169, none⟩ = some (.slice (some ⟨g, 0, none⟩) n c)) (hi : i < n) (hn : n ≤ 1048576) (hc : w.cell? ⟨g, i * 15 + 7, none⟩ = some (.int .i32 v)) :
    Calls Try.prog 19 #[.pointer (some ⟨p, 0, none⟩), .int .i64 i] w fun e w' => e = .returned (.int .i32 v) ∧ w = w' := by
  have hi' : (i : Int) < (n : Int) := by omega
  go_enter Try.func19, Try.ntmps19
  go_wp2
  go_ret
  exact ⟨rfl, rfl⟩
theorem len20 (p g n c i : Nat) (v : Int) (w : World) (h0 : w.cell? ⟨p, 169, none⟩ = some (.slice (some ⟨g, 0, none⟩) n c)) (hi : i < n) (hn : n ≤ 1048576) (hc : w.cell? ⟨g, i * 15 + 8, none⟩ = some (.int .i32 v)) :
    Calls Try.prog 20 #[.pointer (some ⟨p, 0, none⟩), .int .i64 i] w fun e w' => e = .returned (.int .i32 v) ∧ w = w' := by
  have hi' : (i : Int) < (n : Int) := by omega
  go_enter Try.func20, Try.ntmps20
  go_wp2
  go_ret
  exact ⟨rfl, rfl⟩
theorem text21 (p g n c i : Nat) (v : ByteArray) (w : World) (h0 : w.cell? ⟨p, 169, none⟩ = some (.slice (some ⟨g, 0, none⟩) n c)) (hi : i < n) (hn : n ≤ 1048576) (hc : w.cell? ⟨g, i * 15 + 2, none⟩ = some (.string v)) :
    Calls Try.prog 21 #[.pointer (some ⟨p, 0, none⟩), .int .i64 i] w fun e w' => e = .returned (.string v) ∧ w = w' := by
  have hi' : (i : Int) < (n : Int) := by omega
  go_enter Try.func21, Try.ntmps21
  go_wp2
  go_ret
  exact ⟨rfl, rfl⟩
theorem flags22 (p g n c i : Nat) (v : Int) (hv0 : 0 ≤ v) (hv1 : v ≤ 65535) (w : World) (h0 : w.cell? ⟨p, 169, none⟩ = some (.slice (some ⟨g, 0, none⟩) n c)) (hi : i < n) (hn : n ≤ 1048576) (hc : w.cell? ⟨g, i * 15 + 12, none⟩ = some (.int .u16 v)) :
    Calls Try.prog 22 #[.pointer (some ⟨p, 0, none⟩), .int .i64 i] w fun e w' => e = .returned (.int .u32 v) ∧ w = w' := by
  have hi' : (i : Int) < (n : Int) := by omega
  go_enter Try.func22, Try.ntmps22
  go_wp2
  go_ret
  exact ⟨rfl, rfl⟩
theorem assert24 (p g n c i : Nat) (v : Option Addr) (w : World) (h0 : w.cell? ⟨p, 169, none⟩ = some (.slice (some ⟨g, 0, none⟩) n c)) (hi : i < n) (hn : n ≤ 1048576) (hc : w.cell? ⟨g, i * 15, none⟩ = some (.pointer v)) :
    Calls Try.prog 24 #[.pointer (some ⟨p, 0, none⟩), .int .i64 i] w fun e w' => e = .returned (.pointer v) ∧ w = w' := by
  have hi' : (i : Int) < (n : Int) := by omega
  go_enter Try.func24, Try.ntmps24
  go_wp2
  go_ret
  exact ⟨rfl, rfl⟩
theorem kst16 (v : Int) (h0 : 0 ≤ v) (h1 : v ≤ 255) (w : World) : Calls Try.prog 16 #[.int .u8 v] w fun e w' => e = .returned (.int .u8 v) ∧ w = w' := by
  go_enter Try.func16, Try.ntmps16
  go_wp2
  go_ret
  exact ⟨rfl, rfl⟩
theorem pst18 (v : Int) (h0 : 0 ≤ v) (h1 : v ≤ 255) (w : World) : Calls Try.prog 18 #[.int .u8 v] w fun e w' => e = .returned (.int .u8 v) ∧ w = w' := by
  go_enter Try.func18, Try.ntmps18
  go_wp2
  go_ret
  exact ⟨rfl, rfl⟩
theorem wrap16 (v : Int) : 0 ≤ IntKind.u16.wrap v ∧ IntKind.u16.wrap v ≤ 65535 := by
  have e : IntKind.u16.wrap v = v % 65536 := by simp [IntKind.wrap, IntKind.bits, IntKind.signed]
  rw [e]
  omega
theorem fst23 (v : Int) (h0 : 0 ≤ v) (h1 : v ≤ 4294967295) (w : World) : Calls Try.prog 23 #[.int .u32 v] w fun e w' => e = .returned (.int .u32 (IntKind.u16.wrap v)) ∧ w = w' := by
  have hw := wrap16 v
  go_enter Try.func23, Try.ntmps23
  go_wp2
  go_ret
  exact ⟨rfl, rfl⟩
end Go.Proofs.Ytbjebcbdednijaa.add
