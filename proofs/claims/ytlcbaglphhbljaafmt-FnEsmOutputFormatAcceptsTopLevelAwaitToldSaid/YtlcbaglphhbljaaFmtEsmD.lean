/- The contracts of 'sort.Stable' at fewer than two messages and of the log's 'Done'. No conditions beyond the hypotheses. -/
import Derived.Test.YtlcbaglphhbljaaFmtEsmC
namespace Go.Proofs.YtlcbaglphhbljaaFmt.es
open Go.ChangeShapes Go.WideShapes Go.ChangeAt Go.RowKit Go.Mine
set_option linter.unusedVariables false
set_option linter.unusedSimpArgs false
set_option maxRecDepth 100000

set_option maxHeartbeats 2000000 in
theorem c91 (a : Option Addr) (m c : Nat) (w : World) : Calls Tryf.prog 91 #[.slice a m c] w fun e w' => e = .returned (.int .i64 m) ∧ w = w' := by
  go_enter Tryf.func91, Tryf.ntmps91
  go_wp2
  go_ret
  exact ⟨rfl, rfl⟩
set_option maxHeartbeats 2000000 in
theorem c41 (v : Value) (m : Nat) (w : World) (hm : m ≤ 1) : Calls Tryf.prog 41 #[v, .int .i64 0, .int .i64 m] w fun e w' => e = .returned (.tuple #[]) ∧ w = w' := by
  go_enter Tryf.func41, Tryf.ntmps41
  go_wp2_with fail
  refine wp_loop_rounds 1 ?_
  rw [rounds_succ]
  go_wp2_with fail
  go_end0
  exact ⟨rfl, rfl⟩
set_option maxHeartbeats 2000000 in
theorem c31 (v : Value) (m : Nat) (w : World) (hm : m ≤ 1) : Calls Tryf.prog 31 #[v, .int .i64 m] w fun e w' => e = .returned (.tuple #[]) ∧ w = w' := by
  go_enter Tryf.func31, Tryf.ntmps31
  go_wp2_with fail
  refine wp_loop_rounds 1 ?_
  rw [rounds_succ]
  go_wp2_with (first | (go_at_call 41; refine (c41 _ _ _ hm).mono ?_; rintro e w1 ⟨rfl, rfl⟩))
  refine wp_loop_rounds 1 ?_
  rw [rounds_succ]
  go_wp2_with fail
  go_end0
  exact ⟨rfl, rfl⟩
@[go_sem] theorem mLen (a : Option Addr) (m c : Nat) (w : World) : (method 513 190 (.slice a m c) "Len").run Tryf.prog w = .ok (91, .slice a m c) w := by kernel_rfl
set_option maxHeartbeats 2000000 in
theorem c26 (a : Option Addr) (m c : Nat) (w : World) (hm : m ≤ 1) : Calls Tryf.prog 26 #[.iface 190 (.slice a m c)] w fun e w' => e = .returned (.tuple #[]) ∧ w = w' := by
  go_enter Tryf.func26, Tryf.ntmps26
  go_wp2_with (first | (go_at_call 91; refine (c91 _ _ _ _).mono ?_; rintro e w1 ⟨rfl, rfl⟩) | (go_at_call 31; refine (c31 _ _ _ hm).mono ?_; rintro e w1 ⟨rfl, rfl⟩))
  go_end0
  exact ⟨rfl, rfl⟩
set_option maxHeartbeats 2000000 in
/-- 'Done', at whatever the log holds (none or one message). -/
theorem c25 (n m c : Nat) (a : Option Addr) (w : World) (hm : m ≤ 1) (h2 : Blk w (n + 1 + 1) #[.slice a m c] 190) (h3 : Blk w (n + 1 + 1 + 1) #[.int .i32 0, .int .u32 0] 196) :
    Calls Tryf.prog 25 #[.pointer (some ⟨n + 1 + 1 + 1, 0, none⟩), .pointer (some ⟨n + 1 + 1, 0, none⟩)] w fun e w' => e = .returned (.slice a m c) ∧ Below n w w' ∧ Same (fun k => k = n + 1 + 1 + 1) w w' := by
  have l2 := h2.lt
  have c2 : ∀ x, (w.setCell ⟨n + 1 + 1 + 1, 0, none⟩ x).cell? ⟨n + 1 + 1, 0, none⟩ = some (.slice a m c) := fun x => ((h2.setOther (a := ⟨n + 1 + 1 + 1, 0, none⟩) (by simp) x).cell 0).trans (by simp)
  have c2' : w.cell? ⟨n + 1 + 1, 0, none⟩ = some (.slice a m c) := (h2.cell 0).trans (by simp)
  have K3 := Lib.hid h3
  clear h2 h3
  go_enter_defers Tryf.func25, Tryf.ntmps25
  go_wp2_with fail
  refine (Go.MuLone.lock_free muLib ⟨n + 1 + 1 + 1, 0, none⟩ _ ((K3.out.cell 0).trans (by simp)) (K3.out.free 0)).mono ?_
  rintro e w1 ⟨rfl, rfl⟩
  go_wp2_with (first | (go_at_call 26; refine (c26 _ _ _ _ hm).mono ?_; rintro e w1 ⟨rfl, rfl⟩))
  refine leaves_cons (f := 22) (args := #[.pointer (some ⟨n + 1 + 1 + 1, 0, none⟩)]) (by simp) (by simp [go_sem]) ?_
  have k3 := K3.out.set 0 (.int .i32 1)
  refine (Go.MuLone.unlock_deferred muLib ⟨n + 1 + 1 + 1, 0, none⟩ .returning _ ((k3.cell 0).trans (by simp)) (k3.free 0)).mono ?_
  rintro e u' w'' ⟨rfl, rfl, rfl⟩
  refine ⟨_, results_tmp rfl _ _ _, rfl, ?_, ?_⟩
  · exact ((Below.refl n w).setCell (p := ⟨n + 1 + 1 + 1, 0, none⟩) (by simp; omega) _).setCell (p := ⟨n + 1 + 1 + 1, 0, none⟩) (by simp; omega) _
  · exact ((Same.refl _ w).setCell (p := ⟨n + 1 + 1 + 1, 0, none⟩) (by simp) _).setCell (p := ⟨n + 1 + 1 + 1, 0, none⟩) (by simp) _
end Go.Proofs.YtlcbaglphhbljaaFmt.es
