/- The walk of the law 'FnJumpStmtsLookTheSameReflexiveOnJumps': it returns true and leaves what was there as it was. No conditions. -/
import Derived.Test.YtflfeffbckleaaaRows
import Derived.Test.YtflfeffbckleaaaLib
import Derived.Test.YtflfeffbckleaaaAsserts
import Derived.Laws.StructEq
import Derived.Deep.RegionHeld3
import Derived.Deep.RegionWith
import Derived.Deep.QuietTactic
import Derived.BigQuiet
namespace Go.Proofs.Ytflfeffbckleaaa.fnJumpStmtsLookTheSameReflexiveOnJumps
open Go.ChangeShapes Go.WideShapes Go.ChangeAt Go.RowKit Go.Mine
set_option linter.unusedVariables false
set_option maxRecDepth 100000

theorem guard59 : Try.prog.eqGuardType Try.prog.depth 59 = false := by kernel_rfl
theorem st59 : Try.prog.underlying 59 = some (.struct (Try.prog.fieldsOf 59)) := by kernel_rfl
theorem held59 : Try.prog.stoodInHeld 59 = false := by kernel_rfl
theorem eqIn59 (w : World) (a s b t : Int) : (Op.equalIn 10000 59 (.agg #[.int .u32 a, .int .u32 b]) (.agg #[.int .u32 s, .int .u32 t])).run Try.prog w = .ok ((a == s) && (b == t)) w := by
  have hf : (Try.prog.fieldsOf 59).toList.map (fun f => (f.name, f.type, f.offset)) = [("SourceIndex", 25, 0), ("InnerIndex", 25, 1)] := by kernel_rfl
  rw [run_equalIn_agg w 9999 59 _ _ st59 held59]
  generalize (Try.prog.fieldsOf 59).toList = fs at hf
  obtain ⟨f0, fs0, rfl, g0, hf⟩ := List.map_eq_cons_iff.1 hf
  obtain ⟨f1, fs1, rfl, g1, hf⟩ := List.map_eq_cons_iff.1 hf
  obtain rfl := List.map_eq_nil_iff.1 hf
  simp only [Prod.mk.injEq] at g0 g1
  obtain ⟨p0, q0, r0⟩ := g0
  have e0 : ∀ (x0 x1 : Value) (w : World), (part 25 #[x0, x1] 0).run Try.prog w = .ok x0 w := fun x0 x1 w => by kernel_rfl
  have k0 := fun (w : World) (a b : Int) => run_equalIn_int (P := Try.prog) w 9998 25 .u32 .u32 a b Try.underlying25
  obtain ⟨p1, q1, r1⟩ := g1
  have e1 : ∀ (x0 x1 : Value) (w : World), (part 25 #[x0, x1] 1).run Try.prog w = .ok x1 w := fun x0 x1 w => by kernel_rfl
  have k1 := fun (w : World) (a b : Int) => run_equalIn_int (P := Try.prog) w 9998 25 .u32 .u32 a b Try.underlying25
  by_cases z0 : a = s <;> by_cases z1 : b = t <;> simp [Op.eqFields, p0, q0, r0, e0, k0, z0, p1, q1, r1, e1, k1, z1]
theorem eql59 (w : World) (a s b t : Int) : (binOp .eql 59 (.agg #[.int .u32 a, .int .u32 b]) (.agg #[.int .u32 s, .int .u32 t])).run Try.prog w = .ok (.bool ((a == s) && (b == t))) w := by
  rw [run_eql_struct, eqIn59]; rfl
theorem neq59 (w : World) (a s b t : Int) : (binOp .neq 59 (.agg #[.int .u32 a, .int .u32 b]) (.agg #[.int .u32 s, .int .u32 t])).run Try.prog w = .ok (.bool (!((a == s) && (b == t)))) w := by
  rw [run_neq_struct, eqIn59]; rfl


theorem brk_some (p q a b : Nat) (s i : Int) (w : World) (hp : w.cell? ⟨p, 0, none⟩ = some (.pointer (some ⟨a, 0, none⟩))) (hq : w.cell? ⟨q, 0, none⟩ = some (.pointer (some ⟨b, 0, none⟩)))
    (h1 : w.cell? ⟨a, 1, none⟩ = some (.int .u32 s)) (h2 : w.cell? ⟨a, 2, none⟩ = some (.int .u32 i)) (h3 : w.cell? ⟨b, 1, none⟩ = some (.int .u32 s)) (h4 : w.cell? ⟨b, 2, none⟩ = some (.int .u32 i)) :
    Calls Try.prog 67 #[.iface 226 (.pointer (some ⟨p, 0, none⟩)), .iface 226 (.pointer (some ⟨q, 0, none⟩))] w fun e w' => e = .returned (.bool true) ∧ Below w.heap.size w w' := by
  have hg := guard59
  have he := eql59
  go_enter Try.func67, Try.ntmps67
  go_wp2
  go_quiet (fail)
  go_wp2
  go_ret
  exact ⟨ret_bool (by simp), below_drewN (Below.refl _ _) _⟩
theorem brk_none (p q : Nat) (w : World) (hp : w.cell? ⟨p, 0, none⟩ = some (.pointer none)) (hq : w.cell? ⟨q, 0, none⟩ = some (.pointer none)) :
    Calls Try.prog 67 #[.iface 226 (.pointer (some ⟨p, 0, none⟩)), .iface 226 (.pointer (some ⟨q, 0, none⟩))] w fun e w' => e = .returned (.bool true) ∧ Below w.heap.size w w' := by
  go_enter Try.func67, Try.ntmps67
  go_wp2
  go_quiet (fail)
  go_wp2
  go_ret
  exact ⟨ret_bool (by simp), below_drewN (Below.refl _ _) _⟩
theorem cnt_some (p q a b : Nat) (s i : Int) (w : World) (hp : w.cell? ⟨p, 0, none⟩ = some (.pointer (some ⟨a, 0, none⟩))) (hq : w.cell? ⟨q, 0, none⟩ = some (.pointer (some ⟨b, 0, none⟩)))
    (h1 : w.cell? ⟨a, 1, none⟩ = some (.int .u32 s)) (h2 : w.cell? ⟨a, 2, none⟩ = some (.int .u32 i)) (h3 : w.cell? ⟨b, 1, none⟩ = some (.int .u32 s)) (h4 : w.cell? ⟨b, 2, none⟩ = some (.int .u32 i)) :
    Calls Try.prog 67 #[.iface 229 (.pointer (some ⟨p, 0, none⟩)), .iface 229 (.pointer (some ⟨q, 0, none⟩))] w fun e w' => e = .returned (.bool true) ∧ Below w.heap.size w w' := by
  have hg := guard59
  have he := eql59
  go_enter Try.func67, Try.ntmps67
  go_wp2
  go_quiet (fail)
  go_wp2
  go_ret
  exact ⟨ret_bool (by simp), below_drewN (Below.refl _ _) _⟩
theorem cnt_none (p q : Nat) (w : World) (hp : w.cell? ⟨p, 0, none⟩ = some (.pointer none)) (hq : w.cell? ⟨q, 0, none⟩ = some (.pointer none)) :
    Calls Try.prog 67 #[.iface 229 (.pointer (some ⟨p, 0, none⟩)), .iface 229 (.pointer (some ⟨q, 0, none⟩))] w fun e w' => e = .returned (.bool true) ∧ Below w.heap.size w w' := by
  go_enter Try.func67, Try.ntmps67
  go_wp2
  go_quiet (fail)
  go_wp2
  go_ret
  exact ⟨ret_bool (by simp), below_drewN (Below.refl _ _) _⟩
theorem ret_none (p q : Nat) (w : World) (hp : w.cell? ⟨p, 0, none⟩ = some .nilIface) (hq : w.cell? ⟨q, 0, none⟩ = some .nilIface) :
    Calls Try.prog 67 #[.iface 231 (.pointer (some ⟨p, 0, none⟩)), .iface 231 (.pointer (some ⟨q, 0, none⟩))] w fun e w' => e = .returned (.bool true) ∧ Below w.heap.size w w' := by
  go_enter Try.func67, Try.ntmps67
  go_wp2
  go_quiet (fail)
  go_wp2
  go_ret
  exact ⟨ret_bool (by simp), below_drewN (Below.refl _ _) _⟩

theorem case0true (a0 : Int) (a2 : Int) (a3 : Int) (a4 : Int) (a5 : Int) (w : World) (w0 : 0 ≤ a0) (hk : a0 % 3 = 0) :
    Calls Try.prog 4 #[.int .u8 a0, .bool true, .int .u32 a2, .int .u32 a3, .int .i32 a4, .int .i32 a5] w fun e w' => e = .returned (.bool true) ∧ Below w.heap.size w w' := by
  go_enter Try.func4, Try.ntmps4
  go_wp2_with (first | (go_at_call 67; refine (brk_some _ _ w.heap.size (w.heap.size + 1) a2 a3 _ (by simp [go_sem]) (by simp [go_sem]) (by simp [go_sem]) (by simp [go_sem]) (by simp [go_sem]) (by simp [go_sem]) ).mono ?_; rintro e w' ⟨rfl, hb⟩; have B := Lib.hid hb; clear hb) | go_in)
  go_ret
  refine ⟨rfl, ?_⟩
  go_light
  have h1 : Below w.heap.size w w' := below2 (by repeat (first | exact Below.refl _ _ | refine Below.alloc ?_ (by simp <;> omega) _)) B.out
  exact h1.alloc h1.size _
theorem case0false (a0 : Int) (a2 : Int) (a3 : Int) (a4 : Int) (a5 : Int) (w : World) (w0 : 0 ≤ a0) (hk : a0 % 3 = 0) :
    Calls Try.prog 4 #[.int .u8 a0, .bool false, .int .u32 a2, .int .u32 a3, .int .i32 a4, .int .i32 a5] w fun e w' => e = .returned (.bool true) ∧ Below w.heap.size w w' := by
  go_enter Try.func4, Try.ntmps4
  go_wp2_with (first | (go_at_call 67; refine (brk_none _ _ _ (by simp [go_sem]) (by simp [go_sem])).mono ?_; rintro e w' ⟨rfl, hb⟩; have B := Lib.hid hb; clear hb) | go_in)
  go_ret
  refine ⟨rfl, ?_⟩
  go_light
  have h1 : Below w.heap.size w w' := below2 (by repeat (first | exact Below.refl _ _ | refine Below.alloc ?_ (by simp <;> omega) _)) B.out
  exact h1.alloc h1.size _
theorem case1true (a0 : Int) (a2 : Int) (a3 : Int) (a4 : Int) (a5 : Int) (w : World) (w0 : 0 ≤ a0) (hk : a0 % 3 = 1) :
    Calls Try.prog 4 #[.int .u8 a0, .bool true, .int .u32 a2, .int .u32 a3, .int .i32 a4, .int .i32 a5] w fun e w' => e = .returned (.bool true) ∧ Below w.heap.size w w' := by
  go_enter Try.func4, Try.ntmps4
  go_wp2_with (first | (go_at_call 67; refine (cnt_some _ _ w.heap.size (w.heap.size + 1) a2 a3 _ (by simp [go_sem]) (by simp [go_sem]) (by simp [go_sem]) (by simp [go_sem]) (by simp [go_sem]) (by simp [go_sem]) ).mono ?_; rintro e w' ⟨rfl, hb⟩; have B := Lib.hid hb; clear hb) | go_in)
  go_ret
  refine ⟨rfl, ?_⟩
  go_light
  have h1 : Below w.heap.size w w' := below2 (by repeat (first | exact Below.refl _ _ | refine Below.alloc ?_ (by simp <;> omega) _)) B.out
  exact h1.alloc h1.size _
theorem case1false (a0 : Int) (a2 : Int) (a3 : Int) (a4 : Int) (a5 : Int) (w : World) (w0 : 0 ≤ a0) (hk : a0 % 3 = 1) :
    Calls Try.prog 4 #[.int .u8 a0, .bool false, .int .u32 a2, .int .u32 a3, .int .i32 a4, .int .i32 a5] w fun e w' => e = .returned (.bool true) ∧ Below w.heap.size w w' := by
  go_enter Try.func4, Try.ntmps4
  go_wp2_with (first | (go_at_call 67; refine (cnt_none _ _ _ (by simp [go_sem]) (by simp [go_sem])).mono ?_; rintro e w' ⟨rfl, hb⟩; have B := Lib.hid hb; clear hb) | go_in)
  go_ret
  refine ⟨rfl, ?_⟩
  go_light
  have h1 : Below w.heap.size w w' := below2 (by repeat (first | exact Below.refl _ _ | refine Below.alloc ?_ (by simp <;> omega) _)) B.out
  exact h1.alloc h1.size _
theorem case2true (a0 : Int) (a2 : Int) (a3 : Int) (a4 : Int) (a5 : Int) (w : World) (w0 : 0 ≤ a0) (hk : a0 % 3 = 2) :
    Calls Try.prog 4 #[.int .u8 a0, .bool true, .int .u32 a2, .int .u32 a3, .int .i32 a4, .int .i32 a5] w fun e w' => e = .returned (.bool true) ∧ Below w.heap.size w w' := by
  go_enter Try.func4, Try.ntmps4
  go_wp2_with (first | (go_at_call 67; refine (ret_none _ _ _ (by simp [go_sem]) (by simp [go_sem])).mono ?_; rintro e w' ⟨rfl, hb⟩; have B := Lib.hid hb; clear hb) | go_in)
  go_ret
  refine ⟨rfl, ?_⟩
  go_light
  have h1 : Below w.heap.size w w' := below2 (by repeat (first | exact Below.refl _ _ | refine Below.alloc ?_ (by simp <;> omega) _)) B.out
  exact h1.alloc h1.size _
theorem case2false (a0 : Int) (a2 : Int) (a3 : Int) (a4 : Int) (a5 : Int) (w : World) (w0 : 0 ≤ a0) (hk : a0 % 3 = 2) :
    Calls Try.prog 4 #[.int .u8 a0, .bool false, .int .u32 a2, .int .u32 a3, .int .i32 a4, .int .i32 a5] w fun e w' => e = .returned (.bool true) ∧ Below w.heap.size w w' := by
  go_enter Try.func4, Try.ntmps4
  go_wp2_with (first | (go_at_call 67; refine (ret_none _ _ _ (by simp [go_sem]) (by simp [go_sem])).mono ?_; rintro e w' ⟨rfl, hb⟩; have B := Lib.hid hb; clear hb) | go_in)
  go_ret
  refine ⟨rfl, ?_⟩
  go_light
  have h1 : Below w.heap.size w w' := below2 (by repeat (first | exact Below.refl _ _ | refine Below.alloc ?_ (by simp <;> omega) _)) B.out
  exact h1.alloc h1.size _

theorem walk (a0 : Int) (a1 : Bool) (a2 : Int) (a3 : Int) (a4 : Int) (a5 : Int) (w : World) (w0 : (Lit.int .u8 a0).wf = true) (w2 : (Lit.int .u32 a2).wf = true) (w3 : (Lit.int .u32 a3).wf = true) (w4 : (Lit.int .i32 a4).wf = true) (w5 : (Lit.int .i32 a5).wf = true) :
    Calls Try.prog 4 #[.int .u8 a0, .bool a1, .int .u32 a2, .int .u32 a3, .int .i32 a4, .int .i32 a5] w fun e w' => e = .returned (.bool true) ∧ Below w.heap.size w w' := by
  obtain ⟨h0, h1⟩ := bounds_u8 w0
  have hc : a0 % 3 = 0 ∨ a0 % 3 = 1 ∨ a0 % 3 = 2 := by omega
  rcases hc with h | h | h <;> cases a1
  · exact case0false a0 a2 a3 a4 a5 w h0 h
  · exact case0true a0 a2 a3 a4 a5 w h0 h
  · exact case1false a0 a2 a3 a4 a5 w h0 h
  · exact case1true a0 a2 a3 a4 a5 w h0 h
  · exact case2false a0 a2 a3 a4 a5 w h0 h
  · exact case2true a0 a2 a3 a4 a5 w h0 h
end Go.Proofs.Ytflfeffbckleaaa.fnJumpStmtsLookTheSameReflexiveOnJumps
