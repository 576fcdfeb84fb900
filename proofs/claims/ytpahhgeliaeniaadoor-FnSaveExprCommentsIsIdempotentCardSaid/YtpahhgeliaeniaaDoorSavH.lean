/- '==' and '!=' on ranges. No conditions. -/
import Derived.Test.YtpahhgeliaeniaaDoorSavA
import Derived.Laws.Cover2
namespace Go.Proofs.YtpahhgeliaeniaaDoor.sav
open Go.ChangeShapes Go.WideShapes Go.ChangeAt Go.RowKit Go.Mine
set_option linter.unusedVariables false
set_option linter.unusedSimpArgs false
set_option maxRecDepth 100000

theorem guard30 : Tryd.prog.eqGuardType Tryd.prog.depth 30 = false := by kernel_rfl
theorem st28 : Tryd.prog.underlying 28 = some (.struct (Tryd.prog.fieldsOf 28)) := by kernel_rfl
theorem st30 : Tryd.prog.underlying 30 = some (.struct (Tryd.prog.fieldsOf 30)) := by kernel_rfl
theorem held28 : Tryd.prog.stoodInHeld 28 = false := by kernel_rfl
theorem held30 : Tryd.prog.stoodInHeld 30 = false := by kernel_rfl
theorem eqIn28 (w : World) (a s : Int) : (Op.equalIn 9999 28 (.agg #[.int .i32 a]) (.agg #[.int .i32 s])).run Tryd.prog w = .ok (a == s) w := by
  have hf : (Tryd.prog.fieldsOf 28).toList.map (fun f => (f.name, f.type, f.offset)) = [("Start", 21, 0)] := by kernel_rfl
  rw [run_equalIn_agg w 9998 28 _ _ st28 held28]
  generalize (Tryd.prog.fieldsOf 28).toList = fs at hf
  obtain ⟨f0, fs0, rfl, g0, hf⟩ := List.map_eq_cons_iff.1 hf
  obtain rfl := List.map_eq_nil_iff.1 hf
  simp only [Prod.mk.injEq] at g0
  obtain ⟨p0, q0, r0⟩ := g0
  have e0 : ∀ (x0 : Value) (w : World), (part 21 #[x0] 0).run Tryd.prog w = .ok x0 w := fun x0 w => by kernel_rfl
  have k0 := fun (w : World) (a b : Int) => run_equalIn_int (P := Tryd.prog) w 9997 21 .i32 .i32 a b Tryd.underlying21
  by_cases z0 : a = s <;> simp [Op.eqFields, p0, q0, r0, e0, k0, z0]
theorem eqIn30 (w : World) (a s b t : Int) : (Op.equalIn 10000 30 (.agg #[.int .i32 a, .int .i32 b]) (.agg #[.int .i32 s, .int .i32 t])).run Tryd.prog w = .ok (a == s && b == t) w := by
  have hf : (Tryd.prog.fieldsOf 30).toList.map (fun f => (f.name, f.type, f.offset)) = [("Loc", 28, 0), ("Len", 21, 1)] := by kernel_rfl
  rw [run_equalIn_agg w 9999 30 _ _ st30 held30]
  generalize (Tryd.prog.fieldsOf 30).toList = fs at hf
  obtain ⟨f0, fs0, rfl, g0, hf⟩ := List.map_eq_cons_iff.1 hf
  obtain ⟨f1, fs1, rfl, g1, hf⟩ := List.map_eq_cons_iff.1 hf
  obtain rfl := List.map_eq_nil_iff.1 hf
  simp only [Prod.mk.injEq] at g0 g1
  obtain ⟨p0, q0, r0⟩ := g0
  obtain ⟨p1, q1, r1⟩ := g1
  have e0 : ∀ (x0 x1 : Value) (w : World), (part 28 #[x0, x1] 0).run Tryd.prog w = .ok (.agg #[x0]) w := fun x0 x1 w => by kernel_rfl
  have e1 : ∀ (x0 x1 : Value) (w : World), (part 21 #[x0, x1] 1).run Tryd.prog w = .ok x1 w := fun x0 x1 w => by kernel_rfl
  have k0 := eqIn28
  have k1 := fun (w : World) (a b : Int) => run_equalIn_int (P := Tryd.prog) w 9998 21 .i32 .i32 a b Tryd.underlying21
  by_cases z0 : a = s <;> by_cases z1 : b = t <;> simp [Op.eqFields, p0, q0, r0, e0, k0, z0, p1, q1, r1, e1, k1, z1]
theorem neq30 (w : World) (a b : Int) : (binOp .neq 30 (.agg #[.int .i32 a, .int .i32 b]) (.agg #[.int .i32 a, .int .i32 b])).run Tryd.prog w = .ok (.bool false) w := by
  rw [run_neq_struct, eqIn30]; simp
end Go.Proofs.YtpahhgeliaeniaaDoor.sav
