/- The contracts of 'IsSymbolInstance' and 'IsPropertyAccess' of the package js_ast. No conditions beyond their hypotheses. -/
import Derived.Test.YtpgkbpgfiblboaaRSymD
namespace Go.Proofs.YtpgkbpgfiblboaaR.sym
open Go.ChangeShapes Go.WideShapes Go.ChangeAt Go.RowKit Go.Mine Go.Deep
set_option linter.unusedVariables false
set_option maxRecDepth 100000

def Sym15 (w : World) (T : Nat) (e : Ending) (w' : World) : Prop := (∃ r : Bool, e = .returned (.bool r) ∧ (r = true → T = 97 ∨ T = 101)) ∧ w = w'
theorem sym_none (w : World) (T p : Nat) (h1 : T ≠ 97) (h2 : T ≠ 101) : Calls Try.prog 15 #[.iface T (.pointer (some ⟨p, 0, none⟩))] w (Sym15 w T) := by
  have e1 : (T == 97) = false := by simpa using h1
  have e2 : (T == 101) = false := by simpa using h2
  go_enter Try.func15, Try.ntmps15
  go_wp2
  all_goals
    go_ret
    exact ⟨⟨_, rfl, fun h => by cases h⟩, rfl⟩
theorem sym_dot (w : World) (p : Nat) (f : Bool) (h : w.cell? ⟨p, 7, none⟩ = some (.bool f)) : Calls Try.prog 15 #[.iface 97 (.pointer (some ⟨p, 0, none⟩))] w (Sym15 w 97) := by
  have hl := cell_lt h
  go_enter Try.func15, Try.ntmps15
  go_wp2
  go_ret
  exact ⟨⟨_, rfl, fun h => .inl rfl⟩, rfl⟩
theorem sym_index (w : World) (p : Nat) (f : Bool) (h : w.cell? ⟨p, 8, none⟩ = some (.bool f)) : Calls Try.prog 15 #[.iface 101 (.pointer (some ⟨p, 0, none⟩))] w (Sym15 w 101) := by
  have hl := cell_lt h
  go_enter Try.func15, Try.ntmps15
  go_wp2
  go_ret
  exact ⟨⟨_, rfl, fun h => .inr rfl⟩, rfl⟩
def Acc16 (w : World) (e : Ending) (w' : World) : Prop := e = .returned (.bool true) ∧ Below w.heap.size w w'
theorem acc16 (w : World) (T p : Nat) (h : T = 97 ∨ T = 101) : Calls Try.prog 16 #[.agg #[.iface T (.pointer (some ⟨p, 0, none⟩)), .int .i32 0]] w (Acc16 w) := by
  rcases h with rfl | rfl
  · go_enter Try.func16, Try.ntmps16
    go_wp2
    go_ret
    exact ⟨rfl, (Below.refl _ _).alloc (Nat.le_refl _) _⟩
  · go_enter Try.func16, Try.ntmps16
    go_wp2
    go_ret
    exact ⟨rfl, (Below.refl _ _).alloc (Nat.le_refl _) _⟩
end Go.Proofs.YtpgkbpgfiblboaaR.sym
