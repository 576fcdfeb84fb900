/- The contracts of the parser's making, of the reader of a row of bools and of the bound that is looked at first. No conditions beyond the hypotheses. -/
import Derived.Test.YtkbcbicecogjmaaCnvA
import Derived.Outline
import Derived.Deep.QuietTactic
import Derived.BigQuiet
namespace Go.Proofs.Ytkbcbicecogjmaa.cnv
open Go.ChangeShapes Go.WideShapes Go.ChangeAt Go.RowKit Go.Mine Go.Maps
set_option linter.unusedVariables false
set_option linter.unusedSimpArgs false
set_option maxRecDepth 100000

theorem wp_buildTo {P : Program} {o : Oper} {a : Act} {w : World} {K : Act → World → Prop} {Q : Exit → Act → World → Prop} (t : TypeId) (parts : Array (Nat × Operand)) (ho : o.op = .build t parts) (cells : Array Value)
    (hf : P.built t (parts.map fun (i, x) => (i, a.eval x)).toList = some cells) (h : K (a.put o.dst (.agg cells)) w) : o.wp P a w K Q :=
  wp_build t parts ho (by rw [hf]; rfl) (by rw [hf]; exact h)
noncomputable def parC (q : Nat) : Array Value := (Try.prog.built 175 [(8, .pointer (some ⟨q, 0, none⟩))]).getD #[]
theorem parB (q : Nat) : Try.prog.built 175 [(8, .pointer (some ⟨q, 0, none⟩))] = some (parC q) := by
  have h : (Try.prog.built 175 [(8, .pointer (some ⟨q, 0, none⟩))]).isSome = true := by kernel_rfl
  obtain ⟨C, hc⟩ := Option.isSome_iff_exists.1 h
  unfold parC
  rw [hc]
  rfl
/-- The parser in block p, its part in block q. -/
def Par (p q : Nat) (w : World) : Prop := ∃ C, Blk w p C 175 ∧ C[105]? = some (.pointer (some ⟨q, 0, none⟩))
theorem Par.cell {p q : Nat} {w : World} (h : Par p q w) : w.cell? ⟨p, 105, none⟩ = some (.pointer (some ⟨q, 0, none⟩)) := by
  obtain ⟨C, h1, h2⟩ := h
  rw [h1.cell, h2]
theorem Par.same {p q : Nat} {w w' : World} {X : Nat → Prop} (h : Par p q w) (hb : Same X w w') (hp : ¬ X p) : Par p q w' := by
  obtain ⟨C, h1, h2⟩ := h
  exact ⟨C, h1.same hb hp, h2⟩
theorem parC_at (q : Nat) : (parC q)[105]? = some (.pointer (some ⟨q, 0, none⟩)) := by kernel_rfl
def Made (q : Nat) (w : World) (e : Ending) (w' : World) : Prop := e = .returned (.pointer (some ⟨w.heap.size, 0, none⟩)) ∧ Par w.heap.size q w' ∧ Below w.heap.size w w'
set_option maxHeartbeats 2000000 in
theorem made8 (q : Nat) (w : World) : Calls Try.prog 8 #[.pointer (some ⟨q, 0, none⟩)] w (Made q w) := by
  have hpB := parB q
  have hp : Par w.heap.size q (w.alloc (.cells (parC q) 175)) := ⟨_, Blk.new _ _ _, parC_at q⟩
  have hb : Below w.heap.size w (w.alloc (.cells (parC q) 175)) := (Below.refl _ _).alloc (Nat.le_refl _) _
  go_enter Try.func8, Try.ntmps8
  go_wp2_with fail
  refine wp_buildTo 175 _ rfl (parC q) ?_ ?_
  · clear hp hpB hb
    kernel_rfl
  clear hpB
  have HP := Lib.hid hp
  have HB := Lib.hid hb
  clear hp hb
  generalize parC q = PC at *
  go_wp2_with fail
  go_ret
  exact ⟨rfl, HP.out, HB.out⟩
theorem wrapU {z : Int} (h0 : 0 ≤ z) (h1 : z < 4294967296) : IntKind.u32.wrap z = z := by
  unfold IntKind.wrap
  simp [IntKind.signed, IntKind.bits]
  omega
/-- What the reader of a row of bools answers. -/
def bat (B : List Bool) (l i : Nat) : Bool := decide (i < l) && B.getD i false
theorem bool5 (a : Option Addr) (l c i : Nat) (B : List Bool) (w : World) (h : BoolRow w a l c B) : Calls Try.prog 5 #[.slice a l c, .int .i64 i] w fun e w' => e = .returned (.bool (bat B l i)) ∧ w = w' := by
  by_cases hi : i < l
  · obtain ⟨b, off, rfl, hb, hc⟩ := h.at hi
    have e : bat B l i = B.getD i false := by simp [bat, hi]
    rw [e]
    generalize B.getD i false = x at *
    have hin : (i : Int) < (l : Int) := by omega
    clear h
    go_enter Try.func5, Try.ntmps5
    go_wp2
    go_ret
    exact ⟨rfl, rfl⟩
  · have e : bat B l i = false := by simp [bat, hi]
    rw [e]
    clear h
    go_enter Try.func5, Try.ntmps5
    go_wp2
    go_ret
    exact ⟨rfl, rfl⟩
def Bytes (l0 l1 : Nat) (w : World) (e : Ending) (w' : World) : Prop := ∃ b : Bool, e = .returned (.bool b) ∧ (b = true → l0 ≤ 1048576 ∧ l1 ≤ 1048576) ∧ Below w.heap.size w w'
set_option maxHeartbeats 4000000 in
theorem bytes4 (a0 a1 : Option Addr) (l0 l1 c0 c1 : Nat) (x : Value) (w : World) (m0 : l0 ≤ 9223372036854775807) (m1 : l1 ≤ 9223372036854775807) :
    Calls Try.prog 4 #[.slice a0 l0 c0, .slice a1 l1 c1, x] w (Bytes l0 l1 w) := by
  have HN : Hid (∀ w', Below w.heap.size w w' → Bytes l0 l1 w (.returned (.bool false)) w') := Lib.hid fun w' hb => ⟨_, rfl, (fun h => by cases h), hb⟩
  by_cases h0 : l0 ≤ 1048576
  case neg =>
    go_enter Try.func4, Try.ntmps4
    go_wp2
    all_goals (go_ret; refine HN.out _ ?_; repeat (first | with_reducible exact Below.refl _ _ | with_reducible refine Below.alloc ?_ (by simp <;> omega) _))
  by_cases h1 : l1 ≤ 1048576
  case neg =>
    go_enter Try.func4, Try.ntmps4
    go_wp2
    all_goals (go_ret; refine HN.out _ ?_; repeat (first | with_reducible exact Below.refl _ _ | with_reducible refine Below.alloc ?_ (by simp <;> omega) _))
  have HY : Hid (∀ b w', Below w.heap.size w w' → Bytes l0 l1 w (.returned (.bool b)) w') := Lib.hid fun b w' hb => ⟨_, rfl, fun _ => ⟨h0, h1⟩, hb⟩
  go_enter Try.func4, Try.ntmps4
  go_wp2
  all_goals (go_ret; refine HY.out _ _ ?_; repeat (first | with_reducible exact Below.refl _ _ | with_reducible refine Below.alloc ?_ (by simp <;> omega) _))
end Go.Proofs.Ytkbcbicecogjmaa.cnv
