/- The built tree in memory, and the contract of 'exprHasObjectRest' on it. No conditions beyond the hypotheses. -/
import Derived.Test.YtgbbhihnlkaakaaRstC
import Derived.Test.YtgbbhihnlkaakaaAsserts
namespace Go.Proofs.Ytgbbhihnlkaakaa.rst
open Go.ChangeShapes Go.WideShapes Go.ChangeAt Go.RowKit Go.Mine
set_option linter.unusedVariables false
set_option linter.unusedSimpArgs false
set_option maxRecDepth 100000

def ty (k : Int) : Nat := if k = 1 then 44 else if k = 2 then 47 else if k = 3 ∨ k = 4 then 51 else 55
section
variable (K : Nat → Int) (pl : Nat → Nat) (sp : Nat → Bool)
def ex (j : Nat) : Value := .iface (ty (K j)) (.pointer (some ⟨pl j, 0, none⟩))
def encE (j : Nat) : List Value := [ex K pl j, .int .i32 0]
def encP (j : Nat) : List Value := [.pointer none, .nilIface, .int .i32 0, ex K pl j, .int .i32 0, .nilIface, .int .i32 0, .slice none 0 0, .int .i32 0, .int .i32 0, .int .u8 (if sp j then 5 else 0), .int .u8 0]
end
/-- A slice of elements of sz cells, as it reads. -/
def RRow (w : World) (v : Value) (sz : Nat) (enc : Nat → List Value) (js : List Nat) : Prop :=
  ∃ a cap, v = .slice a js.length cap ∧ ∀ (q j : Nat), js[q]? = some j → ∃ b, a = some ⟨b, 0, none⟩ ∧ b < w.heap.size ∧ ∀ o u, (enc j)[o]? = some u → w.cell? ⟨b, q * sz + o, none⟩ = some u
theorem RRow.below {w w' : World} {v : Value} {sz : Nat} {enc : Nat → List Value} {js : List Nat} (h : RRow w v sz enc js) (hb : Below w.heap.size w w') : RRow w' v sz enc js := by
  obtain ⟨a, cap, e, h⟩ := h
  refine ⟨a, cap, e, fun q j hj => ?_⟩
  obtain ⟨b, e2, h1, h2⟩ := h q j hj
  exact ⟨b, e2, Nat.lt_of_lt_of_le h1 hb.size, fun o u hu => bcell hb (h2 o u hu)⟩
/-- One node. -/
structure NodeT (n : Nat) (K : Nat → Int) (par : Nat → Option Nat) (slot : Nat → Int) (sp : Nat → Bool) (pl : Nat → Nat) (w : World) (i : Nat) : Prop where
  rng : 0 ≤ K i ∧ K i ≤ 4
  lt : pl i < w.heap.size
  arr : K i = 1 → ∃ v js, w.cell? ⟨pl i, 0, none⟩ = some v ∧ RRow w v 2 (encE K pl) js ∧ (∀ j, j ∈ js ↔ j < n ∧ par j = some i) ∧ js.length ≤ n
  obj : K i = 2 → ∃ v js, w.cell? ⟨pl i, 0, none⟩ = some v ∧ RRow w v 12 (encP K pl sp) js ∧ (∀ j, j ∈ js ↔ j < n ∧ par j = some i) ∧ js.length ≤ n
  asg : K i = 3 → w.cell? ⟨pl i, 4, none⟩ = some (.int .u8 37) ∧ w.cell? ⟨pl i, 1, none⟩ = some (.int .i32 0) ∧
    ((∃ j, j < n ∧ par j = some i ∧ slot j = 0 ∧ w.cell? ⟨pl i, 0, none⟩ = some (ex K pl j) ∧ ∀ j', j' < n → par j' = some i → slot j' = 0 → j' = j) ∨
     ((∀ j, j < n → par j = some i → slot j ≠ 0) ∧ w.cell? ⟨pl i, 0, none⟩ = some .nilIface))
  add : K i = 4 → w.cell? ⟨pl i, 4, none⟩ = some (.int .u8 11)
theorem NodeT.below {n : Nat} {K : Nat → Int} {par : Nat → Option Nat} {slot : Nat → Int} {sp : Nat → Bool} {pl : Nat → Nat} {w w' : World} {i : Nat} (h : NodeT n K par slot sp pl w i) (hb : Below w.heap.size w w') : NodeT n K par slot sp pl w' i := by
  refine ⟨h.rng, Nat.lt_of_lt_of_le h.lt hb.size, fun k => ?_, fun k => ?_, fun k => ?_, fun k => bcell hb (h.add k)⟩
  · obtain ⟨v, js, c, r, m⟩ := h.arr k
    exact ⟨v, js, bcell hb c, r.below hb, m⟩
  · obtain ⟨v, js, c, r, m⟩ := h.obj k
    exact ⟨v, js, bcell hb c, r.below hb, m⟩
  · obtain ⟨c4, c1, c0⟩ := h.asg k
    refine ⟨bcell hb c4, bcell hb c1, ?_⟩
    rcases c0 with ⟨j, h1, h2, h3, h4, h5⟩ | ⟨h1, h2⟩
    · exact .inl ⟨j, h1, h2, h3, bcell hb h4, h5⟩
    · exact .inr ⟨h1, bcell hb h2⟩
def Ans (A : Prop) (w : World) (e : Ending) (w' : World) : Prop := ∃ b : Bool, e = .returned (.bool b) ∧ (b = true ↔ A) ∧ Below w.heap.size w w'
theorem Ans.no {A : Prop} {w w' : World} (h : ¬ A) (hb : Below w.heap.size w w') : Ans A w (.returned (.bool false)) w' := ⟨false, rfl, by simpa using h, hb⟩
theorem Ans.yes {A : Prop} {w w' : World} (h : A) (hb : Below w.heap.size w w') : Ans A w (.returned (.bool true)) w' := ⟨true, rfl, by simpa using h, hb⟩
theorem nil11 (w : World) : Calls Try.prog 11 #[.agg #[.nilIface, .int .i32 0]] w (Ans False w) := by
  go_enter Try.func11, Try.ntmps11
  go_wp2
  go_ret
  exact Ans.no (fun h => h) ((Below.refl _ _).alloc (Nat.le_refl _) _)
/-- What is asked of the nodes behind i. -/
def IH (n : Nat) (K : Nat → Int) (par : Nat → Option Nat) (slot : Nat → Int) (sp : Nat → Bool) (pl : Nat → Nat) (w : World) (i : Nat) : Prop :=
  ∀ j, i < j → j < n → ∀ w1, Below w.heap.size w w1 → Calls Try.prog 11 #[.agg #[ex K pl j, .int .i32 0]] w1 (Ans (R n K par slot sp j) w1)
section
variable {n : Nat} {K : Nat → Int} {par : Nat → Option Nat} {slot : Nat → Int} {sp : Nat → Bool} {pl : Nat → Nat} {w : World} {i : Nat}
theorem noR (h1 : K i ≠ 1) (h2 : K i ≠ 2) (h3 : K i ≠ 3) : ¬ R n K par slot sp i := by
  intro h
  cases h with
  | arr k => exact h1 k
  | spread k => exact h2 k
  | obj k => exact h2 k
  | left k => exact h3 k
theorem leaf11 (p : Nat) (w : World) : Calls Try.prog 11 #[.agg #[.iface 55 (.pointer (some ⟨p, 0, none⟩)), .int .i32 0]] w (Ans False w) := by
  go_enter Try.func11, Try.ntmps11
  go_wp2
  go_ret
  exact Ans.no (fun h => h) ((Below.refl _ _).alloc (Nat.le_refl _) _)
theorem add11 (p : Nat) (w : World) (h : w.cell? ⟨p, 4, none⟩ = some (.int .u8 11)) : Calls Try.prog 11 #[.agg #[.iface 51 (.pointer (some ⟨p, 0, none⟩)), .int .i32 0]] w (Ans False w) := by
  have hl := cell_lt h
  go_enter Try.func11, Try.ntmps11
  go_wp2
  go_ret
  exact Ans.no (fun h => h) ((Below.refl _ _).alloc (Nat.le_refl _) _)
theorem asg11 (p : Nat) (w : World) (h : w.cell? ⟨p, 4, none⟩ = some (.int .u8 37)) (h1 : w.cell? ⟨p, 1, none⟩ = some (.int .i32 0)) (v : Value) (h0 : w.cell? ⟨p, 0, none⟩ = some v) (A : Prop)
    (hc : ∀ w1, Below w.heap.size w w1 → Calls Try.prog 11 #[.agg #[v, .int .i32 0]] w1 (Ans A w1)) :
    Calls Try.prog 11 #[.agg #[.iface 51 (.pointer (some ⟨p, 0, none⟩)), .int .i32 0]] w (Ans A w) := by
  have hl := cell_lt h
  have HC := Lib.hid hc
  clear hc
  go_enter Try.func11, Try.ntmps11
  go_upto_region 5 with (first | (go_at_call 11; (with_reducible refine (HC.out _ ?_).mono ?_); (exact (Below.refl _ _).alloc (Nat.le_refl _) _); rintro e w' ⟨b, rfl, hb, hw⟩; cases b))
  all_goals
    have HB := Lib.hid (below2 ((Below.refl _ _).alloc (Nat.le_refl _) _) hw)
    have HR := Lib.hid hb
    clear hb hw
    go_wp2_with fail
    go_ret
  · exact ⟨false, rfl, HR.out, HB.out⟩
  · exact ⟨true, rfl, by simpa using HR.out, HB.out⟩
end
end Go.Proofs.Ytgbbhihnlkaakaa.rst
