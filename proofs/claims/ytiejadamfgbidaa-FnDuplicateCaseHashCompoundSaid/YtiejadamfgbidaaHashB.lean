/- What 'duplicateCaseHash' answers on leaves, on inlined enums round them, on dot and index accesses. No conditions beyond their hypotheses. -/
import Derived.Test.YtiejadamfgbidaaHashA
import Derived.Test.YtiejadamfgbidaaAsserts
import Derived.Test.YtiejadamfgbidaaDupLeaf
import Derived.Laws.Externs
import Derived.Deep.QuietTactic
import Derived.BigQuiet
import Derived.Deep.RegionHeld3
import Derived.Outline
namespace Go.Proofs.Ytiejadamfgbidaa.dup
open Go.ChangeShapes Go.WideShapes Go.ChangeAt Go.RowKit Go.Mine
set_option linter.unusedVariables false
set_option maxRecDepth 100000

def hv (h : Int) (ok : Bool) : Value := .tuple #[.int .u32 h, .bool ok]
def numH (x : Nat) : Int := hc (hc 3 ((x : Int) % 4294967296)) ((x : Int) / 4294967296 % 4294967296)
def listH (z : List Int) : Int := z.foldl hc 4
def leafH (k : Int) (x : Nat) (b : Bool) (z : List Int) (r : Int) : Int :=
  if k = 1 then 1 else if k = 2 then (if b then hc 2 1 else hc 2 0) else if k = 3 then numH x else if k = 4 then listH z else if k = 5 then hc 6 r else 0
def leafOk (k : Int) : Bool := decide (k ≠ 6)
theorem listH_take (z : List Int) (k : Nat) (h : k < z.length) : (z.take (k + 1)).foldl hc 4 = hc ((z.take k).foldl hc 4) z[k] := by
  rw [List.take_succ_eq_append_getElem h, List.foldl_append]; rfl

theorem f64bits (x : Nat) (w : World) : (callFunc 59 #[.float .f64 x]).run Try.prog w = .ok (.value (.int .u64 (x : Int))) w := by
  rw [run_callFunc_extern Try.func59 (by kernel_rfl) (by kernel_rfl) (by kernel_rfl) (e := Extern.MathFloatBits.float64bits) (by kernel_rfl)]
  rfl
theorem h_null (X : Nat → Prop) (T : Nat) (v : Value) (n l : Int) (w : World) (h : (T = 93 ∧ n = 0) ∨ (T = 96 ∧ n = 1)) : Says Try.prog X 56 #[.agg #[.iface T v, .int .i32 l]] (hv n true) w := by
  intro w' hs
  clear hs
  unfold hv
  rcases h with ⟨rfl, rfl⟩ | ⟨rfl, rfl⟩
  all_goals
    go_enter Try.func56, Try.ntmps56
    go_wp2
    go_ret2
    exact ⟨rfl, (Below.refl _ _).alloc (Nat.le_refl _) _⟩
theorem h_arr (X : Nat → Prop) (v : Value) (l : Int) (w : World) : Says Try.prog X 56 #[.agg #[.iface 147 v, .int .i32 l]] (hv 0 false) w := by
  intro w' hs
  clear hs
  unfold hv
  go_enter Try.func56, Try.ntmps56
  go_wp2
  go_ret2
  exact ⟨rfl, (Below.refl _ _).alloc (Nat.le_refl _) _⟩
theorem h_bool (X : Nat → Prop) (p : Nat) (b : Bool) (l : Int) (w : World) (hx : ¬ X p) (c : w.cell? ⟨p, 0, none⟩ = some (.bool b)) : Says Try.prog X 56 #[.agg #[.iface 48 (.pointer (some ⟨p, 0, none⟩)), .int .i32 l]] (hv (if b then hc 2 1 else hc 2 0) true) w := by
  intro w' hs
  have d := hs.cell hx c
  have hp := cell_lt d
  have C := Lib.hid hc58
  clear hs c
  unfold hv
  cases b
  all_goals
    simp only [if_true, Bool.false_eq_true, if_false]
    go_enter Try.func56, Try.ntmps56
    go_wp2_with (first | (go_at_call 58; refine (C.out _ _ _).mono ?_; rintro e w2 ⟨rfl, rfl⟩))
    go_ret2
    exact ⟨rfl, (Below.refl _ _).alloc (Nat.le_refl _) _⟩
theorem h_id (X : Nat → Prop) (p : Nat) (r l : Int) (w : World) (hx : ¬ X p) (c : w.cell? ⟨p, 1, none⟩ = some (.int .u32 r)) : Says Try.prog X 56 #[.agg #[.iface 32 (.pointer (some ⟨p, 0, none⟩)), .int .i32 l]] (hv (hc 6 r) true) w := by
  intro w' hs
  have d := hs.cell hx c
  have hp := cell_lt d
  have C := Lib.hid hc58
  clear hs c
  unfold hv
  go_enter Try.func56, Try.ntmps56
  go_wp2_with (first | (go_at_call 58; refine (C.out _ _ _).mono ?_; rintro e w2 ⟨rfl, rfl⟩))
  go_ret2
  exact ⟨rfl, (Below.refl _ _).alloc (Nat.le_refl _) _⟩
theorem h_num (X : Nat → Prop) (p x : Nat) (l : Int) (w : World) (hx : ¬ X p) (c : w.cell? ⟨p, 0, none⟩ = some (.float .f64 x)) : Says Try.prog X 56 #[.agg #[.iface 98 (.pointer (some ⟨p, 0, none⟩)), .int .i32 l]] (hv (numH x) true) w := by
  intro w' hs
  have d := hs.cell hx c
  have hp := cell_lt d
  have C := Lib.hid hc58
  have hfb := f64bits x
  clear hs c
  unfold hv numH
  go_enter Try.func56, Try.ntmps56
  go_wp2_with (first | (go_at_call 58; refine (C.out _ _ _).mono ?_; rintro e w2 ⟨rfl, rfl⟩))
  go_ret2
  exact ⟨rfl, (Below.refl _ _).alloc (Nat.le_refl _) _⟩
theorem ret_hv {a b : Int} (h : a = b) : Ending.returned (.tuple #[.int .u32 a, .bool true]) = .returned (.tuple #[.int .u32 b, .bool true]) := by rw [h]
theorem h_str (X : Nat → Prop) (p : Nat) (a : Option Addr) (n c : Nat) (z : List Int) (l : Int) (w : World) (hx : ¬ X p) (hX : ∀ x, a = some x → ¬ X x.block) (h0 : w.cell? ⟨p, 0, none⟩ = some (.slice a n c)) (hr : IntRow .u16 w a n c z) : Says Try.prog X 56 #[.agg #[.iface 101 (.pointer (some ⟨p, 0, none⟩)), .int .i32 l]] (hv (listH z) true) w := by
  intro w' hs
  have d := hs.cell hx h0
  have hp := cell_lt d
  have R := Lib.hid (hr.same hs hX)
  have hn : n ≤ 9223372036854775807 := by have := hr.2.1; have := hr.2.2.1; unfold maxLen at this; omega
  have C := Lib.hid hc58
  clear hs h0 hr
  unfold hv
  go_enter Try.func56, Try.ntmps56
  go_wp2_with fail
  go_loop [11, 77] (fun h i => ∃ (k : Nat) (g : Int), k ≤ n ∧ i = .int .i64 k ∧ h = .int .u32 g ∧ Hid (g = (z.take k).foldl hc 4)) (fun _ i => n - (intOf i).toNat)
  case atStart => exact ⟨0, 4, Nat.zero_le _, rfl, rfl, rfl⟩
  case round =>
    obtain ⟨k, g, hk, rfl, rfl, hg⟩ := hrel
    by_cases hlt : k < n
    · obtain ⟨b, off, ha, hb, hc'⟩ := R.out.at hlt
      subst ha
      obtain ⟨y, hy⟩ : ∃ y, y = z.getD k 0 := ⟨_, rfl⟩
      rw [← hy] at hc'
      obtain ⟨q, ey⟩ := elt_of R.out hlt hy
      have hb2 := bounds_u16 (R.out.2.2.2.1 _ (List.getElem_mem q))
      rw [← ey] at hb2
      obtain ⟨y0, y1⟩ := hb2
      have G : Hid (hc g y = (z.take (k + 1)).foldl hc 4) := by
        show hc g y = _
        rw [listH_take z k q, ← ey, hg.out]
      have hbl := Nat.lt_succ_of_lt hb
      clear hy ey hg
      go_wp2_with (first | (go_at_call 58; refine (C.out _ _ _).mono ?_; rintro e w2 ⟨rfl, rfl⟩))
      go_round
      case rel => exact ⟨k + 1, _, by omega, by go_num, rfl, G⟩
      case measure => simp [intOf]; omega
    · obtain rfl : k = n := by omega
      have G : Hid (g = listH z) := by
        show g = z.foldl hc 4
        rw [hg.out, List.take_of_length_le (by rw [R.out.1]; omega)]
      clear hg
      go_wp2_with fail
      go_ret2
      exact ⟨ret_hv G.out, (Below.refl _ _).alloc (Nat.le_refl _) _⟩
theorem h_enum (X : Nat → Prop) (T q : Nat) (v : Value) (l l2 h : Int) (ok : Bool) (w : World) (hx : ¬ X q) (hs0 : Says Try.prog X 56 #[.agg #[.iface T v, .int .i32 l]] (hv h ok) w) (c0 : w.cell? ⟨q, 0, none⟩ = some (.iface T v)) (c1 : w.cell? ⟨q, 1, none⟩ = some (.int .i32 l)) :
    Says Try.prog X 56 #[.agg #[.iface 41 (.pointer (some ⟨q, 0, none⟩)), .int .i32 l2]] (hv h ok) w := by
  intro w' hs
  have d0 := hs.cell hx c0
  have d1 := hs.cell hx c1
  have hq := cell_lt d0
  have H := Lib.hid (hs0.later hs)
  clear hs c0 c1 hs0
  unfold hv at H ⊢
  go_enter Try.func56, Try.ntmps56
  go_wp2_with fail
  refine (H.out _ (Same.of_below ((Below.refl _ _).alloc (Nat.le_refl _) _))).mono ?_
  rintro e w2 ⟨rfl, hb2⟩
  have B := Lib.hid (below2 ((Below.refl w'.heap.size w').alloc (Nat.le_refl _) _) hb2)
  clear hb2
  go_wp2_with fail
  go_ret2
  exact ⟨rfl, B.out⟩
end Go.Proofs.Ytiejadamfgbidaa.dup
