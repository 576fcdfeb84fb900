/- The contract of the chain that the law 'FnToNullOrUndefinedMatchesClosedForm' builds. No conditions beyond their hypotheses. -/
import Derived.Test.YtiejadamfgbidaaRows
import Derived.Test.YtiejadamfgbidaaLib
import Derived.Test.YtiejadamfgbidaaAsserts
import Derived.Test.YtiejadamfgbidaaNull
import Derived.Deep.CutBlock
import Derived.Deep.DeepCutAuto
import Derived.Outline
namespace Go.Proofs.Ytiejadamfgbidaa.nullish
open Go.ChangeShapes Go.WideShapes Go.ChangeAt Go.RowKit Go.Mine
set_option linter.unusedVariables false
set_option maxRecDepth 100000

def tvT (t : Bool × Bool × Bool) : Value := tv t.1 t.2.1 t.2.2
def leafT (k o : Int) (ti : Bool) : Bool × Bool × Bool :=
  if k ≤ 1 then (true, true, true) else if k ≤ 8 then (false, true, true) else if k ≤ 11 then (false, false, true) else if k = 12 then (false, true, false) else if k = 13 then un o ti else if binKnown o then (false, false, true) else (false, true, false)
theorem leaf14 (o : Int) (ti : Bool) : tvT (leafT 14 o ti) = bv o := by
  show tvT (if binKnown o then (false, false, true) else (false, true, false)) = bv o
  unfold bv
  cases binKnown o <;> rfl
def wrapT (c : Int) (t : Bool × Bool × Bool) : Bool × Bool × Bool :=
  if c = 0 ∨ c = 1 then t else if c = 2 then (t.1, true, t.2.2) else if t.2.2 then (t.1, false, true) else (false, true, false)
def tri (z : List Int) (t0 : Bool × Bool × Bool) : Bool × Bool × Bool := z.foldr (fun c t => wrapT (c % 4) t) t0
theorem tri_drop (z : List Int) (t0 : Bool × Bool × Bool) (k : Nat) (h : k < z.length) : tri (z.drop k) t0 = wrapT (z[k] % 4) (tri (z.drop (k + 1)) t0) := by
  unfold tri; rw [List.drop_eq_getElem_cons h, List.foldr_cons]
theorem comma_T (t : Bool × Bool × Bool) : (if t.2.2 then tv t.1 false true else tv false true false) = tvT (wrapT 3 t) := by
  obtain ⟨a, b, c⟩ := t
  cases c <;> rfl

def CutR (k o : Int) (ti : Bool) (w : World) (s : Value) (wx : World) : Prop :=
  ∃ T v, s = .iface T v ∧ Below w.heap.size w wx ∧ Says Try.prog (fun _ => False) 23 #[.iface T v] (tvT (leafT k o ti)) wx
def ChainP (t : Bool × Bool × Bool) (w : World) (e : Ending) (w' : World) : Prop :=
  ∃ T v, e = .returned (.iface T v) ∧ Below w.heap.size w w' ∧ Says Try.prog (fun _ => False) 23 #[.iface T v] (tvT t) w'

set_option maxHeartbeats 8000000 in
theorem chain22 (k o : Int) (ti : Bool) (b : Option Addr) (n : Nat) (z : List Int) (w : World) (h0 : 0 ≤ k) (ho0 : 0 ≤ o) (ho1 : o ≤ 255) (hr : IntRow .u8 w b n n z) (hn : n ≤ 65536) :
    Calls Try.prog 22 #[.int .u8 k, .int .u8 o, .bool ti, .slice b n n] w (ChainP (tri z (leafT (k % 15) o ti)) w) := by
  have HR := Lib.hid hr
  clear hr
  go_enter Try.func22, Try.ntmps22
  go_upto_block 0 with fail
  go_cut [9] (fun s9 wx => CutR (k % 15) o ti w s9 wx)
  case first =>
    have hc : k % 15 = 0 ∨ k % 15 = 1 ∨ k % 15 = 2 ∨ k % 15 = 3 ∨ k % 15 = 4 ∨ k % 15 = 5 ∨ k % 15 = 6 ∨ k % 15 = 7 ∨ k % 15 = 8 ∨ k % 15 = 9 ∨ k % 15 = 10 ∨ k % 15 = 11 ∨ k % 15 = 12 ∨ k % 15 = 13 ∨ k % 15 = 14 := by omega
    rcases hc with h | h | h | h | h | h | h | h | h | h | h | h | h | h | h
    · go_wp2
      go_meet
      rw [h]
      refine ⟨_, _, rfl, ?_, ?_⟩
      · go_light
        repeat (first | with_reducible exact Below.refl _ _ | with_reducible refine Below.drew ?_ | with_reducible refine Below.alloc ?_ (by simp <;> omega) _ | with_reducible refine Below.setCell ?_ (by simp <;> omega) _)
      · go_light
        exact nu_null _ _ _ _ (by decide)
    · go_wp2
      go_meet
      rw [h]
      refine ⟨_, _, rfl, ?_, ?_⟩
      · go_light
        repeat (first | with_reducible exact Below.refl _ _ | with_reducible refine Below.drew ?_ | with_reducible refine Below.alloc ?_ (by simp <;> omega) _ | with_reducible refine Below.setCell ?_ (by simp <;> omega) _)
      · go_light
        exact nu_null _ _ _ _ (by decide)
    · go_wp2
      go_meet
      rw [h]
      refine ⟨_, _, rfl, ?_, ?_⟩
      · go_light
        repeat (first | with_reducible exact Below.refl _ _ | with_reducible refine Below.drew ?_ | with_reducible refine Below.alloc ?_ (by simp <;> omega) _ | with_reducible refine Below.setCell ?_ (by simp <;> omega) _)
      · go_light
        exact nu_lit _ _ _ _ (by decide)
    · go_wp2
      go_meet
      rw [h]
      refine ⟨_, _, rfl, ?_, ?_⟩
      · go_light
        repeat (first | with_reducible exact Below.refl _ _ | with_reducible refine Below.drew ?_ | with_reducible refine Below.alloc ?_ (by simp <;> omega) _ | with_reducible refine Below.setCell ?_ (by simp <;> omega) _)
      · go_light
        exact nu_lit _ _ _ _ (by decide)
    · go_wp2
      go_meet
      rw [h]
      refine ⟨_, _, rfl, ?_, ?_⟩
      · go_light
        repeat (first | with_reducible exact Below.refl _ _ | with_reducible refine Below.drew ?_ | with_reducible refine Below.alloc ?_ (by simp <;> omega) _ | with_reducible refine Below.setCell ?_ (by simp <;> omega) _)
      · go_light
        exact nu_lit _ _ _ _ (by decide)
    · go_wp2
      go_meet
      rw [h]
      refine ⟨_, _, rfl, ?_, ?_⟩
      · go_light
        repeat (first | with_reducible exact Below.refl _ _ | with_reducible refine Below.drew ?_ | with_reducible refine Below.alloc ?_ (by simp <;> omega) _ | with_reducible refine Below.setCell ?_ (by simp <;> omega) _)
      · go_light
        exact nu_lit _ _ _ _ (by decide)
    · go_wp2
      go_meet
      rw [h]
      refine ⟨_, _, rfl, ?_, ?_⟩
      · go_light
        repeat (first | with_reducible exact Below.refl _ _ | with_reducible refine Below.drew ?_ | with_reducible refine Below.alloc ?_ (by simp <;> omega) _ | with_reducible refine Below.setCell ?_ (by simp <;> omega) _)
      · go_light
        exact nu_lit _ _ _ _ (by decide)
    · go_wp2
      go_meet
      rw [h]
      refine ⟨_, _, rfl, ?_, ?_⟩
      · go_light
        repeat (first | with_reducible exact Below.refl _ _ | with_reducible refine Below.drew ?_ | with_reducible refine Below.alloc ?_ (by simp <;> omega) _ | with_reducible refine Below.setCell ?_ (by simp <;> omega) _)
      · go_light
        exact nu_lit _ _ _ _ (by decide)
    · go_wp2
      go_meet
      rw [h]
      refine ⟨_, _, rfl, ?_, ?_⟩
      · go_light
        repeat (first | with_reducible exact Below.refl _ _ | with_reducible refine Below.drew ?_ | with_reducible refine Below.alloc ?_ (by simp <;> omega) _ | with_reducible refine Below.setCell ?_ (by simp <;> omega) _)
      · go_light
        exact nu_lit _ _ _ _ (by decide)
    · go_wp2
      go_meet
      rw [h]
      refine ⟨_, _, rfl, ?_, ?_⟩
      · go_light
        repeat (first | with_reducible exact Below.refl _ _ | with_reducible refine Below.drew ?_ | with_reducible refine Below.alloc ?_ (by simp <;> omega) _ | with_reducible refine Below.setCell ?_ (by simp <;> omega) _)
      · go_light
        exact nu_obj _ _ _ _ (by decide)
    · go_wp2
      go_meet
      rw [h]
      refine ⟨_, _, rfl, ?_, ?_⟩
      · go_light
        repeat (first | with_reducible exact Below.refl _ _ | with_reducible refine Below.drew ?_ | with_reducible refine Below.alloc ?_ (by simp <;> omega) _ | with_reducible refine Below.setCell ?_ (by simp <;> omega) _)
      · go_light
        exact nu_obj _ _ _ _ (by decide)
    · go_wp2
      go_meet
      rw [h]
      refine ⟨_, _, rfl, ?_, ?_⟩
      · go_light
        repeat (first | with_reducible exact Below.refl _ _ | with_reducible refine Below.drew ?_ | with_reducible refine Below.alloc ?_ (by simp <;> omega) _ | with_reducible refine Below.setCell ?_ (by simp <;> omega) _)
      · go_light
        exact nu_obj _ _ _ _ (by decide)
    · go_wp2
      go_meet
      rw [h]
      refine ⟨_, _, rfl, ?_, ?_⟩
      · go_light
        repeat (first | with_reducible exact Below.refl _ _ | with_reducible refine Below.drew ?_ | with_reducible refine Below.alloc ?_ (by simp <;> omega) _ | with_reducible refine Below.setCell ?_ (by simp <;> omega) _)
      · go_light
        exact nu_id _ _ _
    · go_wp2
      go_meet
      rw [h]
      refine ⟨_, _, rfl, ?_, ?_⟩
      · go_light
        repeat (first | with_reducible exact Below.refl _ _ | with_reducible refine Below.drew ?_ | with_reducible refine Below.alloc ?_ (by simp <;> omega) _ | with_reducible refine Below.setCell ?_ (by simp <;> omega) _)
      · go_light
        exact nu_un o ti ho0 (fun h => h) (by simp [go_sem]) (by simp [go_sem])
    · go_wp2
      go_meet
      rw [h]
      refine ⟨_, _, rfl, ?_, ?_⟩
      · go_light
        repeat (first | with_reducible exact Below.refl _ _ | with_reducible refine Below.drew ?_ | with_reducible refine Below.alloc ?_ (by simp <;> omega) _ | with_reducible refine Below.setCell ?_ (by simp <;> omega) _)
      · go_light
        rw [leaf14]; exact nu_bin o ho0 ho1 (fun h => h) (by simp [go_sem]; rfl) (by simp [go_sem])
  case rest =>
    obtain ⟨T0, v0, rfl, hb, hs⟩ := hcut
    obtain ⟨t0, ht0⟩ : ∃ t0, t0 = leafT (k % 15) o ti := ⟨_, rfl⟩
    rw [← ht0] at hs
    have HT := Lib.hid ht0
    have S := Lib.hid hs
    have B := Lib.hid hb
    clear hs hb ht0
    go_wp2_with fail
    go_loopw [9, 10] (fun s i wr => ∃ j : Nat, j ≤ n ∧ i = .int .i64 ((j : Int) - 1) ∧ ∃ T v, s = .iface T v ∧ IntRow .u8 wr b n n z ∧ Below w.heap.size w wr ∧ Says Try.prog (fun _ => False) 23 #[.iface T v] (tvT (tri (z.drop j) t0)) wr) (fun _ i _ => (intOf i + 1).toNat)
    case atStart =>
      refine ⟨n, Nat.le_refl _, rfl, _, _, rfl, HR.out.below B.out, B.out, ?_⟩
      rw [List.drop_of_length_le (by rw [HR.out.1]; omega)]
      exact S.out
    case round =>
      obtain ⟨j1, hj1, rfl, T, v, rfl, k3, k4, k2⟩ := hrel
      have K2 := Lib.hid k2
      have K3 := Lib.hid k3
      have K4 := Lib.hid k4
      clear k2 k3 k4
      cases j1 with
      | zero =>
        clear hj1
        go_wp2_with fail
        go_ret
        exact ⟨T, v, rfl, K4.out, by rw [← HT.out]; exact K2.out⟩
      | succ j =>
        have hj : j < n := by omega
        obtain ⟨bb, oo, eb, hbb, hcb⟩ := K3.out.at hj
        obtain ⟨y, hy⟩ : ∃ y, y = z.getD j 0 := ⟨_, rfl⟩
        rw [← hy] at hcb
        obtain ⟨q, ey⟩ := elt_of K3.out hj hy
        have by0 := bounds_u8 (K3.out.2.2.2.1 z[j] (List.getElem_mem q))
        rw [← ey] at by0
        obtain ⟨bx0, bx1⟩ := by0
        have EX := Lib.hid (tri_drop z t0 j q)
        rw [← ey] at EX
        clear hy ey q
        subst eb
        have ei : ((j + 1 : Nat) : Int) - 1 = (j : Int) := by omega
        rw [ei]
        clear ei
        have hc : y % 4 = 0 ∨ y % 4 = 1 ∨ y % 4 = 2 ∨ y % 4 = 3 := by omega
        have hb3 : ∀ o, Below wr.heap.size wr (wr.alloc o) := fun o => (Below.refl _ _).alloc (Nat.le_refl _) _
        have hb4 : ∀ o1 o2, Below wr.heap.size wr ((wr.alloc o1).alloc o2) := fun o1 o2 => (hb3 o1).alloc (by simp) _
        have HB3 := Lib.hid hb3
        have HB4 := Lib.hid hb4
        clear hb3 hb4
        rcases hc with h | h | h | h
        · go_wp2
          go_light
          refine ⟨⟨j, by omega, rfl, _, _, rfl, K3.out.below (HB3.out _), below2 K4.out (HB3.out _), ?_⟩, (by simp [intOf]; try omega)⟩
          rw [EX.out, h]
          generalize tri (z.drop (j + 1)) t0 = t at K2 ⊢
          rw [show wrapT 0 t = t from rfl]; exact nu_inl (fun h => h) (K2.out.later (Same.of_below (HB3.out _))) (by simp)
        · go_wp2
          go_light
          refine ⟨⟨j, by omega, rfl, _, _, rfl, K3.out.below (HB3.out _), below2 K4.out (HB3.out _), ?_⟩, (by simp [intOf]; try omega)⟩
          rw [EX.out, h]
          generalize tri (z.drop (j + 1)) t0 = t at K2 ⊢
          rw [show wrapT 1 t = t from rfl]; exact nu_ann0 (fun h => h) (K2.out.later (Same.of_below (HB3.out _))) (by simp) (by simp)
        · go_wp2
          go_light
          refine ⟨⟨j, by omega, rfl, _, _, rfl, K3.out.below (HB3.out _), below2 K4.out (HB3.out _), ?_⟩, (by simp [intOf]; try omega)⟩
          rw [EX.out, h]
          generalize tri (z.drop (j + 1)) t0 = t at K2 ⊢
          rw [show wrapT 2 t = (t.1, true, t.2.2) from rfl]; exact nu_ann1 (fun h => h) (K2.out.later (Same.of_below (HB3.out _))) (by simp) (by simp)
        · go_wp2
          go_light
          refine ⟨⟨j, by omega, rfl, _, _, rfl, K3.out.below (HB4.out _ _), below2 K4.out (HB4.out _ _), ?_⟩, (by simp [intOf]; try omega)⟩
          rw [EX.out, h]
          generalize tri (z.drop (j + 1)) t0 = t at K2 ⊢
          rw [← comma_T]; exact nu_comma (fun h => h) (K2.out.later (Same.of_below (HB4.out _ _))) (by simp [go_sem]) (by simp [go_sem])
end Go.Proofs.Ytiejadamfgbidaa.nullish
