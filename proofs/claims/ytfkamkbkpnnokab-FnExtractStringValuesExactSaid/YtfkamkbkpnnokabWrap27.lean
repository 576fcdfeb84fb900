/- Contracts for the law 'FnExtractStringValuesExact': the leaf, the wrapping, the two extractions, the comparison. No conditions beyond their hypotheses. -/
import Derived.Test.YtfkamkbkpnnokabRows
import Derived.Test.YtfkamkbkpnnokabLib
import Derived.Test.YtfkamkbkpnnokabAsserts
import Derived.Test.YtfkamkbkpnnokabClones
import Derived.Test.YtfkamkbkpnnokabEqs
import Derived.Test.YtfkamkbkpnnokabExtract
namespace Go.Proofs.Ytfkamkbkpnnokab.fnExtractStringValuesExact
open Go.ChangeShapes Go.WideShapes Go.ChangeAt Go.RowKit Go.Mine extract
set_option linter.unusedVariables false
set_option maxRecDepth 100000

def NodePost (R : Value) (w : World) (e : Ending) (w' : World) : Prop :=
  ∃ T v, e = .returned (.agg #[.iface T v, .int .i32 0]) ∧ Below w.heap.size w w' ∧ ∀ X : Nat → Prop, (∀ k, X k → w'.heap.size ≤ k) → Says Try.prog X 50 #[.iface T v] R w'

def WrapPost (R : Value) (w : World) (e : Ending) (w' : World) : Prop :=
  ∃ T v, e = .returned (.agg #[.iface T v, .int .i32 0]) ∧ Below w.heap.size w w' ∧ Says Try.prog (fun _ => False) 50 #[.iface T v] R w'

theorem leaf28 (s : Bool) (x : Nat) (a : Option Addr) (l c : Nat) (w : World) : Calls Try.prog 28 #[.bool s, .slice a l c, .float .f64 x] w (NodePost (res a l c s) w) := by
  cases s
  · go_enter Try.func28, Try.ntmps28
    go_wp2
    refine bodyPost_ret (v := .agg #[_, .int .i32 0]) (by simp [results, Try.results28, go_sem]; try (first | exact ⟨rfl, rfl⟩ | rfl)) rfl ⟨_, _, rfl, ?_, fun X hX => ex_other _ _ _ _ _ _ _ (by decide) (by decide) (by decide)⟩
    go_light
    repeat (first | with_reducible exact Below.refl _ _ | with_reducible refine Below.drew ?_ | with_reducible refine Below.alloc ?_ (by simp <;> omega) _ | with_reducible refine Below.setCell ?_ (by simp <;> omega) _)
  · go_enter Try.func28, Try.ntmps28
    go_wp2
    refine bodyPost_ret (v := .agg #[_, .int .i32 0]) (by simp [results, Try.results28, go_sem]; try (first | exact ⟨rfl, rfl⟩ | rfl)) rfl ⟨_, _, rfl, ?_, fun X hX => ex_str (fun hx => by have := hX _ hx; simp at this; omega) (by simp [go_sem])⟩
    go_light
    repeat (first | with_reducible exact Below.refl _ _ | with_reducible refine Below.drew ?_ | with_reducible refine Below.alloc ?_ (by simp <;> omega) _ | with_reducible refine Below.setCell ?_ (by simp <;> omega) _)

def Rel (R : Value) (z : List Bool) (b : Option Addr) (w : World) (n pe pr : Nat) (wr : World) : Prop :=
  ∃ T v, Blk wr pe #[.iface T v, .int .i32 0] 28 ∧ Blk wr pr #[.nilIface, .int .i32 0] 28 ∧ Says Try.prog (fun i => i = pe ∨ i = pr) 50 #[.iface T v] R wr ∧ BoolRow wr b n n z ∧ Below w.heap.size w wr

theorem rel_step {R : Value} {z : List Bool} {b : Option Addr} {w : World} {n pe pr : Nat} {wr : World} {D : Value} {C : Array Value} {t T' : Nat}
    (hbl : ∀ x, b = some x → x.block ≠ pe) (hpr : pr ≠ pe) (hw : w.heap.size ≤ pe) (h1 : Blk wr pe #[D, .int .i32 0] 28) (h2 : Blk wr pr #[.nilIface, .int .i32 0] 28) (h3 : BoolRow wr b n n z) (h4 : Below w.heap.size w wr)
    (h5 : Says Try.prog (fun i => i = pe ∨ i = pr) 50 #[.iface T' (.pointer (some ⟨wr.heap.size, 0, none⟩))] R (nxt wr pe C t T')) :
    Rel R z b w n pe pr (nxt wr pe C t T') :=
  ⟨_, _, nxt_blk _ _ _ h1, h2.same (X := (· = pe)) (nxt_same _ _ _ _ _) hpr, h5, h3.same (X := (· = pe)) (nxt_same _ _ _ _ _) hbl, nxt_below _ _ _ hw h1.lt h4⟩

set_option maxHeartbeats 2000000 in
theorem wrap27 (a : Option Addr) (l c : Nat) (r : Bool) (T0 : Nat) (v0 : Value) (b : Option Addr) (n : Nat) (z : List Bool) (w : World) (hr : BoolRow w b n n z) (hn : n ≤ 65536) (hbb : ∀ x, b = some x → x.block < w.heap.size)
    (hs : ∀ X : Nat → Prop, (∀ k, X k → w.heap.size ≤ k) → Says Try.prog X 50 #[.iface T0 v0] (res a l c r) w) :
    Calls Try.prog 27 #[.agg #[.iface T0 v0, .int .i32 0], .slice b n n] w (WrapPost (res a l c r) w) := by
  have HR := Lib.hid hr
  have S := Lib.hid (hs (fun i => i = w.heap.size ∨ i = w.heap.size + 1) (fun k hk => by omega))
  have HY : Hid (∀ x, b = some x → x.block ≠ w.heap.size) := fun x hx => by have := hbb x hx; omega
  clear hr hbb hs
  go_enter Try.func27, Try.ntmps27
  go_wp2_with fail
  go_loopw [5] (fun i wr => ∃ k : Nat, k ≤ n ∧ i = .int .i64 ((k : Int) - 1) ∧ Rel (res a l c r) z b w n w.heap.size (w.heap.size + 1) wr) (fun i _ => (intOf i + 1).toNat)
  case atStart =>
    have hb3 : ∀ o1 o2, Below w.heap.size w ((w.alloc o1).alloc o2) := fun o1 o2 => ((Below.refl _ _).alloc (Nat.le_refl _) _).alloc (by simp) _
    refine ⟨n, Nat.le_refl _, rfl, _, _, (Blk.new _ _ _).alloc _, ?_, S.out.later (Same.of_below (hb3 _ _)), HR.out.below (hb3 _ _), hb3 _ _⟩
    have h := Blk.new (w.alloc (.cells #[.iface T0 v0, .int .i32 0] 28)) #[.nilIface, .int .i32 0] 28
    simpa using h
  case round =>
    obtain ⟨k, hk, rfl, T2, v2, k1, kp, k2, k3, k4⟩ := hrel
    have K1 := Lib.hid k1
    have KP := Lib.hid kp
    have K2 := Lib.hid k2
    have K3 := Lib.hid k3
    have K4 := Lib.hid k4
    have d0 : wr.cell? ⟨w.heap.size, 0, none⟩ = some (.iface T2 v2) := k1.cell 0
    have d1 : wr.cell? ⟨w.heap.size, 1, none⟩ = some (.int .i32 0) := k1.cell 1
    have f0 := k1.free 0
    have f1 := k1.free 1
    have e0 : wr.cell? ⟨w.heap.size + 1, 0, none⟩ = some .nilIface := kp.cell 0
    have e1 : wr.cell? ⟨w.heap.size + 1, 1, none⟩ = some (.int .i32 0) := kp.cell 1
    have g0 := kp.free 0
    have g1 := kp.free 1
    have hpe := k1.lt
    have hpr := kp.lt
    clear k1 k2 k3 k4 kp
    cases k with
    | zero =>
      clear hk
      have r0 : (wr.setCell ⟨w.heap.size + 1, 0, none⟩ (.iface T2 v2)).cell? ⟨w.heap.size + 1, 0, none⟩ = some (.iface T2 v2) := (KP.out.set 0 _).cell 0
      have r1 : ((wr.setCell ⟨w.heap.size + 1, 0, none⟩ (.iface T2 v2)).setCell ⟨w.heap.size + 1, 1, none⟩ (.int .i32 0)).cell? ⟨w.heap.size + 1, 1, none⟩ = some (.int .i32 0) := ((KP.out.set 0 _).set 1 (.int .i32 0)).cell 1
      go_wp2_with fail
      refine bodyPost_ret (v := .agg #[.iface T2 v2, .int .i32 0]) (by simp [results, Try.results27, go_sem, r0, r1]) rfl ⟨_, _, rfl, (K4.out.setCell (by simp) _).setCell (by simp) _, ?_⟩
      exact (K2.out.later (Same.setCell (p := ⟨w.heap.size + 1, 1, none⟩) (Same.setCell (p := ⟨w.heap.size + 1, 0, none⟩) (Same.refl _ _) (.inr rfl) (.iface T2 v2)) (.inr rfl) (.int .i32 0))).weaken (fun _ h => h.elim)
    | succ j =>
      have hj : j < n := by omega
      obtain ⟨bb, oo, eb, hbb, hcb⟩ := K3.out.at hj
      obtain ⟨y, hy⟩ : ∃ y, y = z.getD j false := ⟨_, rfl⟩
      rw [← hy] at hcb
      clear hy
      subst eb
      have ei : ((j + 1 : Nat) : Int) - 1 = (j : Int) := by omega
      rw [ei]
      clear ei
      cases y
      · go_wp2
        go_light
        refine ⟨⟨j, by omega, rfl, rel_step HY.out (by omega) (Nat.le_refl _) K1.out KP.out K3.out K4.out ?_⟩, (by simp [intOf]; try omega)⟩
        refine ex_inl (.inr ⟨_, _, rfl⟩) ?_ (K2.out.later (nxt_sameX _ _ _ _ _ (.inl rfl))) ((nxt_node _ _ _ _ _).cell 0)
        omega
      · go_wp2
        go_light
        refine ⟨⟨j, by omega, rfl, rel_step HY.out (by omega) (Nat.le_refl _) K1.out KP.out K3.out K4.out ?_⟩, (by simp [intOf]; try omega)⟩
        refine ex_ann (.inr ⟨_, _, rfl⟩) ?_ (K2.out.later (nxt_sameX _ _ _ _ _ (.inl rfl))) ((nxt_node _ _ _ _ _).cell 0)
        omega

/-- Both extractions: the two strings where both are strings, else nothing. -/
def both (a : Option Addr) (l c : Nat) (r : Bool) (a' : Option Addr) (l' c' : Nat) (r' : Bool) : Value :=
  if r && r' then .tuple #[.slice a l c, .slice a' l' c', .bool true] else .tuple #[.slice none 0 0, .slice none 0 0, .bool false]

set_option maxHeartbeats 2000000 in
theorem both51 (a : Option Addr) (l c : Nat) (r : Bool) (a' : Option Addr) (l' c' : Nat) (r' : Bool) (T1 : Nat) (v1 : Value) (T2 : Nat) (v2 : Value) (w : World)
    (h1 : Says Try.prog (fun _ => False) 50 #[.iface T1 v1] (res a l c r) w) (h2 : Says Try.prog (fun _ => False) 50 #[.iface T2 v2] (res a' l' c' r') w) :
    Calls Try.prog 51 #[.agg #[.iface T1 v1, .int .i32 0], .agg #[.iface T2 v2, .int .i32 0]] w fun e w' => e = .returned (both a l c r a' l' c' r') ∧ Below w.heap.size w w' := by
  have S1 := Lib.hid h1
  have S2 := Lib.hid h2
  clear h1 h2
  cases r
  · have S1' : Hid (Says Try.prog (fun _ => False) 50 #[.iface T1 v1] (.tuple #[.slice none 0 0, .bool false]) w) := S1
    have G : Hid (both a l c false a' l' c' r' = .tuple #[.slice none 0 0, .slice none 0 0, .bool false]) := rfl
    clear S1 S2
    go_enter Try.func51, Try.ntmps51
    go_wp2_with fail
    refine (S1'.out _ (Same.of_below (by repeat (first | with_reducible exact Below.refl _ _ | with_reducible refine Below.drew ?_ | with_reducible refine Below.alloc ?_ (by simp <;> omega) _)))).mono ?_
    rintro e w1 ⟨rfl, hb1⟩
    have hb : Below w.heap.size w w1 := Below.trans (by repeat (first | with_reducible exact Below.refl _ _ | with_reducible refine Below.alloc ?_ (by simp <;> omega) _)) (hb1.mono (by simp <;> omega))
    have B1 := Lib.hid hb
    clear hb1 hb
    go_wp2_with fail
    go_ret3
    exact ⟨by rw [G.out]; rfl, B1.out⟩
  · have S1' : Hid (Says Try.prog (fun _ => False) 50 #[.iface T1 v1] (.tuple #[.slice a l c, .bool true]) w) := S1
    clear S1
    cases r'
    · have S2' : Hid (Says Try.prog (fun _ => False) 50 #[.iface T2 v2] (.tuple #[.slice none 0 0, .bool false]) w) := S2
      have G : Hid (both a l c true a' l' c' false = .tuple #[.slice none 0 0, .slice none 0 0, .bool false]) := rfl
      clear S2
      go_enter Try.func51, Try.ntmps51
      go_wp2_with fail
      refine (S1'.out _ (Same.of_below (by repeat (first | with_reducible exact Below.refl _ _ | with_reducible refine Below.alloc ?_ (by simp <;> omega) _)))).mono ?_
      rintro e w1 ⟨rfl, hb1⟩
      have hb : Below w.heap.size w w1 := Below.trans (by repeat (first | with_reducible exact Below.refl _ _ | with_reducible refine Below.alloc ?_ (by simp <;> omega) _)) (hb1.mono (by simp <;> omega))
      have B1 := Lib.hid hb
      have c0 : w1.cell? ⟨w.heap.size + 1, 0, none⟩ = some (.iface T2 v2) := (hb1.cell (p := ⟨w.heap.size + 1, 0, none⟩) (by simp)).trans (by simp [go_sem])
      clear hb1 hb
      go_wp2_with fail
      refine (S2'.out _ (Same.of_below B1.out)).mono ?_
      rintro e w2 ⟨rfl, hb2⟩
      have B2 := Lib.hid (below2 B1.out hb2)
      clear hb2
      go_wp2_with fail
      go_ret3
      exact ⟨by rw [G.out]; rfl, B2.out⟩
    · have S2' : Hid (Says Try.prog (fun _ => False) 50 #[.iface T2 v2] (.tuple #[.slice a' l' c', .bool true]) w) := S2
      have G : Hid (both a l c true a' l' c' true = .tuple #[.slice a l c, .slice a' l' c', .bool true]) := rfl
      clear S2
      go_enter Try.func51, Try.ntmps51
      go_wp2_with fail
      refine (S1'.out _ (Same.of_below (by repeat (first | with_reducible exact Below.refl _ _ | with_reducible refine Below.alloc ?_ (by simp <;> omega) _)))).mono ?_
      rintro e w1 ⟨rfl, hb1⟩
      have hb : Below w.heap.size w w1 := Below.trans (by repeat (first | with_reducible exact Below.refl _ _ | with_reducible refine Below.alloc ?_ (by simp <;> omega) _)) (hb1.mono (by simp <;> omega))
      have B1 := Lib.hid hb
      have c0 : w1.cell? ⟨w.heap.size + 1, 0, none⟩ = some (.iface T2 v2) := (hb1.cell (p := ⟨w.heap.size + 1, 0, none⟩) (by simp)).trans (by simp [go_sem])
      clear hb1 hb
      go_wp2_with fail
      refine (S2'.out _ (Same.of_below B1.out)).mono ?_
      rintro e w2 ⟨rfl, hb2⟩
      have B2 := Lib.hid (below2 B1.out hb2)
      clear hb2
      go_wp2_with fail
      go_ret3
      exact ⟨by rw [G.out]; rfl, B2.out⟩

theorem both29 (a : Option Addr) (l c : Nat) (r : Bool) (a' : Option Addr) (l' c' : Nat) (r' : Bool) (T1 : Nat) (v1 : Value) (T2 : Nat) (v2 : Value) (w : World)
    (h1 : Says Try.prog (fun _ => False) 50 #[.iface T1 v1] (res a l c r) w) (h2 : Says Try.prog (fun _ => False) 50 #[.iface T2 v2] (res a' l' c' r') w) :
    Calls Try.prog 29 #[.agg #[.iface T1 v1, .int .i32 0], .agg #[.iface T2 v2, .int .i32 0]] w fun e w' => e = .returned (both a l c r a' l' c' r') ∧ Below w.heap.size w w' := by
  have hb : ∀ o1 o2, Below w.heap.size w ((w.alloc o1).alloc o2) := fun o1 o2 => ((Below.refl _ _).alloc (Nat.le_refl _) _).alloc (by simp) _
  have HB := Lib.hid hb
  have H := Lib.hid (fun o1 o2 => both51 a l c r a' l' c' r' T1 v1 T2 v2 ((w.alloc o1).alloc o2) (h1.later (Same.of_below (hb o1 o2))) (h2.later (Same.of_below (hb o1 o2))))
  clear h1 h2 hb
  obtain ⟨x1, x2, x3, y1, y2, y3, b, hf⟩ : ∃ x1 x2 x3 y1 y2 y3 b, both a l c r a' l' c' r' = .tuple #[.slice x1 x2 x3, .slice y1 y2 y3, .bool b] := by
    unfold both
    cases r <;> cases r' <;> exact ⟨_, _, _, _, _, _, _, rfl⟩
  rw [hf] at H ⊢
  clear hf
  go_enter Try.func29, Try.ntmps29
  go_wp2_with fail
  refine (H.out _ _).mono ?_
  rintro e w1 ⟨rfl, hb1⟩
  have B1 := Lib.hid ((HB.out _ _).trans (hb1.mono (by simp <;> omega)))
  clear hb1
  go_wp2_with fail
  go_ret3
  exact ⟨rfl, B1.out⟩

/-- The two slices are the same: nil both or neither, the same elements. -/
theorem same30 (a : Option Addr) (l c : Nat) (z : List Int) (w : World) (h : IntRow .u16 w a l c z) : Calls Try.prog 30 #[.slice a l c, .slice a l c] w fun e w' => e = .returned (.bool true) ∧ ∃ n, w' = w.drewN n := by
  have hnil := fun w => Lib.run_eql_slice_nil (P := Try.prog) w 39 85 a l c 0 0 Try.underlying39
  have hb : (a.isNone != a.isNone) = false := by simp
  have H := Lib.hid h
  clear h
  go_enter Try.func30, Try.ntmps30
  go_wp2_with fail
  refine (eq52 _ _ _ z _ _ _ z _ H.out H.out).mono ?_
  rintro e w' ⟨rfl, nd, rfl⟩
  rw [decide_eq_true rfl]
  go_wp2_with fail
  go_ret
  exact ⟨rfl, _, rfl⟩
end Go.Proofs.Ytfkamkbkpnnokab.fnExtractStringValuesExact
