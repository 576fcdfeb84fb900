/- Contracts for the law 'FnExtractStringValueChainSpec'. No conditions beyond their hypotheses. -/
import Derived.Test.YtfkamkbkpnnokabRows
import Derived.Test.YtfkamkbkpnnokabLib
import Derived.Test.YtfkamkbkpnnokabAsserts
import Derived.Test.YtfkamkbkpnnokabClones
import Derived.Test.YtfkamkbkpnnokabExtract
namespace Go.Proofs.Ytfkamkbkpnnokab.fnExtractStringValueChainSpec
open Go.ChangeShapes Go.WideShapes Go.ChangeAt Go.RowKit Go.Mine extract
set_option linter.unusedVariables false
set_option maxRecDepth 100000

def trans (z : List Int) : Bool := z.all fun c => decide (c % 5 ≤ 1)
theorem trans_drop (z : List Int) (k : Nat) (h : k < z.length) : trans (z.drop k) = (decide (z[k] % 5 ≤ 1) && trans (z.drop (k + 1))) := by
  unfold trans; rw [List.drop_eq_getElem_cons h, List.all_cons]

def Rel (a : Option Addr) (l c : Nat) (r0 : Bool) (z : List Int) (b : Option Addr) (w : World) (n pr pe : Nat) (k : Nat) (wr : World) : Prop :=
  ∃ D, (D = .nilIface ∨ ∃ T v, D = .iface T v) ∧ Blk wr pe #[D, .int .i32 0] 28 ∧ Blk wr pr #[.nilIface, .int .i32 0] 28 ∧ Says Try.prog (fun i => i = pe ∨ i = pr) 50 #[D] (res a l c (trans (z.drop k) && r0)) wr ∧ IntRow .u8 wr b n n z ∧ Below w.heap.size w wr

theorem rel_step {a : Option Addr} {l c : Nat} {r0 : Bool} {z : List Int} {b : Option Addr} {w : World} {n pr pe k : Nat} {wr : World} {D : Value} {C : Array Value} {t T' : Nat}
    (hbl : ∀ x, b = some x → x.block ≠ pe) (hpr : pr ≠ pe) (hw : w.heap.size ≤ pe) (h1 : Blk wr pe #[D, .int .i32 0] 28) (h2 : Blk wr pr #[.nilIface, .int .i32 0] 28) (h3 : IntRow .u8 wr b n n z) (h4 : Below w.heap.size w wr)
    (h5 : Says Try.prog (fun i => i = pe ∨ i = pr) 50 #[.iface T' (.pointer (some ⟨wr.heap.size, 0, none⟩))] (res a l c (trans (z.drop k) && r0)) (nxt wr pe C t T')) :
    Rel a l c r0 z b w n pr pe k (nxt wr pe C t T') :=
  ⟨_, .inr ⟨_, _, rfl⟩, nxt_blk _ _ _ h1, h2.same (X := (· = pe)) (nxt_same _ _ _ _ _) hpr, h5, h3.same (X := (· = pe)) (nxt_same _ _ _ _ _) hbl, nxt_below _ _ _ hw h1.lt h4⟩

def ChainPost (a : Option Addr) (l c : Nat) (r : Bool) (w : World) (e : Ending) (w' : World) : Prop :=
  ∃ D, e = .returned (.agg #[D, .int .i32 0]) ∧ (D = .nilIface ∨ ∃ T v, D = .iface T v) ∧ Below w.heap.size w w' ∧ Says Try.prog (fun _ => False) 50 #[D] (res a l c r) w'

set_option maxHeartbeats 4000000 in
theorem chain20 (b : Option Addr) (n : Nat) (z : List Int) (k : Int) (x : Nat) (a : Option Addr) (l c : Nat) (w : World) (hr : IntRow .u8 w b n n z) (hn : n ≤ 65536) (h0 : 0 ≤ k) (hbb : ∀ x, b = some x → x.block < w.heap.size) :
    Calls Try.prog 20 #[.slice b n n, .int .u8 k, .float .f64 x, .slice a l c] w (ChainPost a l c (trans z && k % 6 == 1) w) := by
  have HR := Lib.hid hr
  have HB := Lib.hid hbb
  clear hr hbb
  obtain ⟨r0, hr0⟩ : ∃ r0, r0 = (k % 6 == 1) := ⟨_, rfl⟩
  have L := Lib.hid (fun w => leaf49 k x a l c w h0)
  rw [← hr0] at L
  have goalEq : Hid (ChainPost a l c (trans z && k % 6 == 1) w = ChainPost a l c (trans z && r0) w) := by rw [hr0]; rfl
  rw [goalEq.out]
  clear goalEq hr0
  go_enter Try.func20, Try.ntmps20
  go_wp2_with fail
  refine (L.out _).mono ?_
  rintro e w2 ⟨D, rfl, hD, hb2, hs⟩
  have hlt : w.heap.size < w2.heap.size := by have := hb2.size; simp at this; omega
  have S := Lib.hid (hs (fun i => i = w2.heap.size ∨ i = w.heap.size) (fun k hk => by simp; omega))
  have hbw : Below w.heap.size w w2 := ((Below.refl _ _).alloc (Nat.le_refl _) _).trans (hb2.mono (by simp))
  have R2 := Lib.hid (HR.out.below hbw)
  have P2 := Lib.hid ((Blk.new w #[.nilIface, .int .i32 0] 28).below hb2)
  have B2 := Lib.hid hbw
  have HY : Hid (∀ x, b = some x → x.block ≠ w2.heap.size) := fun x hx => by have := HB.out x hx; omega
  clear hs hb2 hbw
  rcases hD with rfl | ⟨T0, v0, rfl⟩
  all_goals
    go_wp2_with fail
    go_loopw [10] (fun i wr => ∃ k : Nat, k ≤ n ∧ i = .int .i64 ((k : Int) - 1) ∧ Rel a l c r0 z b w n w.heap.size w2.heap.size k wr) (fun i _ => (intOf i + 1).toNat)
    case atStart =>
      have hb3 : ∀ o, Below w2.heap.size w2 (w2.alloc o) := fun o => (Below.refl _ _).alloc (Nat.le_refl _) _
      refine ⟨n, Nat.le_refl _, rfl, _, ?_, Blk.new _ _ _, P2.out.below (hb3 _), ?_, R2.out.below (hb3 _), below2 B2.out (hb3 _)⟩
      · first | exact .inl rfl | exact .inr ⟨_, _, rfl⟩
      · have e : trans (z.drop n) = true := by rw [List.drop_of_length_le (by rw [R2.out.1]; omega)]; rfl
        rw [e, Bool.true_and]
        exact S.out.later (Same.of_below (hb3 _))
    case round =>
      obtain ⟨k, hk, rfl, D, hD, k1, kp, k2, k3, k4⟩ := hrel
      have K1 := Lib.hid k1
      have KP := Lib.hid kp
      have K2 := Lib.hid k2
      have K3 := Lib.hid k3
      have K4 := Lib.hid k4
      have d0 : wr.cell? ⟨w2.heap.size, 0, none⟩ = some D := k1.cell 0
      have d1 : wr.cell? ⟨w2.heap.size, 1, none⟩ = some (.int .i32 0) := k1.cell 1
      have f0 := k1.free 0
      have f1 := k1.free 1
      have e0 : wr.cell? ⟨w.heap.size, 0, none⟩ = some .nilIface := kp.cell 0
      have e1 : wr.cell? ⟨w.heap.size, 1, none⟩ = some (.int .i32 0) := kp.cell 1
      have g0 := kp.free 0
      have g1 := kp.free 1
      have hpe := k1.lt
      clear k1 k2 k3 k4 kp
      cases k with
      | zero =>
        clear hk
        have r0 : (wr.setCell ⟨w.heap.size, 0, none⟩ D).cell? ⟨w.heap.size, 0, none⟩ = some D := (KP.out.set 0 D).cell 0
        have r1 : ((wr.setCell ⟨w.heap.size, 0, none⟩ D).setCell ⟨w.heap.size, 1, none⟩ (.int .i32 0)).cell? ⟨w.heap.size, 1, none⟩ = some (.int .i32 0) := ((KP.out.set 0 D).set 1 (.int .i32 0)).cell 1
        have r2 : ((wr.setCell ⟨w.heap.size, 0, none⟩ D).setCell ⟨w.heap.size, 1, none⟩ (.int .i32 0)).cell? ⟨w.heap.size, 0, none⟩ = some D := ((KP.out.set 0 D).set 1 (.int .i32 0)).cell 0
        rcases hD with rfl | ⟨T2, v2, rfl⟩
        all_goals
          go_wp2_with fail
          refine bodyPost_ret (v := .agg #[_, .int .i32 0]) (by simp [results, Try.results20, go_sem, r0, r1]; try (first | exact ⟨rfl, rfl⟩ | rfl)) rfl ⟨_, rfl, ?_, (K4.out.setCell (Nat.le_refl _) _).setCell (Nat.le_refl _) _, ?_⟩
          · first | exact .inl rfl | exact .inr ⟨_, _, rfl⟩
          · exact (K2.out.later (Same.setCell (p := ⟨w.heap.size, 1, none⟩) (Same.setCell (p := ⟨w.heap.size, 0, none⟩) (Same.refl _ _) (.inr rfl) _) (.inr rfl) _)).weaken (fun _ h => h.elim)
      | succ j =>
        have hj : j < n := by omega
        obtain ⟨bb, oo, eb, hbb, hcb⟩ := K3.out.at hj
        obtain ⟨y, hy⟩ : ∃ y, y = z.getD j 0 := ⟨_, rfl⟩
        rw [← hy] at hcb
        have q : j < z.length := by rw [K3.out.1]; exact hj
        have ey : y = z[j] := by rw [hy]; simp [q]
        have by0 := bounds_u8 (K3.out.2.2.2.1 z[j] (List.getElem_mem q))
        rw [← ey] at by0
        obtain ⟨bx0, bx1⟩ := by0
        have EX := Lib.hid (trans_drop z j q)
        rw [← ey] at EX
        clear hy ey q
        subst eb
        have ei : ((j + 1 : Nat) : Int) - 1 = (j : Int) := by omega
        rw [ei]
        clear ei
        have hc : y % 5 = 0 ∨ y % 5 = 1 ∨ y % 5 = 2 ∨ y % 5 = 3 ∨ y % 5 = 4 := by omega
        rcases hc with h | h | h | h | h
        · have ed : decide (y % 5 ≤ 1) = true := by rw [h]; rfl
          rw [ed, Bool.true_and] at EX
          clear ed
          rcases hD with rfl | ⟨T2, v2, rfl⟩
          all_goals
            go_wp2
            go_light
            refine ⟨⟨j, by omega, rfl, rel_step HY.out (Nat.ne_of_lt hlt) (Nat.le_of_lt hlt) K1.out KP.out K3.out K4.out ?_⟩, (by simp [intOf]; try omega)⟩
            rw [EX.out]
            refine ex_ann ?_ ?_ (K2.out.later (nxt_sameX _ _ _ _ _ (.inl rfl))) ((nxt_node _ _ _ _ _).cell 0)
            · first | exact .inl rfl | exact .inr ⟨_, _, rfl⟩
            · omega
        · have ed : decide (y % 5 ≤ 1) = true := by rw [h]; rfl
          rw [ed, Bool.true_and] at EX
          clear ed
          rcases hD with rfl | ⟨T2, v2, rfl⟩
          all_goals
            go_wp2
            go_light
            refine ⟨⟨j, by omega, rfl, rel_step HY.out (Nat.ne_of_lt hlt) (Nat.le_of_lt hlt) K1.out KP.out K3.out K4.out ?_⟩, (by simp [intOf]; try omega)⟩
            rw [EX.out]
            refine ex_inl ?_ ?_ (K2.out.later (nxt_sameX _ _ _ _ _ (.inl rfl))) ((nxt_node _ _ _ _ _).cell 0)
            · first | exact .inl rfl | exact .inr ⟨_, _, rfl⟩
            · omega
        · have ed : decide (y % 5 ≤ 1) = false := by rw [h]; rfl
          rw [ed, Bool.false_and] at EX
          clear ed
          rcases hD with rfl | ⟨T2, v2, rfl⟩
          all_goals
            go_wp2
            go_light
            refine ⟨⟨j, by omega, rfl, rel_step HY.out (Nat.ne_of_lt hlt) (Nat.le_of_lt hlt) K1.out KP.out K3.out K4.out ?_⟩, (by simp [intOf]; try omega)⟩
            rw [EX.out, Bool.false_and]
            exact ex_other _ _ _ _ _ _ _ (by decide) (by decide) (by decide)
        · have ed : decide (y % 5 ≤ 1) = false := by rw [h]; rfl
          rw [ed, Bool.false_and] at EX
          clear ed
          rcases hD with rfl | ⟨T2, v2, rfl⟩
          all_goals
            go_wp2
            go_light
            refine ⟨⟨j, by omega, rfl, rel_step HY.out (Nat.ne_of_lt hlt) (Nat.le_of_lt hlt) K1.out KP.out K3.out K4.out ?_⟩, (by simp [intOf]; try omega)⟩
            rw [EX.out, Bool.false_and]
            exact ex_other _ _ _ _ _ _ _ (by decide) (by decide) (by decide)
        · have ed : decide (y % 5 ≤ 1) = false := by rw [h]; rfl
          rw [ed, Bool.false_and] at EX
          clear ed
          rcases hD with rfl | ⟨T2, v2, rfl⟩
          all_goals
            go_wp2
            go_light
            refine ⟨⟨j, by omega, rfl, rel_step HY.out (Nat.ne_of_lt hlt) (Nat.le_of_lt hlt) K1.out KP.out K3.out K4.out ?_⟩, (by simp [intOf]; try omega)⟩
            rw [EX.out, Bool.false_and]
            exact ex_other _ _ _ _ _ _ _ (by decide) (by decide) (by decide)

theorem trans_take (z : List Int) (k : Nat) (h : k < z.length) : trans (z.take (k + 1)) = (trans (z.take k) && decide (z[k] % 5 ≤ 1)) := by
  unfold trans; rw [List.take_succ_eq_append_getElem h, List.all_append]; simp
theorem trans_no (z : List Int) (k : Nat) (h : k < z.length) (hc : 1 < z[k] % 5) : trans z = false := by
  rw [Bool.eq_false_iff]
  intro ht
  unfold trans at ht
  rw [List.all_eq_true] at ht
  have := ht z[k] (List.getElem_mem h)
  simp at this
  omega
theorem trans_any (b : Option Addr) (n : Nat) (z : List Int) (w : World) (hr : IntRow .u8 w b n n z) (hn : n ≤ 65536) : Calls Try.prog 22 #[.slice b n n] w fun e w' => e = .returned (.bool (trans z)) ∧ w = w' := by
  have HR := Lib.hid hr
  clear hr
  go_enter Try.func22, Try.ntmps22
  go_wp2
  go_loop [3] (fun i => ∃ k : Nat, k ≤ n ∧ i = .int .i64 k ∧ Hid (trans (z.take k) = true)) (fun i => n - (intOf i).toNat)
  case atStart => exact ⟨0, Nat.zero_le _, rfl, rfl⟩
  case round =>
    obtain ⟨k, hk, rfl, ht⟩ := hrel
    by_cases hlt : k < n
    · obtain ⟨bb, oo, eb, hbb, hcb⟩ := HR.out.at hlt
      obtain ⟨y, hy⟩ : ∃ y, y = z.getD k 0 := ⟨_, rfl⟩
      rw [← hy] at hcb
      have q : k < z.length := by rw [HR.out.1]; exact hlt
      have ey : y = z[k] := by rw [hy]; simp [q]
      have by0 := bounds_u8 (HR.out.2.2.2.1 z[k] (List.getElem_mem q))
      rw [← ey] at by0
      obtain ⟨bx0, bx1⟩ := by0
      subst eb
      have EQ : Hid (∃ q : k < z.length, y = z[k]) := ⟨q, ey⟩
      clear hy ey q
      by_cases hc : 1 < y % 5
      · go_wp2
        go_ret
        obtain ⟨q, ey⟩ := EQ.out
        exact ⟨ret_bool2 (trans_no z k q (by rw [← ey]; exact hc)).symm, rfl⟩
      · go_wp2
        go_round
        case rel =>
          obtain ⟨q, ey⟩ := EQ.out
          refine ⟨k + 1, by omega, by go_num, ?_⟩
          show trans (z.take (k + 1)) = true
          rw [trans_take z k q, ht.out, ← ey]
          simp
          omega
        case measure => simp [intOf]; omega
    · have e : k = n := by omega
      subst e
      go_wp2
      go_ret
      have h := ht.out
      rw [List.take_of_length_le (by rw [HR.out.1]; omega)] at h
      exact ⟨ret_bool2 h.symm, rfl⟩
end Go.Proofs.Ytfkamkbkpnnokab.fnExtractStringValueChainSpec
