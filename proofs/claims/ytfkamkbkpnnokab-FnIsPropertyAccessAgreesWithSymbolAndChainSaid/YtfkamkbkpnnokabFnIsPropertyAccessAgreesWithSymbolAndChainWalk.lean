/- The walk of the law 'FnIsPropertyAccessAgreesWithSymbolAndChain': it returns true and leaves what was there as it was. No conditions. -/
import Derived.Test.YtfkamkbkpnnokabRows
import Derived.Test.YtfkamkbkpnnokabLib
import Derived.Test.YtfkamkbkpnnokabAsserts
import Derived.Test.YtfkamkbkpnnokabBuild35
namespace Go.Proofs.Ytfkamkbkpnnokab.fnIsPropertyAccessAgreesWithSymbolAndChain
open Go.ChangeShapes Go.WideShapes Go.ChangeAt Go.RowKit Go.Mine build35
set_option linter.unusedVariables false
set_option maxRecDepth 100000

/-- What an expression's node is, as the three questions see it: which kind, its chain byte and its symbol flag. -/
def isP : Value → Bool
  | .iface T _ => T == 97 || T == 101
  | _ => false

theorem pa_yes (T : Nat) (v : Value) (l : Int) (w : World) (h : T = 97 ∨ T = 101) : Calls Try.prog 10 #[.agg #[.iface T v, .int .i32 l]] w fun e w' => e = .returned (.bool true) ∧ Below w.heap.size w w' := by
  rcases h with rfl | rfl
  all_goals
    go_enter Try.func10, Try.ntmps10
    go_wp2
    go_ret
    exact ⟨rfl, (Below.refl _ _).alloc (Nat.le_refl _) _⟩
theorem pa_no (T : Nat) (v : Value) (l : Int) (w : World) (h1 : T ≠ 97) (h2 : T ≠ 101) : Calls Try.prog 10 #[.agg #[.iface T v, .int .i32 l]] w fun e w' => e = .returned (.bool false) ∧ Below w.heap.size w w' := by
  go_enter Try.func10, Try.ntmps10
  go_wp2
  go_ret
  exact ⟨rfl, (Below.refl _ _).alloc (Nat.le_refl _) _⟩
theorem pa_nil (l : Int) (w : World) : Calls Try.prog 10 #[.agg #[.nilIface, .int .i32 l]] w fun e w' => e = .returned (.bool false) ∧ Below w.heap.size w w' := by
  go_enter Try.func10, Try.ntmps10
  go_wp2
  go_ret
  exact ⟨rfl, (Below.refl _ _).alloc (Nat.le_refl _) _⟩
theorem si_dot (p : Nat) (s : Bool) (w : World) (h : w.cell? ⟨p, 7, none⟩ = some (.bool s)) : Calls Try.prog 11 #[.iface 97 (.pointer (some ⟨p, 0, none⟩))] w fun e w' => (∃ b, e = .returned (.bool b)) ∧ w = w' := by
  go_enter Try.func11, Try.ntmps11
  go_wp2
  go_ret
  exact ⟨⟨_, rfl⟩, rfl⟩
theorem si_index (p : Nat) (s : Bool) (w : World) (h : w.cell? ⟨p, 8, none⟩ = some (.bool s)) : Calls Try.prog 11 #[.iface 101 (.pointer (some ⟨p, 0, none⟩))] w fun e w' => (∃ b, e = .returned (.bool b)) ∧ w = w' := by
  go_enter Try.func11, Try.ntmps11
  go_wp2
  go_ret
  exact ⟨⟨_, rfl⟩, rfl⟩
theorem si_no (T : Nat) (v : Value) (w : World) (h1 : T ≠ 97) (h2 : T ≠ 101) : Calls Try.prog 11 #[.iface T v] w fun e w' => e = .returned (.bool false) ∧ w = w' := by
  go_enter Try.func11, Try.ntmps11
  go_wp2
  go_ret
  exact ⟨rfl, rfl⟩
theorem si_nil (w : World) : Calls Try.prog 11 #[.nilIface] w fun e w' => e = .returned (.bool false) ∧ w = w' := by
  go_enter Try.func11, Try.ntmps11
  go_wp2
  go_ret
  exact ⟨rfl, rfl⟩
theorem oc_dot (p : Nat) (c l : Int) (w : World) (h : w.cell? ⟨p, 4, none⟩ = some (.int .u8 c)) (hp : p < w.heap.size) : Calls Try.prog 12 #[.agg #[.iface 97 (.pointer (some ⟨p, 0, none⟩)), .int .i32 l]] w fun e w' => (∃ b, e = .returned (.bool b)) ∧ Below w.heap.size w w' := by
  go_enter Try.func12, Try.ntmps12
  go_wp2
  go_ret
  exact ⟨⟨_, rfl⟩, (Below.refl _ _).alloc (Nat.le_refl _) _⟩
theorem oc_index (p : Nat) (c l : Int) (w : World) (h : w.cell? ⟨p, 5, none⟩ = some (.int .u8 c)) (hp : p < w.heap.size) : Calls Try.prog 12 #[.agg #[.iface 101 (.pointer (some ⟨p, 0, none⟩)), .int .i32 l]] w fun e w' => (∃ b, e = .returned (.bool b)) ∧ Below w.heap.size w w' := by
  go_enter Try.func12, Try.ntmps12
  go_wp2
  go_ret
  exact ⟨⟨_, rfl⟩, (Below.refl _ _).alloc (Nat.le_refl _) _⟩
theorem oc_call (p : Nat) (c l : Int) (w : World) (h : w.cell? ⟨p, 4, none⟩ = some (.int .u8 c)) (hp : p < w.heap.size) : Calls Try.prog 12 #[.agg #[.iface 104 (.pointer (some ⟨p, 0, none⟩)), .int .i32 l]] w fun e w' => (∃ b, e = .returned (.bool b)) ∧ Below w.heap.size w w' := by
  go_enter Try.func12, Try.ntmps12
  go_wp2
  go_ret
  exact ⟨⟨_, rfl⟩, (Below.refl _ _).alloc (Nat.le_refl _) _⟩
theorem oc_no (T : Nat) (v : Value) (l : Int) (w : World) (h1 : T ≠ 97) (h2 : T ≠ 101) (h3 : T ≠ 104) : Calls Try.prog 12 #[.agg #[.iface T v, .int .i32 l]] w fun e w' => e = .returned (.bool false) ∧ Below w.heap.size w w' := by
  go_enter Try.func12, Try.ntmps12
  go_wp2
  go_ret
  exact ⟨rfl, (Below.refl _ _).alloc (Nat.le_refl _) _⟩
theorem oc_nil (l : Int) (w : World) : Calls Try.prog 12 #[.agg #[.nilIface, .int .i32 l]] w fun e w' => e = .returned (.bool false) ∧ Below w.heap.size w w' := by
  go_enter Try.func12, Try.ntmps12
  go_wp2
  go_ret
  exact ⟨rfl, (Below.refl _ _).alloc (Nat.le_refl _) _⟩

/-- The three answers agree: what the law needs of a built node. -/
def Q (c : Int) (w : World) (D : Value) : Prop :=
  ∃ pa : Bool, (pa = decide (c = 7 ∨ c = 8)) ∧
    (∀ l w', Below w.heap.size w w' → Calls Try.prog 10 #[.agg #[D, .int .i32 l]] w' fun e w'' => e = .returned (.bool pa) ∧ Below w'.heap.size w' w'') ∧
    (∀ w', Below w.heap.size w w' → Calls Try.prog 11 #[D] w' fun e w'' => (∃ b, e = .returned (.bool b) ∧ (b = true → pa = true)) ∧ w' = w'') ∧
    (∀ l w', Below w.heap.size w w' → Calls Try.prog 12 #[.agg #[D, .int .i32 l]] w' fun e w'' => (∃ b, e = .returned (.bool b) ∧ (b = true → pa = true ∨ c = 9)) ∧ Below w'.heap.size w' w'')

theorem q_of (ch : Int) (sym : Bool) (c : Int) (w : World) (D : Value) (h : Kinds ch sym c w D) : Q c w D := by
  rcases h with ⟨rfl, p, rfl, h1, h2⟩ | ⟨rfl, p, rfl, h1, h2⟩ | ⟨rfl, p, rfl, h1⟩ | ⟨n1, n2, n3, h⟩
  · have hp : p < w.heap.size := cell_lt h1
    refine ⟨true, by decide, fun l w' hb => pa_yes _ _ _ _ (.inl rfl), fun w' hb => ?_, fun l w' hb => ?_⟩
    · refine (si_dot p sym w' ?_).mono fun e w'' ⟨⟨b, he⟩, hw⟩ => ⟨⟨b, he, fun _ => rfl⟩, hw⟩
      rw [hb.cell (p := ⟨p, 7, none⟩) hp, h2]
    · refine (oc_dot p ch l w' ?_ (Nat.lt_of_lt_of_le hp hb.size)).mono fun e w'' ⟨⟨b, he⟩, hw⟩ => ⟨⟨b, he, fun _ => .inl rfl⟩, hw⟩
      rw [hb.cell (p := ⟨p, 4, none⟩) hp, h1]
  · have hp : p < w.heap.size := cell_lt h1
    refine ⟨true, by decide, fun l w' hb => pa_yes _ _ _ _ (.inr rfl), fun w' hb => ?_, fun l w' hb => ?_⟩
    · refine (si_index p sym w' ?_).mono fun e w'' ⟨⟨b, he⟩, hw⟩ => ⟨⟨b, he, fun _ => rfl⟩, hw⟩
      rw [hb.cell (p := ⟨p, 8, none⟩) hp, h2]
    · refine (oc_index p ch l w' ?_ (Nat.lt_of_lt_of_le hp hb.size)).mono fun e w'' ⟨⟨b, he⟩, hw⟩ => ⟨⟨b, he, fun _ => .inl rfl⟩, hw⟩
      rw [hb.cell (p := ⟨p, 5, none⟩) hp, h1]
  · have hp : p < w.heap.size := cell_lt h1
    refine ⟨false, by decide, fun l w' hb => pa_no _ _ _ _ (by decide) (by decide), fun w' hb => (si_no _ _ _ (by decide) (by decide)).mono fun e w'' ⟨he, hw⟩ => ⟨⟨false, he, fun h => by cases h⟩, hw⟩, fun l w' hb => ?_⟩
    · refine (oc_call p ch l w' ?_ (Nat.lt_of_lt_of_le hp hb.size)).mono fun e w'' ⟨⟨b, he⟩, hw⟩ => ⟨⟨b, he, fun _ => .inr rfl⟩, hw⟩
      rw [hb.cell (p := ⟨p, 4, none⟩) hp, h1]
  · rcases h with rfl | ⟨T, v, rfl, t1, t2, t3⟩
    · exact ⟨false, by simp [n1, n2], fun l w' hb => pa_nil _ _, fun w' hb => (si_nil _).mono fun e w'' ⟨he, hw⟩ => ⟨⟨false, he, fun h => by cases h⟩, hw⟩, fun l w' hb => (oc_nil _ _).mono fun e w'' ⟨he, hw⟩ => ⟨⟨false, he, fun h => by cases h⟩, hw⟩⟩
    · exact ⟨false, by simp [n1, n2], fun l w' hb => pa_no _ _ _ _ t1 t2, fun w' hb => (si_no _ _ _ t1 t2).mono fun e w'' ⟨he, hw⟩ => ⟨⟨false, he, fun h => by cases h⟩, hw⟩, fun l w' hb => (oc_no _ _ _ _ t1 t2 t3).mono fun e w'' ⟨he, hw⟩ => ⟨⟨false, he, fun h => by cases h⟩, hw⟩⟩

theorem shape_of {ch : Int} {sym : Bool} {c : Int} {w : World} {D : Value} (h : Kinds ch sym c w D) : D = .nilIface ∨ ∃ T v, D = .iface T v := by
  rcases h with ⟨_, p, rfl, _⟩ | ⟨_, p, rfl, _⟩ | ⟨_, p, rfl, _⟩ | ⟨_, _, _, h⟩
  · exact .inr ⟨_, _, rfl⟩
  · exact .inr ⟨_, _, rfl⟩
  · exact .inr ⟨_, _, rfl⟩
  · rcases h with rfl | ⟨T, v, rfl, _⟩
    · exact .inl rfl
    · exact .inr ⟨_, _, rfl⟩

theorem chain4 {w w1 w2 w4 w5 : World} (h1 : Below w.heap.size w w1) (h2 : Below w1.heap.size w1 w2) (h4 : Below w2.heap.size w2 w4) (h5 : Below w4.heap.size w4 w5) : Below w.heap.size w w5 :=
  ((h1.trans (h2.mono h1.size)).trans (h4.mono (Nat.le_trans h1.size h2.size))).trans (h5.mono (Nat.le_trans h1.size (Nat.le_trans h2.size h4.size)))

theorem walk (a0 : Int) (a1 : Int) (a2 : Bool) (a3 : Nat) (a4 : Int) (w : World) (w0 : (Lit.int .u8 a0).wf = true) (w1 : (Lit.int .u8 a1).wf = true) (w3 : (Lit.float .f64 a3).wf = true) (w4 : (Lit.int .i32 a4).wf = true) :
    Calls Try.prog 3 #[.int .u8 a0, .int .u8 a1, .bool a2, .float .f64 a3, .int .i32 a4] w fun e w' => e = .returned (.bool true) ∧ Below w.heap.size w w' := by
  have hb0 := bounds_u8 w0
  obtain ⟨b0, b1⟩ := hb0
  go_enter Try.func3, Try.ntmps3
  go_wp2_with fail
  refine (build_any _ _ _ _ _ _ b0).mono ?_
  rintro e w1 ⟨D, rfl, hb1, hk⟩
  obtain ⟨pa, hpa, q1, q2, q3⟩ := q_of _ _ _ _ _ hk
  have Hpa := Lib.hid hpa
  have Q1 := Lib.hid q1
  have Q2 := Lib.hid q2
  have Q3 := Lib.hid q3
  have B1 := Lib.hid hb1
  have sh := shape_of hk
  clear hb1 hk hpa q1 q2 q3
  rcases sh with rfl | ⟨T, v, rfl⟩
  all_goals
    go_wp2_with fail
    refine (build_any _ _ _ _ _ _ b0).mono ?_
    rintro e w2 ⟨D2, rfl, hb2, hk2⟩
    obtain ⟨pa2, hpa2, r1, y1, y2⟩ := q_of _ _ _ _ _ hk2
    clear y1 y2
    obtain rfl : pa = pa2 := Hpa.out.trans hpa2.symm
    have sh := shape_of hk2
    have c0 := (hb2.cell (p := ⟨w1.heap.size, 0, none⟩) (by simp)).trans (by simp; rfl)
    have c1 := (hb2.cell (p := ⟨w1.heap.size, 1, none⟩) (by simp)).trans (by simp; rfl)
    have hlt : w1.heap.size < w2.heap.size := by have := hb2.size; simp at this; omega
    have B2 := Lib.hid (((Below.refl _ _).alloc (Nat.le_refl _) _).trans (hb2.mono (by simp)))
    have R1 := Lib.hid r1
    clear hb2 hk2 hpa2 r1
    rcases sh with rfl | ⟨T2, v2, rfl⟩
    all_goals
      go_wp2_with fail
      refine (Q1.out _ _ (B2.out.alloc (Nat.le_of_lt hlt) _)).mono ?_
      rintro e w3 ⟨rfl, hb3⟩
      have d0 := (hb3.cell (p := ⟨w1.heap.size, 0, none⟩) (by simp; omega)).trans (by simp [go_sem, hlt, c0]; rfl)
      have d1 := (hb3.cell (p := ⟨w1.heap.size, 1, none⟩) (by simp; omega)).trans (by simp [go_sem, hlt, c1]; rfl)
      have f0 := (hb3.cell (p := ⟨w2.heap.size, 0, none⟩) (by simp)).trans (by simp; rfl)
      have f1 := (hb3.cell (p := ⟨w2.heap.size, 1, none⟩) (by simp)).trans (by simp; rfl)
      have hlt3 : w2.heap.size < w3.heap.size := by have := hb3.size; simp at this; omega
      have B3 := Lib.hid (((Below.refl _ _).alloc (Nat.le_refl _) _).trans (hb3.mono (by simp)))
      clear hb3 c0 c1
      go_wp2_with fail
      refine (Q2.out _ (B2.out.trans (B3.out.mono (Nat.le_of_lt hlt)))).mono ?_
      rintro e w' ⟨⟨b, rfl, hbp⟩, rfl⟩
      have hneg : (b && !pa) = false := by cases b <;> simp at hbp ⊢; exact hbp
      clear hbp
      cases b <;> cases pa <;> first | (simp at hneg; done) | skip
      all_goals
        clear hneg
        go_wp2_with fail
        refine (Q3.out _ _ (B2.out.trans (B3.out.mono (Nat.le_of_lt hlt)))).mono ?_
        rintro e w4 ⟨⟨b, rfl, hbp⟩, hb4⟩
        have g0 := (hb4.cell (p := ⟨w2.heap.size, 0, none⟩) hlt3).trans f0
        have g1 := (hb4.cell (p := ⟨w2.heap.size, 1, none⟩) hlt3).trans f1
        have B4 := Lib.hid (B3.out.trans (hb4.mono (Nat.le_of_lt hlt3)))
        clear hb4 f0 f1 d0 d1
        cases b
        · (go_wp2_with fail
           refine (R1.out _ _ B4.out).mono ?_
           rintro e w5 ⟨rfl, hb5⟩
           go_wp2_with fail
           go_ret
           exact ⟨rfl, chain4 B1.out B2.out B4.out hb5⟩)
        · rcases hbp rfl with hx | hx
          · first
            | exact absurd hx (by decide)
            | (clear hx hbp
               go_wp2_with fail
               refine (R1.out _ _ B4.out).mono ?_
               rintro e w5 ⟨rfl, hb5⟩
               go_wp2_with fail
               go_ret
               exact ⟨rfl, chain4 B1.out B2.out B4.out hb5⟩)
          · have h9 : (a0 % 20 != 9) = false := by simp [hx]
            clear hx hbp
            (go_wp2_with fail
             refine (R1.out _ _ B4.out).mono ?_
             rintro e w5 ⟨rfl, hb5⟩
             go_wp2_with fail
             go_ret
             exact ⟨rfl, chain4 B1.out B2.out B4.out hb5⟩)
end Go.Proofs.Ytfkamkbkpnnokab.fnIsPropertyAccessAgreesWithSymbolAndChain
