/- The known primitive type of what zzBuild (n011_35) builds; zzType; Not of an assignment. No conditions beyond their hypotheses. -/
import Derived.Test.YtiejadamfgbidaaBuild27
import Derived.Test.YtiejadamfgbidaaFnAssignStmtValueTypeIsRightSideWalk
namespace Go.Proofs.Ytiejadamfgbidaa.build27
open Go.ChangeShapes Go.WideShapes Go.ChangeAt Go.RowKit Go.Mine
open Go.Proofs.Ytiejadamfgbidaa.fnAssignStmtValueTypeIsRightSide (kp_assign not_assign)
set_option linter.unusedVariables false
set_option maxRecDepth 100000

theorem kp_plain (X : Nat → Prop) (T : Nat) (v : Value) (n : Int) (w : World) (h : (T = 93 ∧ n = 2) ∨ (T = 96 ∧ n = 3) ∨ (T = 48 ∧ n = 4) ∨ (T = 98 ∧ n = 5) ∨ (T = 101 ∧ n = 6) ∨ (T = 33 ∧ n = 7) ∨ ((T = 32 ∨ T = 161 ∨ T = 165 ∨ T = 168 ∨ T = 118 ∨ T = 143) ∧ n = 0)) :
    Says Try.prog X 18 #[.iface T v] (.int .u8 n) w := by
  intro w' hs
  clear hs
  rcases h with ⟨rfl, rfl⟩ | ⟨rfl, rfl⟩ | ⟨rfl, rfl⟩ | ⟨rfl, rfl⟩ | ⟨rfl, rfl⟩ | ⟨rfl, rfl⟩ | ⟨h, rfl⟩
  all_goals try
    (go_enter Try.func18, Try.ntmps18
     go_wp2
     go_ret
     exact ⟨rfl, Below.refl _ _⟩)
  rcases h with rfl | rfl | rfl | rfl | rfl | rfl
  all_goals
    go_enter Try.func18, Try.ntmps18
    go_wp2
    go_ret
    exact ⟨rfl, Below.refl _ _⟩
theorem kp_nil (X : Nat → Prop) (w : World) : Says Try.prog X 18 #[.nilIface] (.int .u8 0) w := by
  intro w' hs
  clear hs
  go_enter Try.func18, Try.ntmps18
  go_wp2
  go_ret
  exact ⟨rfl, Below.refl _ _⟩
theorem kp_un (X : Nat → Prop) (p : Nat) (o n : Int) (w : World) (hx : ¬ X p) (hc : w.cell? ⟨p, 2, none⟩ = some (.int .u8 o)) (h : (o = 5 ∧ n = 6) ∨ (o = 4 ∧ n = 3) ∨ (o = 3 ∧ n = 4)) : Says Try.prog X 18 #[.iface 126 (.pointer (some ⟨p, 0, none⟩))] (.int .u8 n) w := by
  intro w' hs
  have d := hs.cell hx hc
  clear hs hc
  rcases h with ⟨rfl, rfl⟩ | ⟨rfl, rfl⟩ | ⟨rfl, rfl⟩
  all_goals
    go_enter Try.func18, Try.ntmps18
    go_wp2
    go_ret
    exact ⟨rfl, Below.refl _ _⟩
theorem kp_eq (X : Nat → Prop) (p : Nat) (w : World) (hx : ¬ X p) (hc : w.cell? ⟨p, 4, none⟩ = some (.int .u8 28)) : Says Try.prog X 18 #[.iface 130 (.pointer (some ⟨p, 0, none⟩))] (.int .u8 4) w := by
  intro w' hs
  have d := hs.cell hx hc
  clear hs hc
  go_enter Try.func18, Try.ntmps18
  go_wp2
  go_ret
  exact ⟨rfl, Below.refl _ _⟩
theorem kp_wrap (X : Nat → Prop) (T p T2 : Nat) (v : Value) (n : Int) (w : World) (hT : T = 37 ∨ T = 41) (hx : ¬ X p) (hc : w.cell? ⟨p, 0, none⟩ = some (.iface T2 v)) (h : Says Try.prog X 18 #[.iface T2 v] (.int .u8 n) w) : Says Try.prog X 18 #[.iface T (.pointer (some ⟨p, 0, none⟩))] (.int .u8 n) w := by
  intro w' hs
  have d := hs.cell hx hc
  have H := Lib.hid (h w' hs)
  clear hs hc h
  rcases hT with rfl | rfl
  all_goals
    go_enter Try.func18, Try.ntmps18
    go_wp2_with fail
    refine H.out.mono ?_
    rintro e w2 ⟨rfl, hb2⟩
    go_wp2_with fail
    go_ret
    exact ⟨rfl, hb2⟩
theorem kp_node {c : Int} {w : World} {B : Nat} {D : Value} (h : Node c w B D) (X : Nat → Prop) (hX : ∀ k, B ≤ k → k < w.heap.size → ¬ X k) : Says Try.prog X 18 #[D] (.int .u8 (ty c)) w := by
  rcases h with ⟨rfl, rfl⟩ | ⟨T, p, rfl, h1, h2, h⟩
  · exact kp_nil X w
  · have hx := hX p h1 h2
    rcases h with ⟨rfl, rfl⟩ | ⟨rfl, rfl⟩ | ⟨rfl, rfl⟩ | ⟨rfl, rfl⟩ | ⟨rfl, rfl⟩ | ⟨rfl, rfl⟩ | ⟨rfl, rfl, hc⟩ | ⟨rfl, rfl, hc⟩ | ⟨rfl, rfl, hc⟩ | ⟨rfl, rfl, q, hc⟩ | ⟨rfl, rfl, q, hc⟩ | ⟨hT, hc⟩ | ⟨rfl, rfl, q, hc⟩ | ⟨rfl, rfl, q, hc⟩
    · exact kp_plain X _ _ _ w (by decide)
    · exact kp_plain X _ _ _ w (by decide)
    · exact kp_plain X _ _ _ w (by decide)
    · exact kp_plain X _ _ _ w (by decide)
    · exact kp_plain X _ _ _ w (by decide)
    · exact kp_plain X _ _ _ w (by decide)
    · exact kp_un X p 5 _ w hx hc (by decide)
    · exact kp_un X p 4 _ w hx hc (by decide)
    · exact kp_eq X p w hx hc
    · exact kp_wrap X _ p _ _ _ w (by decide) hx hc (kp_plain X _ _ _ w (by decide))
    · exact kp_wrap X _ p _ _ _ w (by decide) hx hc (kp_plain X _ _ _ w (by decide))
    · have e : ty c = 0 := by rcases hc with rfl | rfl | rfl | rfl | rfl | rfl <;> decide
      rw [e]
      exact kp_plain X T _ _ w (.inr (.inr (.inr (.inr (.inr (.inr ⟨hT, rfl⟩))))))
    · exact kp_wrap X _ p _ _ _ w (by decide) hx hc (kp_plain X _ _ _ w (by decide))
    · exact kp_wrap X _ p _ _ _ w (by decide) hx hc (kp_plain X _ _ _ w (by decide))
theorem type29 (a0 : Int) (w : World) (h0 : 0 ≤ a0) : Calls Try.prog 29 #[.int .u8 a0] w fun e w' => e = .returned (.int .u8 (ty (a0 % 20))) ∧ w' = w := by
  have hc : a0 % 20 = 0 ∨ a0 % 20 = 1 ∨ a0 % 20 = 2 ∨ a0 % 20 = 3 ∨ a0 % 20 = 4 ∨ a0 % 20 = 5 ∨ a0 % 20 = 6 ∨ a0 % 20 = 7 ∨ a0 % 20 = 8 ∨ a0 % 20 = 9 ∨ a0 % 20 = 10 ∨ a0 % 20 = 11 ∨ a0 % 20 = 12 ∨ a0 % 20 = 13 ∨ a0 % 20 = 14 ∨ a0 % 20 = 15 ∨ a0 % 20 = 16 ∨ a0 % 20 = 17 ∨ a0 % 20 = 18 ∨ a0 % 20 = 19 := by omega
  rcases hc with h | h | h | h | h | h | h | h | h | h | h | h | h | h | h | h | h | h | h | h
  all_goals
    have H := Lib.hid h
    rw [H.out]
    go_enter Try.func29, Try.ntmps29
    go_wp2
    go_ret
    exact ⟨rfl, rfl⟩
theorem not30 (p : Nat) (l : Int) (w : World) (hp : p < w.heap.size) (c4 : w.cell? ⟨p, 4, none⟩ = some (.int .u8 37)) :
    Calls Try.prog 30 #[.agg #[.iface 130 (.pointer (some ⟨p, 0, none⟩)), .int .i32 l]] w fun e w' => ∃ q, e = .returned (.agg #[.iface 126 (.pointer (some ⟨q, 0, none⟩)), .int .i32 l]) ∧ w'.cell? ⟨q, 2, none⟩ = some (.int .u8 3) ∧ Below w.heap.size w w' := by
  have H := Lib.hid fun o1 o2 => not_assign p l ((w.alloc o1).alloc o2) (by simp; omega) (by simp [go_sem, hp, Nat.lt_succ_of_lt hp, c4])
  clear c4
  go_enter Try.func30, Try.ntmps30
  go_wp2_with fail
  refine (H.out _ _).mono ?_
  rintro e w2 ⟨rfl, hb2⟩
  have a0 : w2.cell? ⟨w.heap.size, 0, none⟩ = some (.iface 130 (.pointer (some ⟨p, 0, none⟩))) := bcell hb2 (by simp [go_sem])
  have a1 : w2.cell? ⟨w.heap.size, 1, none⟩ = some (.int .i32 l) := bcell hb2 (by simp [go_sem])
  have k1 := Blk.below (Blk.new (w.alloc _) _ _) hb2
  rw [World.size_alloc] at k1
  have b0 : w2.cell? ⟨w.heap.size + 1, 0, none⟩ = some .nilIface := k1.cell 0
  have b1 : w2.cell? ⟨w.heap.size + 1, 1, none⟩ = some (.int .i32 0) := k1.cell 1
  have f0 := k1.free 0
  have f1 := k1.free 1
  have hl := k1.lt
  have hl0 := cell_lt a0
  have hl1 : w.heap.size + 1 < w2.heap.size + 1 := Nat.lt_succ_of_lt hl
  have B2 := Lib.hid (below2 (((Below.refl w.heap.size w).alloc (Nat.le_refl _) _).alloc (by simp) _) hb2)
  clear k1 hb2
  go_wp2_with fail
  refine bodyPost_ret (v := .agg #[.iface 126 (.pointer (some ⟨w2.heap.size + 1, 0, none⟩)), .int .i32 l]) (by simp [results, Try.results30, go_sem, b0, b1, hl, hl1]) rfl ⟨_, rfl, by simp [go_sem, size_set], ?_⟩
  go_light
  have h := B2.out
  have hs := h.size
  repeat (first | with_reducible exact h | with_reducible refine Below.alloc ?_ (by simp [size_set] <;> omega) _ | with_reducible refine Below.setCell ?_ (by simp <;> omega) _)
end Go.Proofs.Ytiejadamfgbidaa.build27
