/- The walk of the law 'FnAssignStmtValueTypeIsRightSide': it returns true and leaves what was there as it was. No conditions. -/
import Derived.Test.YtiejadamfgbidaaRows
import Derived.Test.YtiejadamfgbidaaLib
import Derived.Test.YtiejadamfgbidaaAsserts
import Derived.Test.YtiejadamfgbidaaClones
import Derived.Test.YtiejadamfgbidaaLeafA
import Derived.Deep.RegionHeld3
namespace Go.Proofs.Ytiejadamfgbidaa.fnAssignStmtValueTypeIsRightSide
open Go.ChangeShapes Go.WideShapes Go.ChangeAt Go.RowKit Go.Mine leaf46
set_option linter.unusedVariables false
set_option maxRecDepth 100000

set_option maxHeartbeats 2000000 in
theorem kp_leaf {k : Int} {b : Bool} {x : Nat} {sv : Value} {big : ByteArray} {w : World} {p T : Nat} (X : Nat → Prop) (h : Cases k b x sv big w p T) : Says Try.prog X 18 #[.iface T (.pointer (some ⟨p, 0, none⟩))] (.int .u8 (prim k)) w := by
  intro w' hs
  rcases h with ⟨rfl, rfl⟩ | ⟨rfl, rfl⟩ | ⟨rfl, rfl, _⟩ | ⟨rfl, rfl, _⟩ | ⟨rfl, rfl, _⟩ | ⟨rfl, rfl, _⟩ | ⟨rfl, rfl⟩ | ⟨rfl, rfl⟩ | ⟨rfl, rfl⟩ | ⟨rfl, rfl⟩ | ⟨rfl, rfl⟩
  all_goals
    clear hs
    go_enter Try.func18, Try.ntmps18
    go_wp2
    go_ret
    exact ⟨rfl, Below.refl _ _⟩

theorem prim_any (a0 : Int) (w : World) (h0 : 0 ≤ a0) : Calls Try.prog 19 #[.int .u8 a0] w fun e w' => e = .returned (.int .u8 (prim (a0 % 11))) ∧ w = w' := by
  have hc : a0 % 11 = 0 ∨ a0 % 11 = 1 ∨ a0 % 11 = 2 ∨ a0 % 11 = 3 ∨ a0 % 11 = 4 ∨ a0 % 11 = 5 ∨ (6 ≤ a0 % 11 ∧ a0 % 11 ≤ 10) := by omega
  rcases hc with h | h | h | h | h | h | h
  all_goals try
    (have H := Lib.hid h
     go_enter Try.func19, Try.ntmps19
     go_wp2
     go_ret
     exact ⟨by rw [H.out]; rfl, rfl⟩)
  have H : Hid (prim (a0 % 11) = 0) := by
    show prim (a0 % 11) = 0
    unfold prim
    rw [if_neg (by omega), if_neg (by omega), if_neg (by omega), if_neg (by omega), if_neg (by omega), if_neg (by omega)]
  go_enter Try.func19, Try.ntmps19
  go_wp2
  go_ret
  exact ⟨by rw [H.out]; rfl, rfl⟩

theorem kp_assign {X : Nat → Prop} {T : Nat} {v : Value} {n : Int} {w : World} {p : Nat} (hx : ¬ X p) (h : Says Try.prog X 18 #[.iface T v] (.int .u8 n) w) (c0 : w.cell? ⟨p, 2, none⟩ = some (.iface T v)) (c4 : w.cell? ⟨p, 4, none⟩ = some (.int .u8 37)) :
    Says Try.prog X 18 #[.iface 130 (.pointer (some ⟨p, 0, none⟩))] (.int .u8 n) w := by
  intro w' hb
  have d0 := hb.cell hx c0
  have d4 := hb.cell hx c4
  have H := Lib.hid (h w' hb)
  clear h c0 c4
  go_enter Try.func18, Try.ntmps18
  go_wp2_with fail
  refine H.out.mono ?_
  rintro e w2 ⟨rfl, hb2⟩
  go_wp2_with fail
  go_ret
  exact ⟨rfl, hb2⟩

theorem not_assign (p : Nat) (l : Int) (w : World) (hp : p < w.heap.size) (c4 : w.cell? ⟨p, 4, none⟩ = some (.int .u8 37)) :
    Calls Try.prog 12 #[.agg #[.iface 130 (.pointer (some ⟨p, 0, none⟩)), .int .i32 l]] w fun e w' => e = .returned (.tuple #[.agg #[.nilIface, .int .i32 0], .bool false]) ∧ Below w.heap.size w w' := by
  go_enter Try.func12, Try.ntmps12
  go_wp2_with fail
  refine bodyPost_ret (v := .tuple #[.agg #[.nilIface, .int .i32 0], .bool false]) (by simp [results, Try.results12, go_sem]) rfl ⟨rfl, ?_⟩
  go_light
  repeat (first | with_reducible exact Below.refl _ _ | with_reducible refine Below.drew ?_ | with_reducible refine Below.alloc ?_ (by simp <;> omega) _ | with_reducible refine Below.setCell ?_ (by simp <;> omega) _)

def bin (T1 : Nat) (v1 : Value) (l1 : Int) (T2 : Nat) (v2 : Value) (l2 : Int) : Obj := .cells #[.iface T1 v1, .int .i32 l1, .iface T2 v2, .int .i32 l2, .int .u8 37, .bool false] 132
def AssignPost (T1 : Nat) (v1 : Value) (l1 : Int) (T2 : Nat) (v2 : Value) (l2 : Int) (w : World) (e : Ending) (w' : World) : Prop :=
  e = .returned (.agg #[.iface 130 (.pointer (some ⟨w.heap.size + 3, 0, none⟩)), .int .i32 l1]) ∧ ∃ o1 o2 o3, w' = (((w.alloc o1).alloc o2).alloc o3).alloc (bin T1 v1 l1 T2 v2 l2)
theorem assign_any (T1 : Nat) (v1 : Value) (l1 : Int) (T2 : Nat) (v2 : Value) (l2 : Int) (w : World) : Calls Try.prog 28 #[.agg #[.iface T1 v1, .int .i32 l1], .agg #[.iface T2 v2, .int .i32 l2]] w (AssignPost T1 v1 l1 T2 v2 l2 w) := by
  go_enter Try.func28, Try.ntmps28
  go_wp2_with fail
  exact bodyPost_ret (v := .agg #[.iface 130 (.pointer (some ⟨w.heap.size + 3, 0, none⟩)), .int .i32 l1]) (by simp [results, Try.results28, go_sem]) rfl ⟨rfl, _, _, _, rfl⟩
def StmtPost (D : Value) (l : Int) (w : World) (e : Ending) (w' : World) : Prop :=
  ∃ p q, e = .returned (.agg #[.iface 63 (.pointer (some ⟨q, 0, none⟩)), .int .i32 l]) ∧ Below w.heap.size w w' ∧ w'.cell? ⟨p, 2, none⟩ = some D ∧ w'.cell? ⟨p, 4, none⟩ = some (.int .u8 37) ∧ w'.cell? ⟨q, 0, none⟩ = some (.iface 130 (.pointer (some ⟨p, 0, none⟩))) ∧ w'.cell? ⟨q, 1, none⟩ = some (.int .i32 l)
theorem stmt_any (T1 : Nat) (v1 : Value) (l1 : Int) (T2 : Nat) (v2 : Value) (l2 : Int) (w : World) : Calls Try.prog 16 #[.agg #[.iface T1 v1, .int .i32 l1], .agg #[.iface T2 v2, .int .i32 l2]] w (StmtPost (.iface T2 v2) l1 w) := by
  go_enter Try.func16, Try.ntmps16
  go_wp2_with fail
  go_region_held3 (fun w' => w'.cell? ⟨w.heap.size, 0, none⟩ = some (.iface T1 v1) ∧ w'.cell? ⟨w.heap.size, 1, none⟩ = some (.int .i32 l1) ∧ w'.cell? ⟨w.heap.size + 1, 0, none⟩ = some (.iface T2 v2) ∧ w'.cell? ⟨w.heap.size + 1, 1, none⟩ = some (.int .i32 l2)) ((first | (simp [go_sem]; done) | (go_keep; done)))
    (first | (go_at_call 28; refine (assign_any _ _ _ _ _ _ _).mono ?_; rintro e w' ⟨rfl, o1, o2, o3, rfl⟩))
  all_goals
    go_wp2
    refine bodyPost_ret (v := .agg #[.iface 63 (.pointer (some ⟨_, 0, none⟩)), .int .i32 l1]) (by simp [results, Try.results16, go_sem]; rfl) rfl ⟨w.heap.size + 1 + 1 + 1 + 3, _, rfl, ?_, by simp [bin, go_sem], by simp [bin, go_sem], by simp [go_sem], by simp [go_sem]⟩
    go_light
    repeat (first | with_reducible exact Below.refl _ _ | with_reducible refine Below.drew ?_ | with_reducible refine Below.alloc ?_ (by simp <;> omega) _ | with_reducible refine Below.setCell ?_ (by simp <;> omega) _)
theorem bytes_any (a0 : Int) (a1 : Bool) (a2 : Nat) (a : Option Addr) (l c : Nat) (s : ByteArray) (a5 a6 : Int) (w : World) (hs : s.size ≤ maxLen) (hl : l ≤ maxLen) :
    Calls Try.prog 15 #[.int .u8 a0, .bool a1, .float .f64 a2, .slice a l c, .string s, .int .i32 a5, .int .i32 a6] w fun e w' => (∃ r : Bool, e = .returned (.bool r) ∧ (r = true → l + s.size ≤ 1048576)) ∧ w = w' := by
  unfold maxLen at hs hl
  go_enter Try.func15, Try.ntmps15
  go_wp2
  all_goals
    go_ret
    exact ⟨⟨_, rfl, by simp; try omega⟩, rfl⟩

theorem walk (a0 : Int) (a1 : Bool) (a2 : Nat) (a3 : Option Addr) (len3 cap3 : Nat) (z3 : List Int) (a4 : ByteArray) (a5 : Int) (a6 : Int) (w : World) (w0 : (Lit.int .u8 a0).wf = true) (w2 : (Lit.float .f64 a2).wf = true) (w3 : IntRow .u16 w a3 len3 cap3 z3) (w4 : a4.size ≤ maxLen) (w5 : (Lit.int .i32 a5).wf = true) (w6 : (Lit.int .i32 a6).wf = true) :
    Calls Try.prog 4 #[.int .u8 a0, .bool a1, .float .f64 a2, .slice a3 len3 cap3, .string a4, .int .i32 a5, .int .i32 a6] w fun e w' => e = .returned (.bool true) ∧ Below w.heap.size w w' := by
  obtain ⟨b0, b1⟩ := bounds_u8 w0
  have hl : len3 ≤ maxLen := Nat.le_trans w3.2.1 w3.2.2.1
  have m0 := hl
  have m1 := w4
  unfold maxLen at m0 m1
  have H3 := Lib.hid w3
  clear w0 w2 w3 w5 w6
  go_enter Try.func4, Try.ntmps4
  go_wp2_with fail
  refine (bytes_any _ _ _ _ _ _ _ _ _ _ w4 hl).mono ?_
  rintro e w' ⟨⟨r, rfl, hr⟩, rfl⟩
  cases r with
  | false =>
    clear hr
    go_wp2_with fail
    go_ret
    exact ⟨rfl, Below.refl _ _⟩
  | true =>
    have hr1 := hr rfl
    clear hr
    go_wp2_with fail
    all_goals try (go_ret; exact ⟨rfl, Below.refl _ _⟩)
    refine (clone10 _ _ _ z3 _ H3.out (by omega)).mono ?_
    rintro e w1 ⟨sb, rfl, r0, y1, y2, hb1⟩
    have B1 := Lib.hid hb1
    clear r0 y1 y2 hb1
    go_wp2_with fail
    refine (mk_any _ _ _ _ _ _ _ _ _ b0).mono ?_
    rintro e w2 ⟨T, p, q1, q2, q3, rfl, hb2, hp, hc⟩
    have K := Lib.hid (kp_leaf (fun _ => False) hc)
    have B2 := Lib.hid (below2 B1.out ((((Below.refl _ _).alloc (Nat.le_refl _) _)).trans (hb2.mono (by simp))))
    have hlt : w1.heap.size < w2.heap.size := by have := hb2.size; simp at this; omega
    clear hb2 hc
    go_wp2_with fail
    refine (stmt_any _ _ _ _ _ _ _).mono ?_
    rintro e w3 ⟨p2, q, rfl, hb3, c2, c4, s0, s1⟩
    have K3 := Lib.hid (kp_assign (X := fun _ => False) (fun h => h) (K.out.later (Same.of_below (((Below.refl _ _).alloc (Nat.le_refl _) _).trans (hb3.mono (by simp))))) c2 c4)
    have B3 := Lib.hid (below2 B2.out (((Below.refl _ _).alloc (Nat.le_refl _) _).trans (hb3.mono (by simp))))
    have hp2 : p2 < w3.heap.size := cell_lt c2
    have hq : q < w3.heap.size := cell_lt s0
    clear hb3 c2
    obtain ⟨n, hn⟩ : ∃ n, n = prim (a0 % 11) := ⟨_, rfl⟩
    have K4 : Hid (Says Try.prog (fun _ => False) 18 #[.iface 130 (.pointer (some ⟨p2, 0, none⟩))] (.int .u8 n) w3) := by rw [hn]; exact K3
    have HP : Hid (∀ w, Calls Try.prog 19 #[.int .u8 a0] w fun e w' => e = .returned (.int .u8 n) ∧ w = w') := by rw [hn]; exact fun w => prim_any a0 w b0
    clear K K3 hn
    go_wp2_with (first | (go_at_call 17; go_in))
    refine (K4.out _ (Same.of_below ((Below.refl _ _).alloc (Nat.le_refl _) _))).mono ?_
    rintro e w4 ⟨rfl, hb4⟩
    have hb34 : Below w3.heap.size w3 w4 := ((Below.refl _ _).alloc (Nat.le_refl _) _).trans (hb4.mono (by simp))
    have t0 := Go.Mine.Below.cellAt hb34 s0
    have t1 := Go.Mine.Below.cellAt hb34 s1
    have d4 := Go.Mine.Below.cellAt hb34 c4
    have hp4 : p2 < w4.heap.size := cell_lt d4
    have B4 := Lib.hid (below2 B3.out hb34)
    clear hb4 hb34 s0 s1 c4
    go_wp2_with fail
    refine (HP.out _).mono ?_
    rintro e w' ⟨rfl, rfl⟩
    go_wp2_with fail
    refine (not_assign p2 a5 _ hp4 d4).mono ?_
    rintro e w5 ⟨rfl, hb5⟩
    have B5 := Lib.hid (below2 B4.out hb5)
    clear hb5
    go_wp2_with fail
    go_ret
    exact ⟨rfl, B5.out.alloc (by have := B5.out.size; omega) _⟩
end Go.Proofs.Ytiejadamfgbidaa.fnAssignStmtValueTypeIsRightSide
