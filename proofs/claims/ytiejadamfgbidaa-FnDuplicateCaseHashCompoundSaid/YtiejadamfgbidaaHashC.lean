/- 'duplicateCaseHash' on dot and index accesses; the builders of the law 'FnDuplicateCaseHashCompound' with what their nodes hash to. No conditions beyond their hypotheses. -/
import Derived.Test.YtiejadamfgbidaaHashB
namespace Go.Proofs.Ytiejadamfgbidaa.dup
open Go.ChangeShapes Go.WideShapes Go.ChangeAt Go.RowKit Go.Mine
set_option linter.unusedVariables false
set_option maxRecDepth 100000

theorem bal {a w : World} (h : Below a.heap.size a w) (o : Obj) : Below a.heap.size a (w.alloc o) := h.alloc h.size _
theorem blkNew {w : World} {q : Nat} (C : Array Value) (t : TypeId) (h : q = w.heap.size) : Blk (w.alloc (.cells C t)) q C t := by subst h; exact Blk.new w C t
def dotH (h : Int) (ok : Bool) (s : ByteArray) : Int := if ok then hcs (hc 7 h) s else 0
def idxH (h : Int) (ok : Bool) (h2 : Int) (ok2 : Bool) : Int := if ok then (if ok2 then hc (hc 8 h) h2 else 0) else 0
set_option maxHeartbeats 1000000 in
theorem h_dot (X : Nat → Prop) (T q : Nat) (v : Value) (l l2 h : Int) (ok : Bool) (s : ByteArray) (w : World) (hx : ¬ X q) (hz : s.size ≤ 1048576) (hs0 : Says Try.prog X 56 #[.agg #[.iface T v, .int .i32 l]] (hv h ok) w) (c0 : w.cell? ⟨q, 0, none⟩ = some (.iface T v)) (c1 : w.cell? ⟨q, 1, none⟩ = some (.int .i32 l)) (c2 : w.cell? ⟨q, 2, none⟩ = some (.string s)) :
    Says Try.prog X 56 #[.agg #[.iface 161 (.pointer (some ⟨q, 0, none⟩)), .int .i32 l2]] (hv (dotH h ok s) ok) w := by
  intro w' hs
  have d0 := hs.cell hx c0
  have d1 := hs.cell hx c1
  have d2 := hs.cell hx c2
  have hq := cell_lt d0
  have H := Lib.hid (hs0.later hs)
  have C := Lib.hid hc58
  clear hs c0 c1 c2 hs0
  unfold hv dotH at *
  go_enter Try.func56, Try.ntmps56
  go_wp2_with fail
  refine (H.out _ (Same.of_below ((Below.refl _ _).alloc (Nat.le_refl _) _))).mono ?_
  rintro e w2 ⟨rfl, hb2⟩
  have hb3 := below2 ((Below.refl w'.heap.size w').alloc (Nat.le_refl _) _) hb2
  have e2 := bcell hb3 d2
  have hq2 := cell_lt e2
  have B := Lib.hid hb3
  clear hb2 hb3 d0 d1 d2
  cases ok with
  | false =>
    go_wp2_with fail
    go_ret2
    exact ⟨rfl, B.out⟩
  | true =>
    simp only [if_true]
    have D := Lib.hid fun w => hcs60 (hc 7 h) s w hz
    have HC : Hid (∀ w', Below w2.heap.size w2 w' → w'.cell? ⟨q, 2, none⟩ = some (.string s)) := fun w' h => bcell h e2
    go_wp2_with fail
    go_region_held3 (fun w' => w'.cell? ⟨q, 2, none⟩ = some (.string s)) ((refine HC.out _ ?_; (repeat (first | with_reducible exact Below.refl _ _ | with_reducible refine Below.drew ?_ | with_reducible refine below2 ?_ BL.out)); done))
      (first
        | (go_at_call 58; (with_reducible refine (C.out _ _ _).mono ?_); rintro e w4 ⟨rfl, rfl⟩)
        | (go_at_call 60; (with_reducible refine (D.out _).mono ?_); rintro e wL ⟨rfl, bL⟩; have BL := Lib.hid bL; clear bL))
    all_goals
      go_wp2_with fail
      go_ret2
      exact ⟨rfl, below2 B.out (by repeat (first | with_reducible exact Below.refl _ _ | with_reducible refine Below.drew ?_ | with_reducible refine below2 ?_ BL.out))⟩
set_option maxHeartbeats 1000000 in
theorem h_idx (X : Nat → Prop) (T q T2 : Nat) (v v2 : Value) (l l2 l3 h h2 : Int) (ok ok2 : Bool) (w : World) (hx : ¬ X q) (hs0 : Says Try.prog X 56 #[.agg #[.iface T v, .int .i32 l]] (hv h ok) w) (hs1 : Says Try.prog X 56 #[.agg #[.iface T2 v2, .int .i32 l2]] (hv h2 ok2) w)
    (c0 : w.cell? ⟨q, 0, none⟩ = some (.iface T v)) (c1 : w.cell? ⟨q, 1, none⟩ = some (.int .i32 l)) (c2 : w.cell? ⟨q, 2, none⟩ = some (.iface T2 v2)) (c3 : w.cell? ⟨q, 3, none⟩ = some (.int .i32 l2)) :
    Says Try.prog X 56 #[.agg #[.iface 165 (.pointer (some ⟨q, 0, none⟩)), .int .i32 l3]] (hv (idxH h ok h2 ok2) (ok && ok2)) w := by
  intro w' hs
  have d0 := hs.cell hx c0
  have d1 := hs.cell hx c1
  have d2 := hs.cell hx c2
  have d3 := hs.cell hx c3
  have hq := cell_lt d0
  have H := Lib.hid (hs0.later hs)
  have H1 := Lib.hid (hs1.later hs)
  have C := Lib.hid hc58
  clear hs c0 c1 c2 c3 hs0 hs1
  unfold hv idxH at *
  go_enter Try.func56, Try.ntmps56
  go_wp2_with fail
  refine (H.out _ (Same.of_below ((Below.refl _ _).alloc (Nat.le_refl _) _))).mono ?_
  rintro e w2 ⟨rfl, hb2⟩
  have hb3 := below2 ((Below.refl w'.heap.size w').alloc (Nat.le_refl _) _) hb2
  have e2 := bcell hb3 d2
  have e3 := bcell hb3 d3
  have hq2 := cell_lt e2
  have B := Lib.hid hb3
  clear hb2 hb3 d0 d1 d2 d3
  cases ok with
  | false =>
    go_wp2_with fail
    go_ret2
    exact ⟨rfl, B.out⟩
  | true =>
    simp only [if_true, Bool.true_and]
    go_wp2_with fail
    refine (H1.out _ (Same.of_below B.out)).mono ?_
    rintro e w4 ⟨rfl, hb4⟩
    have B4 := Lib.hid (below2 B.out hb4)
    clear hb4
    cases ok2
    all_goals
      simp only [if_true, Bool.false_eq_true, if_false]
      go_wp2_with (first | (go_at_call 58; (with_reducible refine (C.out _ _ _).mono ?_); rintro e w5 ⟨rfl, rfl⟩))
      go_ret2
      exact ⟨rfl, B4.out⟩
theorem h40 (X : Nat → Prop) (T : Nat) (v : Value) (l h : Int) (ok : Bool) (w : World) (hs0 : Says Try.prog X 56 #[.agg #[.iface T v, .int .i32 l]] (hv h ok) w) : Says Try.prog X 40 #[.agg #[.iface T v, .int .i32 l]] (hv h ok) w := by
  intro w' hs
  have H := Lib.hid (hs0.later hs)
  clear hs hs0
  unfold hv at *
  go_enter Try.func40, Try.ntmps40
  go_wp2_with fail
  refine (H.out _ (Same.of_below ((Below.refl _ _).alloc (Nat.le_refl _) _))).mono ?_
  rintro e w2 ⟨rfl, hb2⟩
  have B := Lib.hid (below2 ((Below.refl w'.heap.size w').alloc (Nat.le_refl _) _) hb2)
  clear hb2
  go_wp2_with fail
  go_ret2
  exact ⟨rfl, B.out⟩

/-- A built expression that hashes to (h, ok). -/
def Hashes (X : Nat → Prop) (h : Int) (ok : Bool) (w : World) (e : Ending) (w' : World) : Prop :=
  ∃ T p l, e = .returned (.agg #[.iface T (.pointer (some ⟨p, 0, none⟩)), .int .i32 l]) ∧ Below w.heap.size w w' ∧ Says Try.prog X 56 #[.agg #[.iface T (.pointer (some ⟨p, 0, none⟩)), .int .i32 l]] (hv h ok) w'
/-- The blocks in X are variables that hold an expression. -/
def Vars (X : Nat → Prop) (w : World) : Prop := ∀ k, X k → k < w.heap.size ∧ (w.cell? ⟨k, 0, none⟩ = some .nilIface ∨ ∃ T v, w.cell? ⟨k, 0, none⟩ = some (.iface T v))
theorem Vars.not {X : Nat → Prop} {w w' : World} (h : Vars X w) (hb : Below w.heap.size w w') {p : Nat} {u : Value} (hc : w'.cell? ⟨p, 0, none⟩ = some u) (hu : u ≠ .nilIface ∧ ∀ T v, u ≠ .iface T v) : ¬ X p := by
  intro hx
  rcases (h p hx).2 with e | ⟨T, v, e⟩
  · have := bcell hb e; rw [hc] at this; exact hu.1 (Option.some.inj this)
  · have := bcell hb e; rw [hc] at this; exact hu.2 T v (Option.some.inj this)
theorem Vars.new {X : Nat → Prop} {w : World} (h : Vars X w) {q : Nat} (hq : w.heap.size ≤ q) : ¬ X q := fun hx => by have := (h q hx).1; omega
theorem Vars.below {X : Nat → Prop} {w w' : World} (h : Vars X w) (hb : Below w.heap.size w w') : Vars X w' := fun k hk =>
  ⟨Nat.lt_of_lt_of_le (h k hk).1 hb.size, (h k hk).2.elim (fun e => .inl (bcell hb e)) (fun ⟨T, v, e⟩ => .inr ⟨T, v, bcell hb e⟩)⟩
section
variable (x : Nat) (b : Bool) (z : List Int) (r : Int)
theorem lf0 : leafH 0 x b z r = 0 := by unfold leafH; rw [if_neg (by decide), if_neg (by decide), if_neg (by decide), if_neg (by decide), if_neg (by decide)]
theorem lo0 : leafOk 0 = true := by decide
theorem lf1 : leafH 1 x b z r = 1 := by unfold leafH; rw [if_pos rfl]
theorem lo1 : leafOk 1 = true := by decide
theorem lf2 : leafH 2 x b z r = (if b then hc 2 1 else hc 2 0) := by unfold leafH; rw [if_neg (by decide), if_pos rfl]
theorem lo2 : leafOk 2 = true := by decide
theorem lf3 : leafH 3 x b z r = numH x := by unfold leafH; rw [if_neg (by decide), if_neg (by decide), if_pos rfl]
theorem lo3 : leafOk 3 = true := by decide
theorem lf4 : leafH 4 x b z r = listH z := by unfold leafH; rw [if_neg (by decide), if_neg (by decide), if_neg (by decide), if_pos rfl]
theorem lo4 : leafOk 4 = true := by decide
theorem lf5 : leafH 5 x b z r = hc 6 r := by unfold leafH; rw [if_neg (by decide), if_neg (by decide), if_neg (by decide), if_neg (by decide), if_pos rfl]
theorem lo5 : leafOk 5 = true := by decide
theorem lf6 : leafH 6 x b z r = 0 := by unfold leafH; rw [if_neg (by decide), if_neg (by decide), if_neg (by decide), if_neg (by decide), if_neg (by decide)]
theorem lo6 : leafOk 6 = false := by decide
end
theorem leaf34 (X : Nat → Prop) (a0 : Int) (x : Nat) (b : Bool) (a : Option Addr) (n c : Nat) (z : List Int) (r : Int) (w : World) (hV : Vars X w) (hX : ∀ x, a = some x → ¬ X x.block) (h0 : 0 ≤ a0) (hr : IntRow .u16 w a n c z) :
    Calls Try.prog 34 #[.int .u8 a0, .float .f64 x, .bool b, .slice a n c, .int .u32 r] w (Hashes X (leafH (a0 % 7) x b z r) (leafOk (a0 % 7)) w) := by
  refine (mk_any a0 x b a n c r w h0).mono fun e w' ⟨T, p, he, hb, hp, hc⟩ => ⟨T, p, 0, he, hb, ?_⟩
  generalize a0 % 7 = k at hc ⊢
  rcases hc with ⟨rfl, rfl⟩ | ⟨rfl, rfl⟩ | ⟨rfl, rfl, hc⟩ | ⟨rfl, rfl, hc⟩ | ⟨rfl, rfl, hc⟩ | ⟨rfl, rfl, hc0, hc⟩ | ⟨rfl, rfl⟩
  · rw [lf0, lo0]; exact h_null _ _ _ _ _ _ (.inl ⟨rfl, rfl⟩)
  · rw [lf1, lo1]; exact h_null _ _ _ _ _ _ (.inr ⟨rfl, rfl⟩)
  · rw [lf2, lo2]; exact h_bool _ _ _ _ _ (hV.not hb hc ⟨by simp, by simp⟩) hc
  · rw [lf3, lo3]; exact h_num _ _ _ _ _ (hV.not hb hc ⟨by simp, by simp⟩) hc
  · rw [lf4, lo4]; exact h_str _ _ _ _ _ _ _ _ (hV.not hb hc ⟨by simp, by simp⟩) hX hc (hr.below hb)
  · rw [lf5, lo5]; exact h_id _ _ _ _ _ (hV.not hb hc0 ⟨by simp, by simp⟩) hc
  · rw [lf6, lo6]; exact h_arr _ _ _ _
theorem wrap_new (T : Nat) (v : Value) (l : Int) (w : World) :
    Calls Try.prog 33 #[.agg #[.iface T v, .int .i32 l], .bool true] w fun e w' => ∃ q, e = .returned (.agg #[.iface 41 (.pointer (some ⟨q, 0, none⟩)), .int .i32 0]) ∧ Below w.heap.size w w' ∧ w'.cell? ⟨q, 0, none⟩ = some (.iface T v) ∧ w'.cell? ⟨q, 1, none⟩ = some (.int .i32 l) ∧ w.heap.size ≤ q := by
  go_enter Try.func33, Try.ntmps33
  go_wp2_with (first | (go_at_call 46; refine (in46 T v l _).mono ?_; rintro e w' ⟨rfl, o1, o2, C, t, rfl, hC, hC2⟩; have HC := Lib.hid hC; have HC2 := Lib.hid hC2; clear hC hC2))
  refine bodyPost_ret (v := .agg #[_, .int .i32 0]) (by simp [results, Try.results33, go_sem]; try (first | exact ⟨rfl, rfl⟩ | rfl)) rfl ⟨_, rfl, ?_, by simp [go_sem, HC.out], by simp [go_sem, HC2.out], by first | omega | (simp <;> omega)⟩
  go_light
  repeat (first | with_reducible exact Below.refl _ _ | with_reducible refine Below.drew ?_ | with_reducible refine Below.alloc ?_ (by simp <;> omega) _ | with_reducible refine Below.setCell ?_ (by simp <;> omega) _)
theorem wrap33 (X : Nat → Prop) (T p : Nat) (l h : Int) (ok b : Bool) (w : World) (hV : Vars X w) (hs0 : Says Try.prog X 56 #[.agg #[.iface T (.pointer (some ⟨p, 0, none⟩)), .int .i32 l]] (hv h ok) w) :
    Calls Try.prog 33 #[.agg #[.iface T (.pointer (some ⟨p, 0, none⟩)), .int .i32 l], .bool b] w (Hashes X h ok w) := by
  cases b with
  | false => exact (wrap_no T _ l w).mono fun e w' ⟨he, hb⟩ => ⟨_, _, _, he, hb, hs0.later (Same.of_below hb)⟩
  | true => exact (wrap_new T _ l w).mono fun e w' ⟨q, he, hb, hc0, hc1, hq⟩ => ⟨_, _, _, he, hb, h_enum _ _ _ _ _ _ _ _ _ (hV.new hq) (hs0.later (Same.of_below hb)) hc0 hc1⟩
theorem dot39 (X : Nat → Prop) (T p : Nat) (l h : Int) (ok : Bool) (s : ByteArray) (w : World) (hV : Vars X w) (hz : s.size ≤ 1048576) (hs0 : Says Try.prog X 56 #[.agg #[.iface T (.pointer (some ⟨p, 0, none⟩)), .int .i32 l]] (hv h ok) w) :
    Calls Try.prog 39 #[.agg #[.iface T (.pointer (some ⟨p, 0, none⟩)), .int .i32 l], .string s] w (Hashes X (dotH h ok s) ok w) := by
  have K := Lib.hid fun q l2 w' (hb : Below w.heap.size w w') (hq : w.heap.size ≤ q) => h_dot X T q (.pointer (some ⟨p, 0, none⟩)) l l2 h ok s w' (hV.new hq) hz (hs0.later (Same.of_below hb))
  clear hs0
  go_enter Try.func39, Try.ntmps39
  go_wp2_with fail
  refine bodyPost_ret (v := .agg #[.iface 161 (.pointer (some ⟨_, 0, none⟩)), .int .i32 0]) (by simp [results, Try.results39, go_sem]; try (first | exact ⟨rfl, rfl⟩ | rfl)) rfl ⟨_, _, _, rfl, ?_, K.out _ _ _ ?_ ?_ ?_ ?_ ?_⟩
  all_goals go_light
  case refine_1 => repeat (first | with_reducible exact Below.refl _ _ | with_reducible refine Below.drew ?_ | with_reducible refine Below.alloc ?_ (by simp <;> omega) _ | with_reducible refine Below.setCell ?_ (by simp <;> omega) _)
  case refine_2 => repeat (first | with_reducible exact Below.refl _ _ | with_reducible refine Below.drew ?_ | with_reducible refine Below.alloc ?_ (by simp <;> omega) _ | with_reducible refine Below.setCell ?_ (by simp <;> omega) _)
  case refine_3 => first | omega | (simp <;> omega)
  all_goals simp [go_sem]
theorem idx38 (X : Nat → Prop) (T p T2 p2 : Nat) (l l2 h h2 : Int) (ok ok2 : Bool) (w : World) (hV : Vars X w) (hs0 : Says Try.prog X 56 #[.agg #[.iface T (.pointer (some ⟨p, 0, none⟩)), .int .i32 l]] (hv h ok) w) (hs1 : Says Try.prog X 56 #[.agg #[.iface T2 (.pointer (some ⟨p2, 0, none⟩)), .int .i32 l2]] (hv h2 ok2) w) :
    Calls Try.prog 38 #[.agg #[.iface T (.pointer (some ⟨p, 0, none⟩)), .int .i32 l], .agg #[.iface T2 (.pointer (some ⟨p2, 0, none⟩)), .int .i32 l2]] w (Hashes X (idxH h ok h2 ok2) (ok && ok2) w) := by
  have K := Lib.hid fun q l3 w' (hb : Below w.heap.size w w') (hq : w.heap.size ≤ q) => h_idx X T q T2 (.pointer (some ⟨p, 0, none⟩)) (.pointer (some ⟨p2, 0, none⟩)) l l2 l3 h h2 ok ok2 w' (hV.new hq) (hs0.later (Same.of_below hb)) (hs1.later (Same.of_below hb))
  clear hs0 hs1
  go_enter Try.func38, Try.ntmps38
  go_wp2_with fail
  refine bodyPost_ret (v := .agg #[.iface 165 (.pointer (some ⟨_, 0, none⟩)), .int .i32 0]) (by simp [results, Try.results38, go_sem]; try (first | exact ⟨rfl, rfl⟩ | rfl)) rfl ⟨_, _, _, rfl, ?_, K.out _ _ _ ?_ ?_ ?_ ?_ ?_ ?_⟩
  all_goals go_light
  case refine_1 => repeat (first | with_reducible exact Below.refl _ _ | with_reducible refine Below.drew ?_ | with_reducible refine Below.alloc ?_ (by simp <;> omega) _ | with_reducible refine Below.setCell ?_ (by simp <;> omega) _)
  case refine_2 => repeat (first | with_reducible exact Below.refl _ _ | with_reducible refine Below.drew ?_ | with_reducible refine Below.alloc ?_ (by simp <;> omega) _ | with_reducible refine Below.setCell ?_ (by simp <;> omega) _)
  case refine_3 => first | omega | (simp <;> omega)
  all_goals simp [go_sem]
end Go.Proofs.Ytiejadamfgbidaa.dup
